import JvmDerived
import JvmDerived.Pilot.@@N@@Statement
import JvmDerived.Pilot.@@N@@Code
set_option linter.unusedVariables false
set_option linter.unusedSimpArgs false
namespace Jvm.Pilot.@@N@@
open Jvm Jvm.ClassFile Sem Op Lib Jvm.Free Jvm.Stand Jvm.LawKit Jvm.RoadKit Bundle Jvm.Pilot.@@N@@.Jvm.D
section OwnKit
variable {p : Program} {l : Launch} {e : Env} {R : Room} {s : State} {m : MethodId} {args : Array Value} {below : List Frame} {meth : Method} {c : Code} {T T' : State} {locs : List Loc} {cells slots kc ks : Nat} {g g' : JFrame} {Q : Option Value → Heap → List Loc → Prop} {Z : State} {h h' : Heap} {a0 : Array Value} {En : Outcome → State → List Loc → Nat → Nat → Prop}
/-- from this frame the run comes to the method's end and leaves what Q says -/
def own_Out (p : Program) (e : Env) (below : List Frame) (En : Outcome → State → List Loc → Nat → Nat → Prop) (T : State) (g : JFrame) (Q : Option Value → Heap → List Loc → Prop) (kc ks : Nat) : Prop :=
  ∃ (t : State) (o : Outcome), Steps p.tables e below (T.setTop g) t ∧ t.status = .running ∧ Ended t below o ∧ ∃ (v : Option Value) (L : List Loc), o = .returned v ∧ Q v t.heap L ∧ En o t L kc ks
theorem own_to (st : ∀ t, Steps p.tables e below (T'.setTop g') t → Steps p.tables e below (T.setTop g) t) (k : own_Out p e below En T' g' Q kc ks) : own_Out p e below En T g Q kc ks := by
  obtain ⟨t, o, h1, h2⟩ := k
  exact ⟨t, o, st t h1, h2⟩
theorem own_cast (q : g = g') (k : own_Out p e below En T g' Q kc ks) : own_Out p e below En T g Q kc ks := q ▸ k
/-- a method's contract: called with these arguments over this heap it returns, and Q says what it leaves -/
def own_C (l : Launch) (Z : State) (y : MethodName) (bytes : ByteArray) (maxL : Nat) (ret : Option FieldType) (rm : Room) (as' : Array Value) (h0 : Heap) (Q : Option Value → Heap → List Loc → Prop) : Prop :=
  ∀ ws : List Jvm.Cond, MetFree l y (head1 (Jvm.Cond.code y bytes maxL ret :: ws) rm) (fun a U => a = as' ∧ Z.Warmed39 U.vm ∧ U.heap = h0) (fun _ _ _ _ _ => True) (fun _ U o U' => ∃ v L, o = .returned v ∧ Q v U'.heap L ∧ FrameEnd U o U' L rm.cells rm.slots)
theorem own_met {y : MethodName} {bytes : ByteArray} {maxL : Nat} {ret : Option FieldType} {rm : Room} {as' : Array Value} {h0 : Heap} (pl : plainFor y = true)
    (body : ∀ (p : Program) (e : Env) (s : State) (m : MethodId) (below : List Frame) (meth : Method) (c : Code) (s₁ : State), p.tables.exec = Jvm.exec → c.code = bytes → c.maxLocals = maxL → meth.sig.returnType = ret → meth.locks = false → s.vm.findClass y.cls = some m.cls → meth.name = y.name → Z.Warmed39 s.vm → Stand p l e rm s m as' below meth c s₁ [] 0 0 → s₁.heap = h0 → own_Out p e below (FrameEnd s) s₁ (entryFrame m as' maxL) Q rm.cells rm.slots) :
    own_C l Z y bytes maxL ret rm as' h0 Q := by
  intro ws
  refine MetFree.of_bodySF pl hisR ?_
  intro p e s m args below meth c s₁ Bd hml0 hP hK
  obtain ⟨rfl, hZ, hh⟩ := hP
  exact body p e s m below meth c s₁ Bd.exec Bd.bytes hml0 Bd.returns (BodyLoose.notSynchronized Bd) (findClass_of_methodNamed Bd.named) ((name_of_methodNamed Bd.named Bd.method).1) hZ (Stand.of_body Bd) (by rw [← hh, Bd.state]; rfl)
/-! returns -/
theorem own_retV (X : Stand p l e R s m args below meth c T locs cells slots) (hx : p.tables.exec = Jvm.exec) (hlk : meth.locks = false) {pc : Nat} {Ls : Array Slot} {w : Value} {t : FieldType} {i : Instr} {rest : List Value} (hret : meth.sig.returnType = some t) (hn : narrow t w = w)
    (hi : (i = .ireturn ∧ (t = .int ∨ t = .boolean ∨ t = .byte ∨ t = .char ∨ t = .short) ∧ ∃ z, w = .int z) ∨ (i = .lreturn ∧ t = .long ∧ ∃ z, w = .long z) ∨ (i = .dreturn ∧ t = .double ∧ ∃ z, w = .double z) ∨ (i = .freturn ∧ t = .float ∧ ∃ z, w = .float z) ∨ (i = .areturn ∧ t.isReference = true ∧ w.isRef = true))
    (hd : decode c.code pc = .ok (i, 1)) (hc : cells ≤ kc) (hs : slots ≤ ks) (hQ : Q (some w) T.heap locs) : own_Out p e below (FrameEnd s) T (mkF m pc Ls (w :: rest)) Q kc ks := by
  obtain ⟨fs, hr, hrun, hended, hW, hsame⟩ := X.leave (v := some w) (fun h => by rw [hret] at h; cases h) hlk
  exact ⟨_, _, retOut X hx hret hn hi hd hr, hrun, hended, _, _, rfl, hQ, ⟨_, rfl⟩, hW, hsame.mono hc hs⟩
theorem own_retI (X : Stand p l e R s m args below meth c T locs cells slots) (hx : p.tables.exec = Jvm.exec) (hlk : meth.locks = false) (hret : meth.sig.returnType = some .int) {pc : Nat} {Ls : Array Slot} {z : Int32} {rest : List Value}
    (hd : decode c.code pc = .ok (.ireturn, 1)) (hc : cells ≤ kc) (hs : slots ≤ ks) (hQ : Q (some (.int z)) T.heap locs) : own_Out p e below (FrameEnd s) T (mkF m pc Ls (.int z :: rest)) Q kc ks :=
  own_retV X hx hlk hret rfl (Or.inl ⟨rfl, Or.inl rfl, _, rfl⟩) hd hc hs hQ
theorem own_retJ (X : Stand p l e R s m args below meth c T locs cells slots) (hx : p.tables.exec = Jvm.exec) (hlk : meth.locks = false) (hret : meth.sig.returnType = some .long) {pc : Nat} {Ls : Array Slot} {z : Int64} {rest : List Value}
    (hd : decode c.code pc = .ok (.lreturn, 1)) (hc : cells ≤ kc) (hs : slots ≤ ks) (hQ : Q (some (.long z)) T.heap locs) : own_Out p e below (FrameEnd s) T (mkF m pc Ls (.long z :: rest)) Q kc ks :=
  own_retV X hx hlk hret rfl (Or.inr (Or.inl ⟨rfl, rfl, _, rfl⟩)) hd hc hs hQ
theorem own_retA (X : Stand p l e R s m args below meth c T locs cells slots) (hx : p.tables.exec = Jvm.exec) (hlk : meth.locks = false) {t : FieldType} (hret : meth.sig.returnType = some t) (ht : t.isReference = true) {pc : Nat} {Ls : Array Slot} {z : Addr} {rest : List Value}
    (hd : decode c.code pc = .ok (.areturn, 1)) (hc : cells ≤ kc) (hs : slots ≤ ks) (hQ : Q (some (.ref z)) T.heap locs) : own_Out p e below (FrameEnd s) T (mkF m pc Ls (.ref z :: rest)) Q kc ks :=
  own_retV X hx hlk hret (by cases t <;> rfl) (Or.inr (Or.inr (Or.inr (Or.inr ⟨rfl, ht, rfl⟩)))) hd hc hs hQ
/-- a boolean, byte, char or short: the value is narrowed -/
theorem own_retN (X : Stand p l e R s m args below meth c T locs cells slots) (hx : p.tables.exec = Jvm.exec) (hlk : meth.locks = false) {t : FieldType} (hret : meth.sig.returnType = some t) (ht : t = .boolean ∨ t = .byte ∨ t = .char ∨ t = .short) {pc : Nat} {Ls : Array Slot} {z : Int32} {rest : List Value}
    (hd : decode c.code pc = .ok (.ireturn, 1)) (hc : cells ≤ kc) (hs : slots ≤ ks) (hQ : Q (some (.int (nar t z))) T.heap locs) : own_Out p e below (FrameEnd s) T (mkF m pc Ls (.int z :: rest)) Q kc ks := by
  obtain ⟨fs, hr, hrun, hended, hW, hsame⟩ := X.leave (v := some (.int (nar t z))) (fun h => by rw [hret] at h; cases h) hlk
  exact ⟨_, _, retN X hx hret ht hd hr, hrun, hended, _, _, rfl, hQ, ⟨_, rfl⟩, hW, hsame.mono hc hs⟩
theorem own_ret0 (X : Stand p l e R s m args below meth c T locs cells slots) (hx : p.tables.exec = Jvm.exec) (hlk : meth.locks = false) (hret : meth.sig.returnType = none) {pc : Nat} {Ls : Array Slot}
    (hd : decode c.code pc = .ok (.return_, 1)) (hc : cells ≤ kc) (hs : slots ≤ ks) (hQ : Q none T.heap locs) : own_Out p e below (FrameEnd s) T (mkF m pc Ls []) Q kc ks := by
  obtain ⟨fs, hr, hrun, hended, hW, hsame⟩ := X.leave (v := none) (fun _ => rfl) hlk
  exact ⟨_, _, X.returnOut hx hret hd hr, hrun, hended, _, _, rfl, hQ, ⟨_, rfl⟩, hW, hsame.mono hc hs⟩
/-! calls -/
theorem own_callS (X : Stand p l e R s m args below meth c T locs cells slots) (hx : p.tables.exec = Jvm.exec) (hZ : Z.Warmed39 s.vm) {own : String} (hown : s.vm.findClass own = some m.cls) {index : Nat} {y : MethodName} {bytes : ByteArray} {maxL : Nat} {ret : Option FieldType} {rm : Room} {W : Nat} {Qc : Option Value → Heap → List Loc → Prop} {argsL rest : List Value}
    (w1 : (Jvm.Cond.methodLink own index y).before a0 Z = true) (w2 : (Jvm.Cond.static y).before a0 Z = true) (w3 : (Jvm.Cond.initialized y.cls).before a0 Z = true) (w4 : (Jvm.Cond.code y bytes maxL ret).before a0 Z = true) (hy : y.cls ≠ "java/lang/invoke/MethodHandle" ∧ y.cls ≠ "java/lang/invoke/VarHandle")
    (hM : own_C l Z y bytes maxL ret rm argsL.toArray h Qc) (hf : rm.frames + 1 ≤ R.frames) (hl : W + (maxL + 11) + rm.locals ≤ R.locals) (eT : T.heap = h) (hg : g.method = m) (hsize : g.locals.size = c.maxLocals) (hlen : ∀ sig, parseMethodDescriptor y.desc = some sig → argsL.length = sig.parameters.length)
    (hstack : g.stack = argsL.reverse ++ rest) (hW : 2 * g.monitorRoom + (rest.map fun v => v.category).sum ≤ W) (hd : decode c.code g.pc = .ok (.invokestatic index, 3)) (hc : cells + rm.cells ≤ R.cells) (hs : slots + rm.slots ≤ R.slots)
    (k : ∀ (v : Option Value) (T' : State) (h' : Heap) (L : List Loc), Stand p l e R s m args below meth c T' (locs ++ L) (cells + rm.cells) (slots + rm.slots) → T'.heap = h' → Qc v h' L → own_Out p e below En T' { g with pc := g.pc + 3, stack := v.toList ++ rest } Q kc ks) : own_Out p e below En T g Q kc ks := by
  obtain ⟨v, _, ⟨T', L', k', n'⟩, -, X', ⟨Lc, hQ, l1, l2, l3⟩, st⟩ := Jvm.LawKit.callS X hx hown (mvT hZ w1) (mvT hZ w2) (mvT hZ w3) (mvT hZ w4) hy (backOf (W := W) (hM []) hZ w4 w3 hf hl) hg hsize hlen hstack hW hd (fun _ _ => ⟨rfl, eT, hc, hs⟩)
  dsimp only [Pt.U, Pt.locs, Pt.cells, Pt.slots] at X' l1 l2 l3 st hQ
  subst l1 l2 l3
  exact own_to st (k v T' _ Lc X' rfl hQ)
/-- a constructor -/
theorem own_callC (X : Stand p l e R s m args below meth c T locs cells slots) (hx : p.tables.exec = Jvm.exec) (hZ : Z.Warmed39 s.vm) {own : String} (hown : s.vm.findClass own = some m.cls) {index : Nat} {y : MethodName} {bytes : ByteArray} {maxL : Nat} {rm : Room} {W : Nat} {Qc : Option Value → Heap → List Loc → Prop} {a : Addr} {argsL rest : List Value}
    (hy1 : y.name = "<init>") (w1 : (Jvm.Cond.methodLink own index y).before a0 Z = true) (w2 : (Jvm.Cond.instanceMethod y).before a0 Z = true) (w3 : (Jvm.Cond.initialized y.cls).before a0 Z = true) (w4 : (Jvm.Cond.code y bytes maxL none).before a0 Z = true) (hy : y.cls ≠ "java/lang/invoke/MethodHandle" ∧ y.cls ≠ "java/lang/invoke/VarHandle")
    (hM : own_C l Z y bytes maxL none rm (.ref a :: argsL).toArray h Qc) (hf : rm.frames + 1 ≤ R.frames) (hl : W + (maxL + 11) + rm.locals ≤ R.locals) (eT : T.heap = h) (hg : g.method = m) (hsize : g.locals.size = c.maxLocals) (hlen : ∀ sig, parseMethodDescriptor y.desc = some sig → argsL.length = sig.parameters.length)
    (hstack : g.stack = argsL.reverse ++ .ref a :: rest) (hW : 2 * g.monitorRoom + (rest.map fun v => v.category).sum ≤ W) (hd : decode c.code g.pc = .ok (.invokespecial index, 3)) (hc : cells + rm.cells ≤ R.cells) (hs : slots + rm.slots ≤ R.slots)
    (k : ∀ (v : Option Value) (T' : State) (h' : Heap) (L : List Loc), Stand p l e R s m args below meth c T' (locs ++ L) (cells + rm.cells) (slots + rm.slots) → T'.heap = h' → Qc v h' L → own_Out p e below En T' { g with pc := g.pc + 3, stack := v.toList ++ rest } Q kc ks) : own_Out p e below En T g Q kc ks := by
  obtain ⟨v, _, ⟨T', L', k', n'⟩, -, X', ⟨Lc, hQ, l1, l2, l3⟩, st⟩ := X.specialBack hx hy1 hown (mvT hZ w1) (mvT hZ w2) (mvT hZ w4) hy (backOf (W := W) (hM []) hZ w4 w3 hf hl) hg hsize (Steps.refl _) hlen hstack hW hd (fun _ _ => ⟨rfl, eT, hc, hs⟩)
  dsimp only [Pt.U, Pt.locs, Pt.cells, Pt.slots] at X' l1 l2 l3 st hQ
  subst l1 l2 l3
  exact own_to (fun t k => st.trans k) (k v T' _ Lc X' rfl hQ)
/-- an instance method of the object's own class -/
theorem own_callV (X : Stand p l e R s m args below meth c T locs cells slots) (hx : p.tables.exec = Jvm.exec) (hZ : Z.Warmed39 s.vm) {own C : String} (hown : s.vm.findClass own = some m.cls) {index : Nat} {y : MethodName} {bytes : ByteArray} {maxL : Nat} {ret : Option FieldType} {rm : Room} {W : Nat} {Qc : Option Value → Heap → List Loc → Prop} {a : Addr} {argsL rest : List Value}
    (w1 : (Jvm.Cond.methodLink own index y).before a0 Z = true) (w5 : (Jvm.Cond.declares y).before a0 Z = true) (w6 : (Jvm.Cond.selects C y y).before a0 Z = true) (w2 : (Jvm.Cond.instanceMethod y).before a0 Z = true) (w3 : (Jvm.Cond.initialized y.cls).before a0 Z = true) (w4 : (Jvm.Cond.code y bytes maxL ret).before a0 Z = true) (hy : y.cls ≠ "java/lang/invoke/MethodHandle" ∧ y.cls ≠ "java/lang/invoke/VarHandle")
    (hM : own_C l Z y bytes maxL ret rm (.ref a :: argsL).toArray h Qc) (hf : rm.frames + 1 ≤ R.frames) (hl : W + (maxL + 11) + rm.locals ≤ R.locals) (eT : T.heap = h) (E : Exa Z h a C) (hg : g.method = m) (hsize : g.locals.size = c.maxLocals) (hlen : ∀ sig, parseMethodDescriptor y.desc = some sig → argsL.length = sig.parameters.length)
    (hstack : g.stack = argsL.reverse ++ .ref a :: rest) (hW : 2 * g.monitorRoom + (rest.map fun v => v.category).sum ≤ W) (hd : decode c.code g.pc = .ok (.invokevirtual index, 3)) (hc : cells + rm.cells ≤ R.cells) (hs : slots + rm.slots ≤ R.slots)
    (k : ∀ (v : Option Value) (T' : State) (h' : Heap) (L : List Loc), Stand p l e R s m args below meth c T' (locs ++ L) (cells + rm.cells) (slots + rm.slots) → T'.heap = h' → Qc v h' L → own_Out p e below En T' { g with pc := g.pc + 3, stack := v.toList ++ rest } Q kc ks) : own_Out p e below En T g Q kc ks := by
  obtain ⟨cq, kq, qa, qb, qc⟩ := isOf hZ eT E
  obtain ⟨v, _, ⟨T', L', k', n'⟩, -, X', ⟨Lc, hQ, l1, l2, l3⟩, st⟩ := X.virtualBack hx hown (mvT hZ w1) (mvT hZ w5) (notFace_of_selects (args := #[]) (mvT hZ w6)) (mvT hZ w6) (mvT hZ w2) hy (backOf (W := W) (hM []) hZ w4 w3 hf hl) qa qc hg hsize (Steps.refl _) hlen hstack hW hd (fun _ _ => ⟨rfl, eT, hc, hs⟩)
  dsimp only [Pt.U, Pt.locs, Pt.cells, Pt.slots] at X' l1 l2 l3 st hQ
  subst l1 l2 l3
  exact own_to (fun t k => st.trans k) (k v T' _ Lc X' rfl hQ)
/-- a private method of the object's own class, by invokevirtual -/
theorem own_callP (X : Stand p l e R s m args below meth c T locs cells slots) (hx : p.tables.exec = Jvm.exec) (hZ : Z.Warmed39 s.vm) {own C : String} (hown : s.vm.findClass own = some m.cls) {index kk : Nat} {y : MethodName} {bytes : ByteArray} {maxL : Nat} {ret : Option FieldType} {rm : Room} {W : Nat} {Qc : Option Value → Heap → List Loc → Prop} {a : Addr} {argsL rest : List Value}
    (w1 : (Jvm.Cond.methodLink own index y).before a0 Z = true) (w5 : (Jvm.Cond.privateMethod y).before a0 Z = true) (w6 : (Jvm.Cond.instantiable y.cls kk).before a0 Z = true) (w2 : (Jvm.Cond.instanceMethod y).before a0 Z = true) (w3 : (Jvm.Cond.initialized y.cls).before a0 Z = true) (w4 : (Jvm.Cond.code y bytes maxL ret).before a0 Z = true) (hy : y.cls ≠ "java/lang/invoke/MethodHandle" ∧ y.cls ≠ "java/lang/invoke/VarHandle")
    (hM : own_C l Z y bytes maxL ret rm (.ref a :: argsL).toArray h Qc) (hf : rm.frames + 1 ≤ R.frames) (hl : W + (maxL + 11) + rm.locals ≤ R.locals) (eT : T.heap = h) (E : Exa Z h a C) (hg : g.method = m) (hsize : g.locals.size = c.maxLocals) (hlen : ∀ sig, parseMethodDescriptor y.desc = some sig → argsL.length = sig.parameters.length)
    (hstack : g.stack = argsL.reverse ++ .ref a :: rest) (hW : 2 * g.monitorRoom + (rest.map fun v => v.category).sum ≤ W) (hd : decode c.code g.pc = .ok (.invokevirtual index, 3)) (hc : cells + rm.cells ≤ R.cells) (hs : slots + rm.slots ≤ R.slots)
    (k : ∀ (v : Option Value) (T' : State) (h' : Heap) (L : List Loc), Stand p l e R s m args below meth c T' (locs ++ L) (cells + rm.cells) (slots + rm.slots) → T'.heap = h' → Qc v h' L → own_Out p e below En T' { g with pc := g.pc + 3, stack := v.toList ++ rest } Q kc ks) : own_Out p e below En T g Q kc ks := by
  obtain ⟨cq, q, q'⟩ := E.cell
  have hp : s.PrivateAt y := Cond.privateMethod_at (mvP hZ w5 (args := #[]))
  obtain ⟨cy, ky, f1, f2, -, f3, -⟩ := Cond.instantiable_spec (mvT (args := args) hZ w6)
  have hi : ky.isInterface = false := (Bool.or_eq_false_iff.mp f3).1
  have hse : (Jvm.Cond.selects y.cls y y).before args s = true := selects_self_of_private f1 f2 hi hp (mvT hZ w2) hy
  obtain ⟨v, _, ⟨T', L', k', n'⟩, -, X', ⟨Lc, hQ, l1, l2, l3⟩, st⟩ := X.privateBack hx hown (mvT hZ w1) (mvT hZ w2) hse hp (mvT hZ w4) hy (backOf (W := W) (hM []) hZ w4 w3 hf hl) hg hsize (Steps.refl _) (by rw [eT]; exact q) q' hlen hstack hW hd (fun _ _ => ⟨rfl, eT, hc, hs⟩)
  dsimp only [Pt.U, Pt.locs, Pt.cells, Pt.slots] at X' l1 l2 l3 st hQ
  subst l1 l2 l3
  exact own_to (fun t k => st.trans k) (k v T' _ Lc X' rfl hQ)
/-! the heap's steps -/
theorem own_getF (X : Stand p l e R s m args below meth c T locs cells slots) (hx : p.tables.exec = Jvm.exec) (hZ : Z.Warmed39 s.vm) {own O n d : String} {index : Nat} (hown : s.vm.findClass own = some m.cls) (w : (Jvm.Cond.fieldLink own index O n d).before a0 Z = true) (eT : T.heap = h) {a : Addr} {v : Value} (F : Fld Z h a O n d v)
    (hg : g.method = m) {rest : List Value} (hs : g.stack = .ref a :: rest) (hd : decode c.code g.pc = .ok (.getfield index, 3)) (k : ∀ T', Stand p l e R s m args below meth c T' locs cells slots → T'.heap = h → own_Out p e below En T' { g with pc := g.pc + 3, stack := v :: rest } Q kc ks) : own_Out p e below En T g Q kc ks := by
  obtain ⟨T', X', e', st⟩ := getF X hx hZ hown (host := "") (Or.inl w) Via.refl eT F hg hs hd
  exact own_to st (k T' X' e')
theorem own_putF (X : Stand p l e R s m args below meth c T locs cells slots) (hx : p.tables.exec = Jvm.exec) (hZ : Z.Warmed39 s.vm) {own O n d C : String} {index kk : Nat} {ty : FieldType} (hown : s.vm.findClass own = some m.cls) (w : (Jvm.Cond.fieldLink own index O n d).before a0 Z = true) (eT : T.heap = h) {a : Addr} {v old : Value} (F : Fld Z h a O n d old) (E : Exa Z h a C)
    (L : (Jvm.Cond.lays C O n d).before a0 Z = true ∨ ((Jvm.Cond.laysFinal C O n d).before a0 Z = true ∧ own = O ∧ meth.name = "<init>")) (wi : (Jvm.Cond.instantiable C kk).before a0 Z = true) (hty : parseFieldDescriptor d = some ty) (hn : narrow ty v = v) (hf : fits ty v = true)
    (hg : g.method = m) {rest : List Value} (hs : g.stack = v :: .ref a :: rest) (hd : decode c.code g.pc = .ok (.putfield index, 3)) (k : ∀ T' h', Stand p l e R s m args below meth c T' (locs ++ [⟨a, Jvm.RoadKit.slotOf Z O n d⟩]) cells slots → T'.heap = h' → Wr h h' a (Jvm.RoadKit.slotOf Z O n d) v → own_Out p e below En T' { g with pc := g.pc + 3, stack := rest } Q kc ks) : own_Out p e below En T g Q kc ks := by
  obtain ⟨T', h', X', e', W', st⟩ := putF X hx hZ hown (host := "") (Or.inl w) Via.refl eT F E L wi hty hn hf hg hs hd
  exact own_to st (k T' h' X' e' W')
theorem own_new (X : Stand p l e R s m args below meth c T locs cells slots) (hx : p.tables.exec = Jvm.exec) (hZ : Z.Warmed39 s.vm) {own C : String} {index n : Nat} (hown : s.vm.findClass own = some m.cls) (w : (Jvm.Cond.classLink own index C).before a0 Z = true) (wi : (Jvm.Cond.instantiable C n).before a0 Z = true) (wz : (Jvm.Cond.initialized C).before a0 Z = true) (eT : T.heap = h)
    (hg : g.method = m) (hd : decode c.code g.pc = .ok (.new index, 3)) (hc : cells + 1 ≤ R.cells) (hl : slots + n ≤ R.slots)
    (k : ∀ T' h' a, a = h.size → Stand p l e R s m args below meth c T' locs (cells + 1) (slots + n) → T'.heap = h' → Ext h h' → Exa Z h' a C → (∀ {O nm d : String} {ty : FieldType}, Laid Z a0 C O nm d → parseFieldDescriptor d = some ty → Fld Z h' a O nm d (defaultValue ty)) → own_Out p e below En T' { g with pc := g.pc + 3, stack := .ref a :: g.stack } Q kc ks) : own_Out p e below En T g Q kc ks := by
  obtain ⟨T', h', X', e', E', A', D', -, st⟩ := newO X hx hZ hown w wi wz eT hg hd hc hl
  exact own_to st (k T' h' _ rfl X' e' E' A' D')
/-! arrays of ints, bytes, booleans: how many places, and what each holds -/
def own_upd (f : Nat → Int32) (j : Nat) (x : Int32) : Nat → Int32 := fun i => if i = j then x else f i
def own_A (Z : State) (h : Heap) (a : Addr) (ty : FieldType) (n : Nat) (f : Nat → Int32) : Prop := ∃ cl : Cell, Arr Z h a cl ty ∧ cl.slots.size = n ∧ ∀ j, j < n → cl.slots[j]? = some (.int (f j))
variable {a b : Addr} {ty : FieldType} {n : Nat} {f : Nat → Int32} {ws : List Addr} {v : Value} {sl : Nat}
theorem own_A.lt (F : own_A Z h a ty n f) : a < h.size := by obtain ⟨_, A, -⟩ := F; exact A.lt
theorem own_A.ext (F : own_A Z h a ty n f) (E : Ext h h') : own_A Z h' a ty n f := by obtain ⟨cl, A, r⟩ := F; exact ⟨cl, A.ext E, r⟩
theorem own_A.other (F : own_A Z h b ty n f) (W : Wr h h' a sl v) (q : b ≠ a) : own_A Z h' b ty n f := by obtain ⟨cl, A, r⟩ := F; exact ⟨cl, A.other W q, r⟩
theorem own_A.keep (F : own_A Z h a ty n f) (K : Keep h h' ws) (q : a ∉ ws) : own_A Z h' a ty n f := by obtain ⟨cl, A, r⟩ := F; exact ⟨cl, ⟨K.2.1 a cl A.1 q, A.2⟩, r⟩
theorem own_A.congr {f' : Nat → Int32} (F : own_A Z h a ty n f) (q : ∀ j, j < n → f j = f' j) : own_A Z h a ty n f' := by obtain ⟨cl, A, r1, r2⟩ := F; exact ⟨cl, A, r1, fun j hj => by rw [r2 j hj, q j hj]⟩
theorem own_A.set {cl : Cell} {j : Nat} {x : Int32} (A : Arr Z h a cl ty) (q1 : cl.slots.size = n) (q2 : ∀ j, j < n → cl.slots[j]? = some (.int (f j))) (W : Wr h h' a j (.int x)) (hj : j < n) : own_A Z h' a ty n (own_upd f j x) := by
  refine ⟨_, A.same W, by rw [sz_set, q1], fun i hi => ?_⟩
  simp only [Cell.setSlot, Array.getElem?_setIfInBounds, own_upd]
  by_cases e : j = i
  · subst e
    simp [q1, hj]
  · rw [if_neg e, q2 i hi, if_neg (fun q => e q.symm)]
theorem own_in {j : Int32} {N : Nat} (h0 : ¬ j < 0) (h1 : j.toNatClampNeg < N) : ¬ (j < 0 ∨ N ≤ j.toNatClampNeg) := fun q => q.elim h0 (fun r => Nat.not_lt.mpr r h1)
theorem own_stI (X : Stand p l e R s m args below meth c T locs cells slots) (hx : p.tables.exec = Jvm.exec) (hZ : Z.Warmed39 s.vm) (eT : T.heap = h) (F : own_A Z h a .int n f) {j x : Int32} (h0 : ¬ j < 0) (h1 : j.toNatClampNeg < n) (hg : g.method = m) {rest : List Value} (hs : g.stack = .int x :: .int j :: .ref a :: rest) (hd : decode c.code g.pc = .ok (.iastore, 1))
    (k : ∀ T' h', Stand p l e R s m args below meth c T' (locs ++ [⟨a, j.toNatClampNeg⟩]) cells slots → T'.heap = h' → Wr h h' a j.toNatClampNeg (.int x) → own_A Z h' a .int n (own_upd f j.toNatClampNeg x) → own_Out p e below En T' { g with pc := g.pc + 1, stack := rest } Q kc ks) : own_Out p e below En T g Q kc ks := by
  obtain ⟨cl, A, q1, q2⟩ := F
  obtain ⟨T', h', X', e', W', st⟩ := stI X hx hZ eT A (own_in h0 (by rw [q1]; exact h1)) hg hs hd
  exact own_to st (k T' h' X' e' W' (own_A.set A q1 q2 W' h1))
theorem own_stZ (X : Stand p l e R s m args below meth c T locs cells slots) (hx : p.tables.exec = Jvm.exec) (hZ : Z.Warmed39 s.vm) (eT : T.heap = h) (F : own_A Z h a .boolean n f) {j x : Int32} (h0 : ¬ j < 0) (h1 : j.toNatClampNeg < n) (hg : g.method = m) {rest : List Value} (hs : g.stack = .int x :: .int j :: .ref a :: rest) (hd : decode c.code g.pc = .ok (.bastore, 1))
    (k : ∀ T' h', Stand p l e R s m args below meth c T' (locs ++ [⟨a, j.toNatClampNeg⟩]) cells slots → T'.heap = h' → Wr h h' a j.toNatClampNeg (.int (nar .boolean x)) → own_A Z h' a .boolean n (own_upd f j.toNatClampNeg (nar .boolean x)) → own_Out p e below En T' { g with pc := g.pc + 1, stack := rest } Q kc ks) : own_Out p e below En T g Q kc ks := by
  obtain ⟨cl, A, q1, q2⟩ := F
  obtain ⟨T', h', X', e', W', st⟩ := stZ X hx hZ eT A (own_in h0 (by rw [q1]; exact h1)) hg hs hd
  exact own_to st (k T' h' X' e' W' (own_A.set A q1 q2 W' h1))
theorem own_stB (X : Stand p l e R s m args below meth c T locs cells slots) (hx : p.tables.exec = Jvm.exec) (hZ : Z.Warmed39 s.vm) (eT : T.heap = h) (F : own_A Z h a .byte n f) {j x : Int32} (h0 : ¬ j < 0) (h1 : j.toNatClampNeg < n) (hg : g.method = m) {rest : List Value} (hs : g.stack = .int x :: .int j :: .ref a :: rest) (hd : decode c.code g.pc = .ok (.bastore, 1))
    (k : ∀ T' h', Stand p l e R s m args below meth c T' (locs ++ [⟨a, j.toNatClampNeg⟩]) cells slots → T'.heap = h' → Wr h h' a j.toNatClampNeg (.int (nar .byte x)) → own_A Z h' a .byte n (own_upd f j.toNatClampNeg (nar .byte x)) → own_Out p e below En T' { g with pc := g.pc + 1, stack := rest } Q kc ks) : own_Out p e below En T g Q kc ks := by
  obtain ⟨cl, A, q1, q2⟩ := F
  obtain ⟨T', h', X', e', W', st⟩ := stB X hx hZ eT A (own_in h0 (by rw [q1]; exact h1)) hg hs hd
  exact own_to st (k T' h' X' e' W' (own_A.set A q1 q2 W' h1))
theorem own_newA (X : Stand p l e R s m args below meth c T locs cells slots) (hx : p.tables.exec = Jvm.exec) (hZ : Z.Warmed39 s.vm) {aty : ArrayType} (w : (Jvm.Cond.arrayClass (newarray.typeOf aty)).before a0 Z = true) (hdef : defaultValue (newarray.typeOf aty) = .int 0) (eT : T.heap = h) (hg : g.method = m) (hd : decode c.code g.pc = .ok (.newarray aty, 2)) {N : Int32} {rest : List Value} (hs : g.stack = .int N :: rest)
    (hn : ¬ N < 0) {cap : Nat} (hcap : N.toNatClampNeg ≤ cap) (hb : cap * 8 ≤ 536870912) (hc : cells + 1 ≤ R.cells) (hl : slots + cap ≤ R.slots)
    (k : ∀ T' h' a, a = h.size → Stand p l e R s m args below meth c T' locs (cells + 1) (slots + cap) → T'.heap = h' → Ext h h' → own_A Z h' a (newarray.typeOf aty) N.toNatClampNeg (fun _ => 0) → own_Out p e below En T' { g with pc := g.pc + 2, stack := .ref a :: rest } Q kc ks) : own_Out p e below En T g Q kc ks := by
  obtain ⟨T', h', cA, X', e', E', A', st⟩ := newP X hx hZ w eT hg hd hs hn hcap hb hc hl
  refine own_to st (k T' h' _ rfl X' e' E' ⟨_, A', sz_new _ _ _, fun j hj => ?_⟩)
  simp [newA, hdef, hj]
theorem own_len (X : Stand p l e R s m args below meth c T locs cells slots) (hx : p.tables.exec = Jvm.exec) (hZ : Z.Warmed39 s.vm) (eT : T.heap = h) (F : own_A Z h a ty n f) (hg : g.method = m) {rest : List Value} (hs : g.stack = .ref a :: rest) (hd : decode c.code g.pc = .ok (.arraylength, 1))
    (k : own_Out p e below En T { g with pc := g.pc + 1, stack := .int n.toInt32 :: rest } Q kc ks) : own_Out p e below En T g Q kc ks := by
  obtain ⟨cl, A, q1, q2⟩ := F
  subst q1
  exact own_to (X.arraylength hx (by rw [eT]; exact A.1) (State.isArrayOf_alike hZ.alike A.2.1) hg hs hd) k
theorem own_ldI (X : Stand p l e R s m args below meth c T locs cells slots) (hx : p.tables.exec = Jvm.exec) (hZ : Z.Warmed39 s.vm) (eT : T.heap = h) (F : own_A Z h a .int n f) {j : Int32} (h0 : ¬ j < 0) (h1 : j.toNatClampNeg < n) (hg : g.method = m) {rest : List Value} (hs : g.stack = .int j :: .ref a :: rest) (hd : decode c.code g.pc = .ok (.iaload, 1))
    (k : ∀ w : Int32, w = f j.toNatClampNeg → own_Out p e below En T { g with pc := g.pc + 1, stack := .int w :: rest } Q kc ks) : own_Out p e below En T g Q kc ks := by
  obtain ⟨cl, A, q1, q2⟩ := F
  exact own_to (X.iaload hx (by rw [eT]; exact A.1) (State.isArrayOf_alike hZ.alike A.2.1) A.2.2 (own_in h0 (by rw [q1]; exact h1)) (q2 _ h1) hg hs hd) (k _ rfl)
theorem own_ldZ (X : Stand p l e R s m args below meth c T locs cells slots) (hx : p.tables.exec = Jvm.exec) (hZ : Z.Warmed39 s.vm) (eT : T.heap = h) (F : own_A Z h a .boolean n f) {j : Int32} (h0 : ¬ j < 0) (h1 : j.toNatClampNeg < n) (hg : g.method = m) {rest : List Value} (hs : g.stack = .int j :: .ref a :: rest) (hd : decode c.code g.pc = .ok (.baload, 1))
    (k : ∀ w : Int32, w = f j.toNatClampNeg → own_Out p e below En T { g with pc := g.pc + 1, stack := .int w :: rest } Q kc ks) : own_Out p e below En T g Q kc ks := by
  obtain ⟨cl, A, q1, q2⟩ := F
  exact own_to (X.baloadBooleans hx (by rw [eT]; exact A.1) (State.isArrayOf_alike hZ.alike A.2.1) A.2.2 (own_in h0 (by rw [q1]; exact h1)) (q2 _ h1) hg hs hd) (k _ rfl)
theorem own_ldB (X : Stand p l e R s m args below meth c T locs cells slots) (hx : p.tables.exec = Jvm.exec) (hZ : Z.Warmed39 s.vm) (eT : T.heap = h) (F : own_A Z h a .byte n f) {j : Int32} (h0 : ¬ j < 0) (h1 : j.toNatClampNeg < n) (hg : g.method = m) {rest : List Value} (hs : g.stack = .int j :: .ref a :: rest) (hd : decode c.code g.pc = .ok (.baload, 1))
    (k : ∀ w : Int32, w = f j.toNatClampNeg → own_Out p e below En T { g with pc := g.pc + 1, stack := .int w :: rest } Q kc ks) : own_Out p e below En T g Q kc ks := by
  obtain ⟨cl, A, q1, q2⟩ := F
  exact own_to (X.baloadBytes hx (by rw [eT]; exact A.1) (State.isArrayOf_alike hZ.alike A.2.1) A.2.2 (own_in h0 (by rw [q1]; exact h1)) (q2 _ h1) hg hs hd) (k _ rfl)
theorem own_idx (x n : Int32) (N : Nat) (hn : n.toInt = (N : Int)) (h0 : 0 < N) : ¬ ((x &&& (2147483647 : Int32)) % n < 0) ∧ ((x &&& (2147483647 : Int32)) % n).toNatClampNeg < N := by
  have h1 := c_mask x 2147483647 31 (by decide) (by decide)
  have h2 := c_irem (x &&& 2147483647) n N hn
  have k : (0 : Int32).toInt = 0 := by decide
  have h3 : ¬ ((x &&& (2147483647 : Int32)) % n < 0) := by
    rw [Int32.lt_iff_toInt_lt, k, h2.1 (by omega)]
    have := Int.emod_nonneg (x &&& 2147483647).toInt (show (N : Int) ≠ 0 by omega)
    omega
  have h4 := nat_of h3
  have h5 := Int.emod_lt_of_pos (x &&& 2147483647).toInt (show (0 : Int) < N by omega)
  rw [h2.1 (by omega)] at h4
  exact ⟨h3, by omega⟩
theorem own_fs {k : Nat} {L : List Loc} (N : Fr k L) (q : k ≤ a) : Fr k (L ++ [⟨a, sl⟩]) := N.app fun y hy => by cases List.mem_singleton.mp hy; exact q
end OwnKit
section OwnKitW
/-! the same where a String constant may be resolved on the way: the Stand is over 's.setVm vm0', 'Since' speaks of the true start -/
variable {p : Program} {l : Launch} {e : Env} {R : Room} {s : State} {m : MethodId} {args : Array Value} {below : List Frame} {meth : Method} {c : Code} {T T' : State} {locs : List Loc} {cells slots kc ks : Nat} {g g' : JFrame} {Q : Option Value → Heap → List Loc → Prop} {Z : State} {h h' : Heap} {a0 : Array Value} {En : Outcome → State → List Loc → Nat → Nat → Prop} {vm0 : Vm} {k0 : Nat}
theorem own_moreW {o : Outcome} {t : State} {L : List Loc} {k n k' n' : Nat} (hE : ReturnedEndW s o t L k n) (h1 : k ≤ k') (h2 : n ≤ n') : ReturnedEndW s o t L k' n' := ⟨hE.1, hE.2.1, hE.2.2.1, hE.2.2.2.mono h1 h2⟩
def own_CW (l : Launch) (Z : State) (y : MethodName) (bytes : ByteArray) (maxL : Nat) (ret : Option FieldType) (rm : Room) (as' : Array Value) (h0 : Heap) (Q : Option Value → Heap → List Loc → Prop) : Prop :=
  ∀ ws : List Jvm.Cond, MetFree l y (head1 (Jvm.Cond.code y bytes maxL ret :: ws) rm) (fun a U => a = as' ∧ Z.Warmed39 U.vm ∧ U.heap = h0) (fun _ _ _ _ _ => True) (fun _ U o U' => ∃ v L, o = .returned v ∧ Q v U'.heap L ∧ ReturnedEndW U o U' L rm.cells rm.slots)
theorem own_metW {y : MethodName} {bytes : ByteArray} {maxL : Nat} {ret : Option FieldType} {rm : Room} {as' : Array Value} {h0 : Heap} (pl : plainFor y = true)
    (body : ∀ (p : Program) (e : Env) (s : State) (m : MethodId) (below : List Frame) (meth : Method) (c : Code) (s₁ : State), p.tables.exec = Jvm.exec → c.code = bytes → c.maxLocals = maxL → meth.sig.returnType = ret → meth.locks = false → s.vm.findClass y.cls = some m.cls → meth.name = y.name → Z.Warmed39 s.vm → Stand p l e rm (s.setVm s.vm) m as' below meth c s₁ [] 0 0 → s₁.heap = h0 → s.Since s.vm 0 → 0 ≤ h0.size → own_Out p e below (ReturnedEndW s) s₁ (entryFrame m as' maxL) Q rm.cells rm.slots) :
    own_CW l Z y bytes maxL ret rm as' h0 Q := by
  intro ws
  refine MetFree.of_bodySF pl hisR ?_
  intro p e s m args below meth c s₁ Bd hml0 hP hK
  obtain ⟨rfl, hZ, hh⟩ := hP
  exact body p e s m below meth c s₁ Bd.exec Bd.bytes hml0 Bd.returns (BodyLoose.notSynchronized Bd) (findClass_of_methodNamed Bd.named) ((name_of_methodNamed Bd.named Bd.method).1) hZ (Stand.of_body Bd) (by rw [← hh, Bd.state]; rfl) ((State.WarmedH.refl s).since 0) (Nat.zero_le _)
/-! returns -/
theorem own_retVW (X : Stand p l e R (s.setVm vm0) m args below meth c T locs cells slots) (hS : s.Since vm0 k0) (hk : k0 ≤ h.size) (eT : T.heap = h) (hx : p.tables.exec = Jvm.exec) (hlk : meth.locks = false) {pc : Nat} {Ls : Array Slot} {w : Value} {t : FieldType} {i : Instr} {rest : List Value} (hret : meth.sig.returnType = some t) (hn : narrow t w = w)
    (hi : (i = .ireturn ∧ (t = .int ∨ t = .boolean ∨ t = .byte ∨ t = .char ∨ t = .short) ∧ ∃ z, w = .int z) ∨ (i = .lreturn ∧ t = .long ∧ ∃ z, w = .long z) ∨ (i = .dreturn ∧ t = .double ∧ ∃ z, w = .double z) ∨ (i = .freturn ∧ t = .float ∧ ∃ z, w = .float z) ∨ (i = .areturn ∧ t.isReference = true ∧ w.isRef = true))
    (hd : decode c.code pc = .ok (i, 1)) (hc : cells ≤ kc) (hs : slots ≤ ks) (hQ : Q (some w) T.heap locs) : own_Out p e below (ReturnedEndW s) T (mkF m pc Ls (w :: rest)) Q kc ks := by
  obtain ⟨fs, hr, hrun, hended, hE⟩ := X.leaveW hS (by rw [eT]; exact hk) (v := some w) (fun h => by rw [hret] at h; cases h) hlk
  exact ⟨_, _, retOut X hx hret hn hi hd hr, hrun, hended, _, _, rfl, hQ, own_moreW hE hc hs⟩
theorem own_retAW (X : Stand p l e R (s.setVm vm0) m args below meth c T locs cells slots) (hS : s.Since vm0 k0) (hk : k0 ≤ h.size) (eT : T.heap = h) (hx : p.tables.exec = Jvm.exec) (hlk : meth.locks = false) {t : FieldType} (hret : meth.sig.returnType = some t) (ht : t.isReference = true) {pc : Nat} {Ls : Array Slot} {z : Addr} {rest : List Value}
    (hd : decode c.code pc = .ok (.areturn, 1)) (hc : cells ≤ kc) (hs : slots ≤ ks) (hQ : Q (some (.ref z)) T.heap locs) : own_Out p e below (ReturnedEndW s) T (mkF m pc Ls (.ref z :: rest)) Q kc ks :=
  own_retVW X hS hk eT hx hlk hret (by cases t <;> rfl) (Or.inr (Or.inr (Or.inr (Or.inr ⟨rfl, ht, rfl⟩)))) hd hc hs hQ
theorem own_retNW (X : Stand p l e R (s.setVm vm0) m args below meth c T locs cells slots) (hS : s.Since vm0 k0) (hk : k0 ≤ h.size) (eT : T.heap = h) (hx : p.tables.exec = Jvm.exec) (hlk : meth.locks = false) {t : FieldType} (hret : meth.sig.returnType = some t) (ht : t = .boolean ∨ t = .byte ∨ t = .char ∨ t = .short) {pc : Nat} {Ls : Array Slot} {z : Int32} {rest : List Value}
    (hd : decode c.code pc = .ok (.ireturn, 1)) (hc : cells ≤ kc) (hs : slots ≤ ks) (hQ : Q (some (.int (nar t z))) T.heap locs) : own_Out p e below (ReturnedEndW s) T (mkF m pc Ls (.int z :: rest)) Q kc ks := by
  obtain ⟨fs, hr, hrun, hended, hE⟩ := X.leaveW hS (by rw [eT]; exact hk) (v := some (.int (nar t z))) (fun h => by rw [hret] at h; cases h) hlk
  exact ⟨_, _, retN X hx hret ht hd hr, hrun, hended, _, _, rfl, hQ, own_moreW hE hc hs⟩
theorem own_ret0W (X : Stand p l e R (s.setVm vm0) m args below meth c T locs cells slots) (hS : s.Since vm0 k0) (hk : k0 ≤ h.size) (eT : T.heap = h) (hx : p.tables.exec = Jvm.exec) (hlk : meth.locks = false) (hret : meth.sig.returnType = none) {pc : Nat} {Ls : Array Slot}
    (hd : decode c.code pc = .ok (.return_, 1)) (hc : cells ≤ kc) (hs : slots ≤ ks) (hQ : Q none T.heap locs) : own_Out p e below (ReturnedEndW s) T (mkF m pc Ls []) Q kc ks := by
  obtain ⟨fs, hr, hrun, hended, hE⟩ := X.leaveW hS (by rw [eT]; exact hk) (v := none) (fun _ => rfl) hlk
  exact ⟨_, _, X.returnOut hx hret hd hr, hrun, hended, _, _, rfl, hQ, own_moreW hE hc hs⟩
/-! a String constant -/
theorem own_ldcS (X : Stand p l e R (s.setVm vm0) m args below meth c T locs cells slots) (hx : p.tables.exec = Jvm.exec) (hZ : Z.Warmed39 vm0) {own text : String} {index : Nat} (hown : vm0.findClass own = some m.cls) (hS : s.Since vm0 k0) (hk : k0 ≤ h.size) (w : (Jvm.Cond.stringLink own index text).before a0 Z = true) (wS : ∀ a ∈ Bundle.stringAtoms, a.before a0 Z = true)
    (eT : T.heap = h) (hg : g.method = m) (hd : decode c.code g.pc = .ok (.ldc index, 2)) {n : Nat} (hn : 4 * text.toList.length ≤ n) (hbig : n ≤ 536870912) (hc : cells + 2 ≤ R.cells) (hl : slots + (n + 4) ≤ R.slots)
    (k : ∀ (a : Addr) (T' : State) (h' : Heap) (k1 : Nat), Stand p l e R (s.setVm T'.vm) m args below meth c T' locs (cells + 2) (slots + (n + 4)) → T'.heap = h' → Ext h h' → Z.Warmed39 T'.vm → T'.vm.findClass own = some m.cls → s.Since T'.vm k1 → k1 ≤ h'.size → own_Out p e below En T' { g with pc := g.pc + 2, stack := .ref a :: g.stack } Q kc ks) : own_Out p e below En T g Q kc ks := by
  obtain ⟨a, T', h', k1, X', e', E', S', K', Z', o', st⟩ := ldcS X hx hZ hown w wS eT hS hk hg hd hn hbig hc hl
  exact own_to st (k a T' h' k1 X' e' E' Z' o' S' K')
/-! calls of a method that may resolve a String constant -/
theorem own_fold {vm1 : Vm} {n1 : Nat} {own : String} (hZ : Z.Warmed39 vm0) (hown : vm0.findClass own = some m.cls) (hS : s.Since vm0 k0) (h2 : (s.setVm vm0).Since vm1 n1) (hk : k0 ≤ n1) : Z.Warmed39 vm1 ∧ vm1.findClass own = some m.cls ∧ s.Since vm1 n1 :=
  ⟨State.Warmed39.trans (t := s.setVm vm0) hZ h2.1, by rw [h2.1.alike.findClass]; exact hown, hS.trans h2 hk⟩
theorem own_callVW (X : Stand p l e R (s.setVm vm0) m args below meth c T locs cells slots) (hx : p.tables.exec = Jvm.exec) (hZ : Z.Warmed39 vm0) {own C : String} (hown : vm0.findClass own = some m.cls) (hS : s.Since vm0 k0) (hk : k0 ≤ h.size) {index : Nat} {y : MethodName} {bytes : ByteArray} {maxL : Nat} {ret : Option FieldType} {rm : Room} {W : Nat} {Qc : Option Value → Heap → List Loc → Prop} {a : Addr} {argsL rest : List Value}
    (w1 : (Jvm.Cond.methodLink own index y).before a0 Z = true) (w5 : (Jvm.Cond.declares y).before a0 Z = true) (w6 : (Jvm.Cond.selects C y y).before a0 Z = true) (w2 : (Jvm.Cond.instanceMethod y).before a0 Z = true) (w3 : (Jvm.Cond.initialized y.cls).before a0 Z = true) (w4 : (Jvm.Cond.code y bytes maxL ret).before a0 Z = true) (hy : y.cls ≠ "java/lang/invoke/MethodHandle" ∧ y.cls ≠ "java/lang/invoke/VarHandle")
    (hM : own_CW l Z y bytes maxL ret rm (.ref a :: argsL).toArray h Qc) (hf : rm.frames + 1 ≤ R.frames) (hl : W + (maxL + 11) + rm.locals ≤ R.locals) (eT : T.heap = h) (E : Exa Z h a C) (hg : g.method = m) (hsize : g.locals.size = c.maxLocals) (hlen : ∀ sig, parseMethodDescriptor y.desc = some sig → argsL.length = sig.parameters.length)
    (hstack : g.stack = argsL.reverse ++ .ref a :: rest) (hW : 2 * g.monitorRoom + (rest.map fun v => v.category).sum ≤ W) (hd : decode c.code g.pc = .ok (.invokevirtual index, 3)) (hc : cells + rm.cells ≤ R.cells) (hs : slots + rm.slots ≤ R.slots)
    (k : ∀ (v : Option Value) (T' : State) (h' : Heap) (L : List Loc), Stand p l e R (s.setVm T'.vm) m args below meth c T' (locs ++ L) (cells + rm.cells) (slots + rm.slots) → T'.heap = h' → Qc v h' L → Z.Warmed39 T'.vm → T'.vm.findClass own = some m.cls → s.Since T'.vm h'.size → own_Out p e below En T' { g with pc := g.pc + 3, stack := v.toList ++ rest } Q kc ks) : own_Out p e below En T g Q kc ks := by
  obtain ⟨cq, kq, qa, qb, qc⟩ := isOf (s := s.setVm vm0) hZ eT E
  obtain ⟨v, _, ⟨T', L', k', n'⟩, -, X', S', gr, ⟨Lc, hQ, l1, l2, l3⟩, st⟩ := X.virtualBackS hx hown (mvT (s := s.setVm vm0) hZ w1) (mvT (s := s.setVm vm0) hZ w5) (notFace_of_selects (args := #[]) (mvT (s := s.setVm vm0) hZ w6)) (mvT (s := s.setVm vm0) hZ w6) (mvT (s := s.setVm vm0) hZ w2) hy (backOfS (W := W) (hM []) hZ w4 w3 hf hl) qa qc hg hsize (Steps.refl _) hlen hstack hW hd (fun _ _ => ⟨rfl, eT, hc, hs⟩)
  dsimp only [Pt.U, Pt.locs, Pt.cells, Pt.slots] at X' l1 l2 l3 st hQ S' gr
  subst l1 l2 l3
  obtain ⟨f1, f2, f3⟩ := own_fold hZ hown hS S' (Nat.le_trans hk (by rw [← eT]; exact gr))
  exact own_to (fun t k => st.trans k) (k v T' _ Lc X' rfl hQ f1 f2 f3)
/-! a constructor named through a nest mate -/
theorem own_callCN (X : Stand p l e R s m args below meth c T locs cells slots) (hx : p.tables.exec = Jvm.exec) (hZ : Z.Warmed39 s.vm) {own host : String} (hown : s.vm.findClass own = some m.cls) {index : Nat} {y : MethodName} {bytes : ByteArray} {maxL : Nat} {rm : Room} {W : Nat} {Qc : Option Value → Heap → List Loc → Prop} {a : Addr} {argsL rest : List Value}
    (hy1 : y.name = "<init>") (w1 : (Jvm.Cond.methodLinkNest own index y host).before a0 Z = true) (w2 : (Jvm.Cond.instanceMethod y).before a0 Z = true) (w3 : (Jvm.Cond.initialized y.cls).before a0 Z = true) (w4 : (Jvm.Cond.code y bytes maxL none).before a0 Z = true) (hy : y.cls ≠ "java/lang/invoke/MethodHandle" ∧ y.cls ≠ "java/lang/invoke/VarHandle")
    (hM : own_C l Z y bytes maxL none rm (.ref a :: argsL).toArray h Qc) (hf : rm.frames + 1 ≤ R.frames) (hl : W + (maxL + 11) + rm.locals ≤ R.locals) (eT : T.heap = h) (hg : g.method = m) (hsize : g.locals.size = c.maxLocals) (hlen : ∀ sig, parseMethodDescriptor y.desc = some sig → argsL.length = sig.parameters.length)
    (hstack : g.stack = argsL.reverse ++ .ref a :: rest) (hW : 2 * g.monitorRoom + (rest.map fun v => v.category).sum ≤ W) (hd : decode c.code g.pc = .ok (.invokespecial index, 3)) (hc : cells + rm.cells ≤ R.cells) (hs : slots + rm.slots ≤ R.slots)
    (k : ∀ (v : Option Value) (T' : State) (h' : Heap) (L : List Loc), Stand p l e R s m args below meth c T' (locs ++ L) (cells + rm.cells) (slots + rm.slots) → T'.heap = h' → Qc v h' L → own_Out p e below En T' { g with pc := g.pc + 3, stack := v.toList ++ rest } Q kc ks) : own_Out p e below En T g Q kc ks := by
  have w1' : (Jvm.Cond.methodLinkNest own index y host).before args s = true := (Cond.methodLinkNest_wide hZ w1 :)
  obtain ⟨v, _, ⟨T', L', k', n'⟩, -, X', ⟨Lc, hQ, l1, l2, l3⟩, st⟩ := X.specialBackNest hx hy1 hown w1' (mvT hZ w2) (mvT hZ w4) hy (backOf (W := W) (hM []) hZ w4 w3 hf hl) hg hsize (Steps.refl _) hlen hstack hW hd (fun _ _ => ⟨rfl, eT, hc, hs⟩)
  dsimp only [Pt.U, Pt.locs, Pt.cells, Pt.slots] at X' l1 l2 l3 st hQ
  subst l1 l2 l3
  exact own_to (fun t k => st.trans k) (k v T' _ Lc X' rfl hQ)
/-! a constructor whose entry has been resolved -/
theorem own_pool (e : Env) {U : State} {own : String} {cur : ClassId} {idx : Nat} {t : MethodName} {tm : MethodId} (hown : U.vm.findClass own = some cur) (href : (Jvm.Cond.methodRef own idx t).before args U = true) (n1 : U.methodNamed? t = some tm) :
    ∃ (dk : Class) (cf : ClassFile) (ci nt : Nat), U.vm.classes[cur]? = some dk ∧ dk.cf = some cf ∧ (cf.constantPool[idx]? = some (.methodref ci nt) ∨ cf.constantPool[idx]? = some (.interfaceMethodref ci nt)) ∧ U.vm.classReady cur ci tm.cls := by
  obtain ⟨m', c', ci, b, q1, q2, q3, q4, q5⟩ := Cond.methodRef_spec (e := e) hown href
  have hnames : U.names own idx (.method t.cls t.name t.desc) = true := by
    simp only [Cond.before, Cond.holds, Cond.value, hown, q1] at href
    simp only [beq_iff_eq, Option.some.injEq, Bool.and_eq_true] at href
    exact href.1.1
  obtain ⟨cp, hcp, hn⟩ := State.names_spec hnames
  obtain ⟨ci', nt, hentry, hnt, -⟩ := namesOf?_method hn
  obtain ⟨k, cf, hk, hcf, rfl⟩ := State.poolOf?_spec hown hcp
  obtain ⟨b', hask⟩ := memberRef_ask' (e := e) hk hcf hentry hnt
  rw [hask] at q4
  cases q4
  have hcc : tm.cls = c' := Option.some.inj ((findClass_of_methodNamed n1).symm.trans q3)
  exact ⟨k, cf, _, nt, hk, hcf, hentry, hcc ▸ q5⟩
theorem own_initRef {tb : Tables} [Ours tb] {U : State} {mm : MethodId} {cc : Code} (h : At U mm cc below) (hexec : tb.exec = Jvm.exec) {own : String} (hown : U.vm.findClass own = some mm.cls) {idx : Nat} {t : MethodName} (ht1 : t.name = "<init>") (hnot : t.cls ≠ "java/lang/invoke/MethodHandle" ∧ t.cls ≠ "java/lang/invoke/VarHandle")
    {bytes : ByteArray} {maxL : Nat} (href : (Jvm.Cond.methodRef own idx t).before args U = true) (hinst : (Jvm.Cond.instanceMethod t).before args U = true) (hcode : (Jvm.Cond.code t bytes maxL none).before args U = true) {f : JFrame} (hf : f.method = mm) {a : Addr} {argsL rest : List Value}
    (hlen : ∀ sig, parseMethodDescriptor t.desc = some sig → argsL.length = sig.parameters.length) (hstack : f.stack = argsL.reverse ++ .ref a :: rest) (hd : decode cc.code f.pc = .ok (.invokespecial idx, 3)) :
    ∃ tm, U.methodNamed? t = some tm ∧ ∀ target, (∀ acts, Steps tb e below (doInvoke e (U.setTop { f with stack := rest }) acts tm (.ref a :: argsL).toArray).1 target) → Steps tb e below (U.setTop f) target := by
  subst hf
  obtain ⟨tm, mt, n1, n2, n3, n4⟩ := Cond.instanceMethod_spec hinst
  obtain ⟨mt', cd, n2', -, -, -, -, -, -, hsig⟩ := Cond.code_spec n1 hcode
  cases n2.symm.trans n2'
  obtain ⟨kt, hkt, -⟩ := className_of_methodNamed n1
  obtain ⟨hname, hdesc⟩ := name_of_methodNamed n1 n2
  have hfm := State.methodFound?_of_named n1 hnot
  obtain ⟨m', c', ci, b, q1, q2, q3, q4, q5⟩ := Cond.methodRef_spec (e := e) hown href
  cases hfm.symm.trans q1
  refine ⟨tm, n1, fun target hrest => ?_⟩
  have hfound : lookupSpecial U.vm tm.cls "<init>" mt.desc = .method tm := by rw [hdesc, ← ht1]; exact lookupSpecial_of_named n1 n2 n3
  have hpool := own_pool e hown href n1
  jvm_step h [hexec, hd, invokespecial.wp_init (e := e) (s := U) (k := kt) (meth := mt) (m := tm) (a := a) (args := argsL) (rest := rest) (f := f) h.top hpool q2 hkt n2 (by rw [hname]; exact ht1) n3 n4 hfound (hlen _ hsig) hstack]
  exact hrest
theorem own_callCR (X : Stand p l e R s m args below meth c T locs cells slots) (hx : p.tables.exec = Jvm.exec) (hZ : Z.Warmed39 s.vm) {own : String} (hown : s.vm.findClass own = some m.cls) {index : Nat} {y : MethodName} {bytes : ByteArray} {maxL : Nat} {rm : Room} {W : Nat} {Qc : Option Value → Heap → List Loc → Prop} {a : Addr} {argsL rest : List Value}
    (hy1 : y.name = "<init>") (w1 : (Jvm.Cond.methodRef own index y).before a0 Z = true) (w2 : (Jvm.Cond.instanceMethod y).before a0 Z = true) (w3 : (Jvm.Cond.initialized y.cls).before a0 Z = true) (w4 : (Jvm.Cond.code y bytes maxL none).before a0 Z = true) (hy : y.cls ≠ "java/lang/invoke/MethodHandle" ∧ y.cls ≠ "java/lang/invoke/VarHandle")
    (hM : own_C l Z y bytes maxL none rm (.ref a :: argsL).toArray h Qc) (hf : rm.frames + 1 ≤ R.frames) (hl : W + (maxL + 11) + rm.locals ≤ R.locals) (eT : T.heap = h) (hg : g.method = m) (hsize : g.locals.size = c.maxLocals) (hlen : ∀ sig, parseMethodDescriptor y.desc = some sig → argsL.length = sig.parameters.length)
    (hstack : g.stack = argsL.reverse ++ .ref a :: rest) (hW : 2 * g.monitorRoom + (rest.map fun v => v.category).sum ≤ W) (hd : decode c.code g.pc = .ok (.invokespecial index, 3)) (hc : cells + rm.cells ≤ R.cells) (hs : slots + rm.slots ≤ R.slots)
    (k : ∀ (v : Option Value) (T' : State) (h' : Heap) (L : List Loc), Stand p l e R s m args below meth c T' (locs ++ L) (cells + rm.cells) (slots + rm.slots) → T'.heap = h' → Qc v h' L → own_Out p e below En T' { g with pc := g.pc + 3, stack := v.toList ++ rest } Q kc ks) : own_Out p e below En T g Q kc ks := by
  have hT : Z.Warmed39 T.vm := wtrans hZ X.warmed
  obtain ⟨mz, _, nz, -⟩ := Cond.instanceMethod_spec w2
  have w1' : (Jvm.Cond.methodRef own index y).before a0 T = true := (Cond.methodRef_warmed39 hT nz hy w1 :)
  have hownT : T.vm.findClass own = some m.cls := by rw [X.warmed.alike.findClass]; exact hown
  obtain ⟨mk, n1, hstep⟩ := own_initRef (e := e) X.here hx hownT hy1 hy w1' (mvT hT w2) (mvT hT w4) (f := g) hg hlen hstack hd
  have hK := backOf (s := s) (p := p) (e := e) (below := below) (args := args) (len := 3) (R := R) (W := W) (hM []) hZ w4 w3 hf hl
  obtain ⟨v, ⟨T', L', k', n'⟩, X', ⟨Lc, hQ, l1, l2, l3⟩, hsteps⟩ := hK m meth c ⟨T, locs, cells, slots⟩ { g with stack := rest } (.invokespecial index) mk (.ref a :: argsL).toArray X hg hsize hd hW n1 ⟨rfl, eT, hc, hs⟩
  dsimp only [Pt.U, Pt.locs, Pt.cells, Pt.slots] at X' l1 l2 l3 hsteps hQ
  subst l1 l2 l3
  exact own_to (fun t k => (hstep _ fun acts => by rw [doInvoke_state]; exact Steps.refl _).trans (hsteps.trans k)) (k v T' _ Lc X' rfl hQ)
end OwnKitW
theorem own_atoms : ∀ a ∈ Bundle.stringAtoms, a ∈ tables_1 := by decide +kernel
theorem d2_0 : decode jdk_30_method_1_code 0 = .ok (.aload_n 0, 1) := by decide +kernel
theorem d2_1 : decode jdk_30_method_1_code 1 = .ok (.invokespecial 1, 3) := by decide +kernel
theorem d2_4 : decode jdk_30_method_1_code 4 = .ok (.return_, 1) := by decide +kernel
theorem pn_0 : plainName "java/lang/Record" = true := by first | (simp [plainName, overriddenIn]; done) | decide +kernel
theorem ef_2 (m : MethodId) (o0 : Addr) : entryFrame m #[(.ref o0)] 1 = mkF m 0 #[.val (.ref o0)] [] := by first | (simp [entryFrame, mkF, argsToLocals, Value.category]; done) | rfl
def Q2 (Z : State) (o0 : Addr) (h0 : Heap) (n0 : Nat) (v : Option Value) (h : Heap) (L : List Loc) : Prop := v = none ∧ Fr n0 L ∧ h = h0
set_option maxRecDepth 65536 in
set_option maxHeartbeats 40000000 in
theorem rm2 (l : Launch) (Z : State) (a0 : Array Value) (hw : ∀ d ∈ tables_1, d.before a0 Z = true) (o0 : Addr) (h0 : Heap) (n0 : Nat) (Z0 : n0 ≤ h0.size) :
    own_C l Z (⟨"java/lang/Record", "<init>", "()V"⟩ : MethodName) jdk_30_method_1_code 1 none ({ frames := 1, cells := 0, slots := 0, locals := 12 } : Room) #[(.ref o0)] h0 (Q2 Z o0 h0 n0) := by
  refine own_met (plainFor_of_name pn_0) ?_
  intro p e s m below meth c s₁ hx hby hml hret hlk hown hnm hZ X0 e0
  refine own_cast (ef_2 m o0) ?_
  have N0 := Fr.nil n0
  show own_Out p e below _ s₁ (mkF m 0 #[.val (.ref o0)] []) _ _ _
  refine own_to (fun t k => XS.aloadN X0.here hx rfl (hb hby d2_0) rfl rfl k) ?_
  show own_Out p e below _ s₁ (mkF m 1 #[.val (.ref o0)] [(.ref o0)]) _ _ _
  obtain ⟨T1, X1, e1, st1⟩ := initO X0 hx hZ hown (hw _ (List.mem_of_getElem? (i := 19) rfl)) (hw _ (List.mem_of_getElem? (i := 20) rfl)) (hw _ (List.mem_of_getElem? (i := 21) rfl)) e0 (g := (mkF m 1 #[.val (.ref o0)] [(.ref o0)])) rfl (by rw [hml]; rfl) rfl (hb hby d2_1) (by decide) (W := 0) (by show 2 * 0 + _ ≤ _; exact Nat.le_of_eq rfl) (by decide)
  refine own_to st1 ?_
  show own_Out p e below _ T1 (mkF m 4 #[.val (.ref o0)] []) _ _ _
  refine own_ret0 X1 hx hlk hret (hb hby d2_4) (by decide) (by decide) ?_
  rw [e1]
  exact ⟨rfl, N0, rfl⟩
theorem d1_0 : decode prog_30_method_1_code 0 = .ok (.aload_n 0, 1) := by decide +kernel
theorem d1_1 : decode prog_30_method_1_code 1 = .ok (.invokespecial 1, 3) := by decide +kernel
theorem d1_4 : decode prog_30_method_1_code 4 = .ok (.aload_n 0, 1) := by decide +kernel
theorem d1_5 : decode prog_30_method_1_code 5 = .ok (.aload_n 1, 1) := by decide +kernel
theorem d1_6 : decode prog_30_method_1_code 6 = .ok (.putfield 7, 3) := by decide +kernel
theorem d1_9 : decode prog_30_method_1_code 9 = .ok (.aload_n 0, 1) := by decide +kernel
theorem d1_10 : decode prog_30_method_1_code 10 = .ok (.iload_n 2, 1) := by decide +kernel
theorem d1_11 : decode prog_30_method_1_code 11 = .ok (.putfield 13, 3) := by decide +kernel
theorem d1_14 : decode prog_30_method_1_code 14 = .ok (.aload_n 0, 1) := by decide +kernel
theorem d1_15 : decode prog_30_method_1_code 15 = .ok (.iload_n 3, 1) := by decide +kernel
theorem d1_16 : decode prog_30_method_1_code 16 = .ok (.putfield 17, 3) := by decide +kernel
theorem d1_19 : decode prog_30_method_1_code 19 = .ok (.aload_n 0, 1) := by decide +kernel
theorem d1_20 : decode prog_30_method_1_code 20 = .ok (.iload 4, 2) := by decide +kernel
theorem d1_22 : decode prog_30_method_1_code 22 = .ok (.putfield 20, 3) := by decide +kernel
theorem d1_25 : decode prog_30_method_1_code 25 = .ok (.aload_n 0, 1) := by decide +kernel
theorem d1_26 : decode prog_30_method_1_code 26 = .ok (.iload 5, 2) := by decide +kernel
theorem d1_28 : decode prog_30_method_1_code 28 = .ok (.putfield 23, 3) := by decide +kernel
theorem d1_31 : decode prog_30_method_1_code 31 = .ok (.aload_n 0, 1) := by decide +kernel
theorem d1_32 : decode prog_30_method_1_code 32 = .ok (.iload 6, 2) := by decide +kernel
theorem d1_34 : decode prog_30_method_1_code 34 = .ok (.putfield 26, 3) := by decide +kernel
theorem d1_37 : decode prog_30_method_1_code 37 = .ok (.aload_n 0, 1) := by decide +kernel
theorem d1_38 : decode prog_30_method_1_code 38 = .ok (.iload 7, 2) := by decide +kernel
theorem d1_40 : decode prog_30_method_1_code 40 = .ok (.putfield 29, 3) := by decide +kernel
theorem d1_43 : decode prog_30_method_1_code 43 = .ok (.aload_n 0, 1) := by decide +kernel
theorem d1_44 : decode prog_30_method_1_code 44 = .ok (.iload 8, 2) := by decide +kernel
theorem d1_46 : decode prog_30_method_1_code 46 = .ok (.putfield 32, 3) := by decide +kernel
theorem d1_49 : decode prog_30_method_1_code 49 = .ok (.return_, 1) := by decide +kernel
theorem pn_1 : plainName "com/example/mat44/mat44/Layout" = true := by first | (simp [plainName, overriddenIn]; done) | decide +kernel
theorem ef_1 (m : MethodId) (o0 : Addr) (ar : Addr) (u2 : Int32) (u3 : Int32) (u4 : Int32) (u5 : Int32) (u6 : Int32) (u7 : Int32) (u8 : Int32) : entryFrame m #[(.ref o0), (.ref ar), (.int u2), (.int u3), (.int u4), (.int u5), (.int u6), (.int u7), (.int u8)] 9 = mkF m 0 #[.val (.ref o0), .val (.ref ar), .val (.int u2), .val (.int u3), .val (.int u4), .val (.int u5), .val (.int u6), .val (.int u7), .val (.int u8)] [] := by first | (simp [entryFrame, mkF, argsToLocals, Value.category]; done) | rfl
def Q1 (Z : State) (o0 : Addr) (ar : Addr) (u2 : Int32) (u3 : Int32) (u4 : Int32) (u5 : Int32) (u6 : Int32) (u7 : Int32) (u8 : Int32) (h0 : Heap) (n0 : Nat) (v : Option Value) (h : Heap) (L : List Loc) : Prop := v = none ∧ Fr n0 L ∧ Keep h0 h [o0] ∧ Fld Z h o0 "com/example/mat44/mat44/Layout" "columns" "I" (.int u8)
theorem pd_0 : parseMethodDescriptor "()V" = some ⟨[], none⟩ := by decide +kernel
set_option maxRecDepth 65536 in
set_option maxHeartbeats 40000000 in
theorem rm1 (l : Launch) (Z : State) (a0 : Array Value) (hw : ∀ d ∈ tables_1, d.before a0 Z = true) (o0 : Addr) (ar : Addr) (u2 : Int32) (u3 : Int32) (u4 : Int32) (u5 : Int32) (u6 : Int32) (u7 : Int32) (u8 : Int32) (h0 : Heap) (n0 : Nat) (Z0 : n0 ≤ h0.size) (E_o0 : Exa Z h0 o0 "com/example/mat44/mat44/Layout") (F_o0_name : Fld Z h0 o0 "com/example/mat44/mat44/Layout" "name" "Ljava/lang/String;" .null) (F_o0_pinCount : Fld Z h0 o0 "com/example/mat44/mat44/Layout" "pinCount" "I" (.int (0 : Int32))) (F_o0_groundPin : Fld Z h0 o0 "com/example/mat44/mat44/Layout" "groundPin" "I" (.int (0 : Int32))) (F_o0_supplyPin : Fld Z h0 o0 "com/example/mat44/mat44/Layout" "supplyPin" "I" (.int (0 : Int32))) (F_o0_firstCellPin : Fld Z h0 o0 "com/example/mat44/mat44/Layout" "firstCellPin" "I" (.int (0 : Int32))) (F_o0_lastCellPin : Fld Z h0 o0 "com/example/mat44/mat44/Layout" "lastCellPin" "I" (.int (0 : Int32))) (F_o0_fuseCount : Fld Z h0 o0 "com/example/mat44/mat44/Layout" "fuseCount" "I" (.int (0 : Int32))) (F_o0_columns : Fld Z h0 o0 "com/example/mat44/mat44/Layout" "columns" "I" (.int (0 : Int32))) (g_o0 : n0 ≤ o0) :
    own_C l Z (⟨"com/example/mat44/mat44/Layout", "<init>", "(Ljava/lang/String;IIIIIII)V"⟩ : MethodName) prog_30_method_1_code 9 none ({ frames := 2, cells := 0, slots := 0, locals := 24 } : Room) #[(.ref o0), (.ref ar), (.int u2), (.int u3), (.int u4), (.int u5), (.int u6), (.int u7), (.int u8)] h0 (Q1 Z o0 ar u2 u3 u4 u5 u6 u7 u8 h0 n0) := by
  refine own_met (plainFor_of_name pn_1) ?_
  intro p e s m below meth c s₁ hx hby hml hret hlk hown hnm hZ X0 e0
  refine own_cast (ef_1 m o0 ar u2 u3 u4 u5 u6 u7 u8) ?_
  have N0 := Fr.nil n0
  have K := Keep.refl h0 [o0]
  show own_Out p e below _ s₁ (mkF m 0 #[.val (.ref o0), .val (.ref ar), .val (.int u2), .val (.int u3), .val (.int u4), .val (.int u5), .val (.int u6), .val (.int u7), .val (.int u8)] []) _ _ _
  refine own_to (fun t k => XS.aloadN X0.here hx rfl (hb hby d1_0) rfl rfl k) ?_
  show own_Out p e below _ s₁ (mkF m 1 #[.val (.ref o0), .val (.ref ar), .val (.int u2), .val (.int u3), .val (.int u4), .val (.int u5), .val (.int u6), .val (.int u7), .val (.int u8)] [(.ref o0)]) _ _ _
  refine own_callC X0 hx hZ hown (a := o0) (argsL := []) (rest := []) rfl (hw _ (List.mem_of_getElem? (i := 14) rfl)) (hw _ (List.mem_of_getElem? (i := 15) rfl)) (hw _ (List.mem_of_getElem? (i := 17) rfl)) (hw _ (List.mem_of_getElem? (i := 18) rfl)) (by decide) (rm2 l Z a0 hw o0 h0 n0 Z0 ) (by decide) (by decide) e0 rfl (by rw [hml]; rfl) (lenOf pd_0 rfl) rfl (W := 0) (by show 2 * 0 + _ ≤ _; exact Nat.le_of_eq rfl) (hb hby d1_1) (by decide) (by decide) fun v1 T1 hh1 L1 X1 e1 hQ1 => ?_
  obtain ⟨rfl, NL1, he1⟩ := hQ1
  replace e1 := e1.trans he1
  have N1 := Fr.app N0 NL1
  show own_Out p e below _ T1 (mkF m 4 #[.val (.ref o0), .val (.ref ar), .val (.int u2), .val (.int u3), .val (.int u4), .val (.int u5), .val (.int u6), .val (.int u7), .val (.int u8)] []) _ _ _
  refine own_to (fun t k => XS.aloadN X1.here hx rfl (hb hby d1_4) rfl rfl k) ?_
  show own_Out p e below _ T1 (mkF m 5 #[.val (.ref o0), .val (.ref ar), .val (.int u2), .val (.int u3), .val (.int u4), .val (.int u5), .val (.int u6), .val (.int u7), .val (.int u8)] [(.ref o0)]) _ _ _
  refine own_to (fun t k => XS.aloadN X1.here hx rfl (hb hby d1_5) rfl rfl k) ?_
  show own_Out p e below _ T1 (mkF m 6 #[.val (.ref o0), .val (.ref ar), .val (.int u2), .val (.int u3), .val (.int u4), .val (.int u5), .val (.int u6), .val (.int u7), .val (.int u8)] [(.ref ar), (.ref o0)]) _ _ _
  refine own_putF X1 hx hZ hown (hw _ (List.mem_of_getElem? (i := 22) rfl)) e1 F_o0_name E_o0 (Or.inr ⟨(hw _ (List.mem_of_getElem? (i := 23) rfl)), rfl, hnm⟩) (hw _ (List.mem_of_getElem? (i := 1) rfl)) (ty := (.object "java/lang/String")) (by decide) rfl rfl rfl rfl (hb hby d1_6) fun T2 hh2 X2 e2 W2 => ?_
  have E_o0 := E_o0.wr W2
  have F_o0_name := F_o0_name.same W2
  have F_o0_pinCount := F_o0_pinCount.other W2 (Or.inr (slot_ne (Or.inr (hw _ (List.mem_of_getElem? (i := 25) rfl))) (Or.inr (hw _ (List.mem_of_getElem? (i := 23) rfl))) (by decide) (t := .int) (t' := (.object "java/lang/String")) (by decide) (by decide)))
  have F_o0_groundPin := F_o0_groundPin.other W2 (Or.inr (slot_ne (Or.inr (hw _ (List.mem_of_getElem? (i := 27) rfl))) (Or.inr (hw _ (List.mem_of_getElem? (i := 23) rfl))) (by decide) (t := .int) (t' := (.object "java/lang/String")) (by decide) (by decide)))
  have F_o0_supplyPin := F_o0_supplyPin.other W2 (Or.inr (slot_ne (Or.inr (hw _ (List.mem_of_getElem? (i := 29) rfl))) (Or.inr (hw _ (List.mem_of_getElem? (i := 23) rfl))) (by decide) (t := .int) (t' := (.object "java/lang/String")) (by decide) (by decide)))
  have F_o0_firstCellPin := F_o0_firstCellPin.other W2 (Or.inr (slot_ne (Or.inr (hw _ (List.mem_of_getElem? (i := 31) rfl))) (Or.inr (hw _ (List.mem_of_getElem? (i := 23) rfl))) (by decide) (t := .int) (t' := (.object "java/lang/String")) (by decide) (by decide)))
  have F_o0_lastCellPin := F_o0_lastCellPin.other W2 (Or.inr (slot_ne (Or.inr (hw _ (List.mem_of_getElem? (i := 33) rfl))) (Or.inr (hw _ (List.mem_of_getElem? (i := 23) rfl))) (by decide) (t := .int) (t' := (.object "java/lang/String")) (by decide) (by decide)))
  have F_o0_fuseCount := F_o0_fuseCount.other W2 (Or.inr (slot_ne (Or.inr (hw _ (List.mem_of_getElem? (i := 35) rfl))) (Or.inr (hw _ (List.mem_of_getElem? (i := 23) rfl))) (by decide) (t := .int) (t' := (.object "java/lang/String")) (by decide) (by decide)))
  have F_o0_columns := F_o0_columns.other W2 (Or.inr (slot_ne (Or.inr (hw _ (List.mem_of_getElem? (i := 37) rfl))) (Or.inr (hw _ (List.mem_of_getElem? (i := 23) rfl))) (by decide) (t := .int) (t' := (.object "java/lang/String")) (by decide) (by decide)))
  have K := K.wr W2 (Or.inl (by simp))
  have Z0 := Nat.le_trans Z0 (Nat.le_of_eq W2.size.symm)
  have N2 := own_fs (sl := Jvm.RoadKit.slotOf Z "com/example/mat44/mat44/Layout" "name" "Ljava/lang/String;") N1 g_o0
  show own_Out p e below _ T2 (mkF m 9 #[.val (.ref o0), .val (.ref ar), .val (.int u2), .val (.int u3), .val (.int u4), .val (.int u5), .val (.int u6), .val (.int u7), .val (.int u8)] []) _ _ _
  refine own_to (fun t k => XS.aloadN X2.here hx rfl (hb hby d1_9) rfl rfl k) ?_
  show own_Out p e below _ T2 (mkF m 10 #[.val (.ref o0), .val (.ref ar), .val (.int u2), .val (.int u3), .val (.int u4), .val (.int u5), .val (.int u6), .val (.int u7), .val (.int u8)] [(.ref o0)]) _ _ _
  refine own_to (fun t k => XS.iloadN X2.here hx rfl (hb hby d1_10) rfl k) ?_
  show own_Out p e below _ T2 (mkF m 11 #[.val (.ref o0), .val (.ref ar), .val (.int u2), .val (.int u3), .val (.int u4), .val (.int u5), .val (.int u6), .val (.int u7), .val (.int u8)] [(.int u2), (.ref o0)]) _ _ _
  refine own_putF X2 hx hZ hown (hw _ (List.mem_of_getElem? (i := 24) rfl)) e2 F_o0_pinCount E_o0 (Or.inr ⟨(hw _ (List.mem_of_getElem? (i := 25) rfl)), rfl, hnm⟩) (hw _ (List.mem_of_getElem? (i := 1) rfl)) (ty := .int) (by decide) rfl rfl rfl rfl (hb hby d1_11) fun T3 hh3 X3 e3 W3 => ?_
  have E_o0 := E_o0.wr W3
  have F_o0_name := F_o0_name.other W3 (Or.inr (slot_ne (Or.inr (hw _ (List.mem_of_getElem? (i := 23) rfl))) (Or.inr (hw _ (List.mem_of_getElem? (i := 25) rfl))) (by decide) (t := (.object "java/lang/String")) (t' := .int) (by decide) (by decide)))
  have F_o0_pinCount := F_o0_pinCount.same W3
  have F_o0_groundPin := F_o0_groundPin.other W3 (Or.inr (slot_ne (Or.inr (hw _ (List.mem_of_getElem? (i := 27) rfl))) (Or.inr (hw _ (List.mem_of_getElem? (i := 25) rfl))) (by decide) (t := .int) (t' := .int) (by decide) (by decide)))
  have F_o0_supplyPin := F_o0_supplyPin.other W3 (Or.inr (slot_ne (Or.inr (hw _ (List.mem_of_getElem? (i := 29) rfl))) (Or.inr (hw _ (List.mem_of_getElem? (i := 25) rfl))) (by decide) (t := .int) (t' := .int) (by decide) (by decide)))
  have F_o0_firstCellPin := F_o0_firstCellPin.other W3 (Or.inr (slot_ne (Or.inr (hw _ (List.mem_of_getElem? (i := 31) rfl))) (Or.inr (hw _ (List.mem_of_getElem? (i := 25) rfl))) (by decide) (t := .int) (t' := .int) (by decide) (by decide)))
  have F_o0_lastCellPin := F_o0_lastCellPin.other W3 (Or.inr (slot_ne (Or.inr (hw _ (List.mem_of_getElem? (i := 33) rfl))) (Or.inr (hw _ (List.mem_of_getElem? (i := 25) rfl))) (by decide) (t := .int) (t' := .int) (by decide) (by decide)))
  have F_o0_fuseCount := F_o0_fuseCount.other W3 (Or.inr (slot_ne (Or.inr (hw _ (List.mem_of_getElem? (i := 35) rfl))) (Or.inr (hw _ (List.mem_of_getElem? (i := 25) rfl))) (by decide) (t := .int) (t' := .int) (by decide) (by decide)))
  have F_o0_columns := F_o0_columns.other W3 (Or.inr (slot_ne (Or.inr (hw _ (List.mem_of_getElem? (i := 37) rfl))) (Or.inr (hw _ (List.mem_of_getElem? (i := 25) rfl))) (by decide) (t := .int) (t' := .int) (by decide) (by decide)))
  have K := K.wr W3 (Or.inl (by simp))
  have Z0 := Nat.le_trans Z0 (Nat.le_of_eq W3.size.symm)
  have N3 := own_fs (sl := Jvm.RoadKit.slotOf Z "com/example/mat44/mat44/Layout" "pinCount" "I") N2 g_o0
  show own_Out p e below _ T3 (mkF m 14 #[.val (.ref o0), .val (.ref ar), .val (.int u2), .val (.int u3), .val (.int u4), .val (.int u5), .val (.int u6), .val (.int u7), .val (.int u8)] []) _ _ _
  refine own_to (fun t k => XS.aloadN X3.here hx rfl (hb hby d1_14) rfl rfl k) ?_
  show own_Out p e below _ T3 (mkF m 15 #[.val (.ref o0), .val (.ref ar), .val (.int u2), .val (.int u3), .val (.int u4), .val (.int u5), .val (.int u6), .val (.int u7), .val (.int u8)] [(.ref o0)]) _ _ _
  refine own_to (fun t k => XS.iloadN X3.here hx rfl (hb hby d1_15) rfl k) ?_
  show own_Out p e below _ T3 (mkF m 16 #[.val (.ref o0), .val (.ref ar), .val (.int u2), .val (.int u3), .val (.int u4), .val (.int u5), .val (.int u6), .val (.int u7), .val (.int u8)] [(.int u3), (.ref o0)]) _ _ _
  refine own_putF X3 hx hZ hown (hw _ (List.mem_of_getElem? (i := 26) rfl)) e3 F_o0_groundPin E_o0 (Or.inr ⟨(hw _ (List.mem_of_getElem? (i := 27) rfl)), rfl, hnm⟩) (hw _ (List.mem_of_getElem? (i := 1) rfl)) (ty := .int) (by decide) rfl rfl rfl rfl (hb hby d1_16) fun T4 hh4 X4 e4 W4 => ?_
  have E_o0 := E_o0.wr W4
  have F_o0_name := F_o0_name.other W4 (Or.inr (slot_ne (Or.inr (hw _ (List.mem_of_getElem? (i := 23) rfl))) (Or.inr (hw _ (List.mem_of_getElem? (i := 27) rfl))) (by decide) (t := (.object "java/lang/String")) (t' := .int) (by decide) (by decide)))
  have F_o0_pinCount := F_o0_pinCount.other W4 (Or.inr (slot_ne (Or.inr (hw _ (List.mem_of_getElem? (i := 25) rfl))) (Or.inr (hw _ (List.mem_of_getElem? (i := 27) rfl))) (by decide) (t := .int) (t' := .int) (by decide) (by decide)))
  have F_o0_groundPin := F_o0_groundPin.same W4
  have F_o0_supplyPin := F_o0_supplyPin.other W4 (Or.inr (slot_ne (Or.inr (hw _ (List.mem_of_getElem? (i := 29) rfl))) (Or.inr (hw _ (List.mem_of_getElem? (i := 27) rfl))) (by decide) (t := .int) (t' := .int) (by decide) (by decide)))
  have F_o0_firstCellPin := F_o0_firstCellPin.other W4 (Or.inr (slot_ne (Or.inr (hw _ (List.mem_of_getElem? (i := 31) rfl))) (Or.inr (hw _ (List.mem_of_getElem? (i := 27) rfl))) (by decide) (t := .int) (t' := .int) (by decide) (by decide)))
  have F_o0_lastCellPin := F_o0_lastCellPin.other W4 (Or.inr (slot_ne (Or.inr (hw _ (List.mem_of_getElem? (i := 33) rfl))) (Or.inr (hw _ (List.mem_of_getElem? (i := 27) rfl))) (by decide) (t := .int) (t' := .int) (by decide) (by decide)))
  have F_o0_fuseCount := F_o0_fuseCount.other W4 (Or.inr (slot_ne (Or.inr (hw _ (List.mem_of_getElem? (i := 35) rfl))) (Or.inr (hw _ (List.mem_of_getElem? (i := 27) rfl))) (by decide) (t := .int) (t' := .int) (by decide) (by decide)))
  have F_o0_columns := F_o0_columns.other W4 (Or.inr (slot_ne (Or.inr (hw _ (List.mem_of_getElem? (i := 37) rfl))) (Or.inr (hw _ (List.mem_of_getElem? (i := 27) rfl))) (by decide) (t := .int) (t' := .int) (by decide) (by decide)))
  have K := K.wr W4 (Or.inl (by simp))
  have Z0 := Nat.le_trans Z0 (Nat.le_of_eq W4.size.symm)
  have N4 := own_fs (sl := Jvm.RoadKit.slotOf Z "com/example/mat44/mat44/Layout" "groundPin" "I") N3 g_o0
  show own_Out p e below _ T4 (mkF m 19 #[.val (.ref o0), .val (.ref ar), .val (.int u2), .val (.int u3), .val (.int u4), .val (.int u5), .val (.int u6), .val (.int u7), .val (.int u8)] []) _ _ _
  refine own_to (fun t k => XS.aloadN X4.here hx rfl (hb hby d1_19) rfl rfl k) ?_
  show own_Out p e below _ T4 (mkF m 20 #[.val (.ref o0), .val (.ref ar), .val (.int u2), .val (.int u3), .val (.int u4), .val (.int u5), .val (.int u6), .val (.int u7), .val (.int u8)] [(.ref o0)]) _ _ _
  refine own_to (fun t k => XS.iload X4.here hx rfl (hb hby d1_20) rfl k) ?_
  show own_Out p e below _ T4 (mkF m 22 #[.val (.ref o0), .val (.ref ar), .val (.int u2), .val (.int u3), .val (.int u4), .val (.int u5), .val (.int u6), .val (.int u7), .val (.int u8)] [(.int u4), (.ref o0)]) _ _ _
  refine own_putF X4 hx hZ hown (hw _ (List.mem_of_getElem? (i := 28) rfl)) e4 F_o0_supplyPin E_o0 (Or.inr ⟨(hw _ (List.mem_of_getElem? (i := 29) rfl)), rfl, hnm⟩) (hw _ (List.mem_of_getElem? (i := 1) rfl)) (ty := .int) (by decide) rfl rfl rfl rfl (hb hby d1_22) fun T5 hh5 X5 e5 W5 => ?_
  have E_o0 := E_o0.wr W5
  have F_o0_name := F_o0_name.other W5 (Or.inr (slot_ne (Or.inr (hw _ (List.mem_of_getElem? (i := 23) rfl))) (Or.inr (hw _ (List.mem_of_getElem? (i := 29) rfl))) (by decide) (t := (.object "java/lang/String")) (t' := .int) (by decide) (by decide)))
  have F_o0_pinCount := F_o0_pinCount.other W5 (Or.inr (slot_ne (Or.inr (hw _ (List.mem_of_getElem? (i := 25) rfl))) (Or.inr (hw _ (List.mem_of_getElem? (i := 29) rfl))) (by decide) (t := .int) (t' := .int) (by decide) (by decide)))
  have F_o0_groundPin := F_o0_groundPin.other W5 (Or.inr (slot_ne (Or.inr (hw _ (List.mem_of_getElem? (i := 27) rfl))) (Or.inr (hw _ (List.mem_of_getElem? (i := 29) rfl))) (by decide) (t := .int) (t' := .int) (by decide) (by decide)))
  have F_o0_supplyPin := F_o0_supplyPin.same W5
  have F_o0_firstCellPin := F_o0_firstCellPin.other W5 (Or.inr (slot_ne (Or.inr (hw _ (List.mem_of_getElem? (i := 31) rfl))) (Or.inr (hw _ (List.mem_of_getElem? (i := 29) rfl))) (by decide) (t := .int) (t' := .int) (by decide) (by decide)))
  have F_o0_lastCellPin := F_o0_lastCellPin.other W5 (Or.inr (slot_ne (Or.inr (hw _ (List.mem_of_getElem? (i := 33) rfl))) (Or.inr (hw _ (List.mem_of_getElem? (i := 29) rfl))) (by decide) (t := .int) (t' := .int) (by decide) (by decide)))
  have F_o0_fuseCount := F_o0_fuseCount.other W5 (Or.inr (slot_ne (Or.inr (hw _ (List.mem_of_getElem? (i := 35) rfl))) (Or.inr (hw _ (List.mem_of_getElem? (i := 29) rfl))) (by decide) (t := .int) (t' := .int) (by decide) (by decide)))
  have F_o0_columns := F_o0_columns.other W5 (Or.inr (slot_ne (Or.inr (hw _ (List.mem_of_getElem? (i := 37) rfl))) (Or.inr (hw _ (List.mem_of_getElem? (i := 29) rfl))) (by decide) (t := .int) (t' := .int) (by decide) (by decide)))
  have K := K.wr W5 (Or.inl (by simp))
  have Z0 := Nat.le_trans Z0 (Nat.le_of_eq W5.size.symm)
  have N5 := own_fs (sl := Jvm.RoadKit.slotOf Z "com/example/mat44/mat44/Layout" "supplyPin" "I") N4 g_o0
  show own_Out p e below _ T5 (mkF m 25 #[.val (.ref o0), .val (.ref ar), .val (.int u2), .val (.int u3), .val (.int u4), .val (.int u5), .val (.int u6), .val (.int u7), .val (.int u8)] []) _ _ _
  refine own_to (fun t k => XS.aloadN X5.here hx rfl (hb hby d1_25) rfl rfl k) ?_
  show own_Out p e below _ T5 (mkF m 26 #[.val (.ref o0), .val (.ref ar), .val (.int u2), .val (.int u3), .val (.int u4), .val (.int u5), .val (.int u6), .val (.int u7), .val (.int u8)] [(.ref o0)]) _ _ _
  refine own_to (fun t k => XS.iload X5.here hx rfl (hb hby d1_26) rfl k) ?_
  show own_Out p e below _ T5 (mkF m 28 #[.val (.ref o0), .val (.ref ar), .val (.int u2), .val (.int u3), .val (.int u4), .val (.int u5), .val (.int u6), .val (.int u7), .val (.int u8)] [(.int u5), (.ref o0)]) _ _ _
  refine own_putF X5 hx hZ hown (hw _ (List.mem_of_getElem? (i := 30) rfl)) e5 F_o0_firstCellPin E_o0 (Or.inr ⟨(hw _ (List.mem_of_getElem? (i := 31) rfl)), rfl, hnm⟩) (hw _ (List.mem_of_getElem? (i := 1) rfl)) (ty := .int) (by decide) rfl rfl rfl rfl (hb hby d1_28) fun T6 hh6 X6 e6 W6 => ?_
  have E_o0 := E_o0.wr W6
  have F_o0_name := F_o0_name.other W6 (Or.inr (slot_ne (Or.inr (hw _ (List.mem_of_getElem? (i := 23) rfl))) (Or.inr (hw _ (List.mem_of_getElem? (i := 31) rfl))) (by decide) (t := (.object "java/lang/String")) (t' := .int) (by decide) (by decide)))
  have F_o0_pinCount := F_o0_pinCount.other W6 (Or.inr (slot_ne (Or.inr (hw _ (List.mem_of_getElem? (i := 25) rfl))) (Or.inr (hw _ (List.mem_of_getElem? (i := 31) rfl))) (by decide) (t := .int) (t' := .int) (by decide) (by decide)))
  have F_o0_groundPin := F_o0_groundPin.other W6 (Or.inr (slot_ne (Or.inr (hw _ (List.mem_of_getElem? (i := 27) rfl))) (Or.inr (hw _ (List.mem_of_getElem? (i := 31) rfl))) (by decide) (t := .int) (t' := .int) (by decide) (by decide)))
  have F_o0_supplyPin := F_o0_supplyPin.other W6 (Or.inr (slot_ne (Or.inr (hw _ (List.mem_of_getElem? (i := 29) rfl))) (Or.inr (hw _ (List.mem_of_getElem? (i := 31) rfl))) (by decide) (t := .int) (t' := .int) (by decide) (by decide)))
  have F_o0_firstCellPin := F_o0_firstCellPin.same W6
  have F_o0_lastCellPin := F_o0_lastCellPin.other W6 (Or.inr (slot_ne (Or.inr (hw _ (List.mem_of_getElem? (i := 33) rfl))) (Or.inr (hw _ (List.mem_of_getElem? (i := 31) rfl))) (by decide) (t := .int) (t' := .int) (by decide) (by decide)))
  have F_o0_fuseCount := F_o0_fuseCount.other W6 (Or.inr (slot_ne (Or.inr (hw _ (List.mem_of_getElem? (i := 35) rfl))) (Or.inr (hw _ (List.mem_of_getElem? (i := 31) rfl))) (by decide) (t := .int) (t' := .int) (by decide) (by decide)))
  have F_o0_columns := F_o0_columns.other W6 (Or.inr (slot_ne (Or.inr (hw _ (List.mem_of_getElem? (i := 37) rfl))) (Or.inr (hw _ (List.mem_of_getElem? (i := 31) rfl))) (by decide) (t := .int) (t' := .int) (by decide) (by decide)))
  have K := K.wr W6 (Or.inl (by simp))
  have Z0 := Nat.le_trans Z0 (Nat.le_of_eq W6.size.symm)
  have N6 := own_fs (sl := Jvm.RoadKit.slotOf Z "com/example/mat44/mat44/Layout" "firstCellPin" "I") N5 g_o0
  show own_Out p e below _ T6 (mkF m 31 #[.val (.ref o0), .val (.ref ar), .val (.int u2), .val (.int u3), .val (.int u4), .val (.int u5), .val (.int u6), .val (.int u7), .val (.int u8)] []) _ _ _
  refine own_to (fun t k => XS.aloadN X6.here hx rfl (hb hby d1_31) rfl rfl k) ?_
  show own_Out p e below _ T6 (mkF m 32 #[.val (.ref o0), .val (.ref ar), .val (.int u2), .val (.int u3), .val (.int u4), .val (.int u5), .val (.int u6), .val (.int u7), .val (.int u8)] [(.ref o0)]) _ _ _
  refine own_to (fun t k => XS.iload X6.here hx rfl (hb hby d1_32) rfl k) ?_
  show own_Out p e below _ T6 (mkF m 34 #[.val (.ref o0), .val (.ref ar), .val (.int u2), .val (.int u3), .val (.int u4), .val (.int u5), .val (.int u6), .val (.int u7), .val (.int u8)] [(.int u6), (.ref o0)]) _ _ _
  refine own_putF X6 hx hZ hown (hw _ (List.mem_of_getElem? (i := 32) rfl)) e6 F_o0_lastCellPin E_o0 (Or.inr ⟨(hw _ (List.mem_of_getElem? (i := 33) rfl)), rfl, hnm⟩) (hw _ (List.mem_of_getElem? (i := 1) rfl)) (ty := .int) (by decide) rfl rfl rfl rfl (hb hby d1_34) fun T7 hh7 X7 e7 W7 => ?_
  have E_o0 := E_o0.wr W7
  have F_o0_name := F_o0_name.other W7 (Or.inr (slot_ne (Or.inr (hw _ (List.mem_of_getElem? (i := 23) rfl))) (Or.inr (hw _ (List.mem_of_getElem? (i := 33) rfl))) (by decide) (t := (.object "java/lang/String")) (t' := .int) (by decide) (by decide)))
  have F_o0_pinCount := F_o0_pinCount.other W7 (Or.inr (slot_ne (Or.inr (hw _ (List.mem_of_getElem? (i := 25) rfl))) (Or.inr (hw _ (List.mem_of_getElem? (i := 33) rfl))) (by decide) (t := .int) (t' := .int) (by decide) (by decide)))
  have F_o0_groundPin := F_o0_groundPin.other W7 (Or.inr (slot_ne (Or.inr (hw _ (List.mem_of_getElem? (i := 27) rfl))) (Or.inr (hw _ (List.mem_of_getElem? (i := 33) rfl))) (by decide) (t := .int) (t' := .int) (by decide) (by decide)))
  have F_o0_supplyPin := F_o0_supplyPin.other W7 (Or.inr (slot_ne (Or.inr (hw _ (List.mem_of_getElem? (i := 29) rfl))) (Or.inr (hw _ (List.mem_of_getElem? (i := 33) rfl))) (by decide) (t := .int) (t' := .int) (by decide) (by decide)))
  have F_o0_firstCellPin := F_o0_firstCellPin.other W7 (Or.inr (slot_ne (Or.inr (hw _ (List.mem_of_getElem? (i := 31) rfl))) (Or.inr (hw _ (List.mem_of_getElem? (i := 33) rfl))) (by decide) (t := .int) (t' := .int) (by decide) (by decide)))
  have F_o0_lastCellPin := F_o0_lastCellPin.same W7
  have F_o0_fuseCount := F_o0_fuseCount.other W7 (Or.inr (slot_ne (Or.inr (hw _ (List.mem_of_getElem? (i := 35) rfl))) (Or.inr (hw _ (List.mem_of_getElem? (i := 33) rfl))) (by decide) (t := .int) (t' := .int) (by decide) (by decide)))
  have F_o0_columns := F_o0_columns.other W7 (Or.inr (slot_ne (Or.inr (hw _ (List.mem_of_getElem? (i := 37) rfl))) (Or.inr (hw _ (List.mem_of_getElem? (i := 33) rfl))) (by decide) (t := .int) (t' := .int) (by decide) (by decide)))
  have K := K.wr W7 (Or.inl (by simp))
  have Z0 := Nat.le_trans Z0 (Nat.le_of_eq W7.size.symm)
  have N7 := own_fs (sl := Jvm.RoadKit.slotOf Z "com/example/mat44/mat44/Layout" "lastCellPin" "I") N6 g_o0
  show own_Out p e below _ T7 (mkF m 37 #[.val (.ref o0), .val (.ref ar), .val (.int u2), .val (.int u3), .val (.int u4), .val (.int u5), .val (.int u6), .val (.int u7), .val (.int u8)] []) _ _ _
  refine own_to (fun t k => XS.aloadN X7.here hx rfl (hb hby d1_37) rfl rfl k) ?_
  show own_Out p e below _ T7 (mkF m 38 #[.val (.ref o0), .val (.ref ar), .val (.int u2), .val (.int u3), .val (.int u4), .val (.int u5), .val (.int u6), .val (.int u7), .val (.int u8)] [(.ref o0)]) _ _ _
  refine own_to (fun t k => XS.iload X7.here hx rfl (hb hby d1_38) rfl k) ?_
  show own_Out p e below _ T7 (mkF m 40 #[.val (.ref o0), .val (.ref ar), .val (.int u2), .val (.int u3), .val (.int u4), .val (.int u5), .val (.int u6), .val (.int u7), .val (.int u8)] [(.int u7), (.ref o0)]) _ _ _
  refine own_putF X7 hx hZ hown (hw _ (List.mem_of_getElem? (i := 34) rfl)) e7 F_o0_fuseCount E_o0 (Or.inr ⟨(hw _ (List.mem_of_getElem? (i := 35) rfl)), rfl, hnm⟩) (hw _ (List.mem_of_getElem? (i := 1) rfl)) (ty := .int) (by decide) rfl rfl rfl rfl (hb hby d1_40) fun T8 hh8 X8 e8 W8 => ?_
  have E_o0 := E_o0.wr W8
  have F_o0_name := F_o0_name.other W8 (Or.inr (slot_ne (Or.inr (hw _ (List.mem_of_getElem? (i := 23) rfl))) (Or.inr (hw _ (List.mem_of_getElem? (i := 35) rfl))) (by decide) (t := (.object "java/lang/String")) (t' := .int) (by decide) (by decide)))
  have F_o0_pinCount := F_o0_pinCount.other W8 (Or.inr (slot_ne (Or.inr (hw _ (List.mem_of_getElem? (i := 25) rfl))) (Or.inr (hw _ (List.mem_of_getElem? (i := 35) rfl))) (by decide) (t := .int) (t' := .int) (by decide) (by decide)))
  have F_o0_groundPin := F_o0_groundPin.other W8 (Or.inr (slot_ne (Or.inr (hw _ (List.mem_of_getElem? (i := 27) rfl))) (Or.inr (hw _ (List.mem_of_getElem? (i := 35) rfl))) (by decide) (t := .int) (t' := .int) (by decide) (by decide)))
  have F_o0_supplyPin := F_o0_supplyPin.other W8 (Or.inr (slot_ne (Or.inr (hw _ (List.mem_of_getElem? (i := 29) rfl))) (Or.inr (hw _ (List.mem_of_getElem? (i := 35) rfl))) (by decide) (t := .int) (t' := .int) (by decide) (by decide)))
  have F_o0_firstCellPin := F_o0_firstCellPin.other W8 (Or.inr (slot_ne (Or.inr (hw _ (List.mem_of_getElem? (i := 31) rfl))) (Or.inr (hw _ (List.mem_of_getElem? (i := 35) rfl))) (by decide) (t := .int) (t' := .int) (by decide) (by decide)))
  have F_o0_lastCellPin := F_o0_lastCellPin.other W8 (Or.inr (slot_ne (Or.inr (hw _ (List.mem_of_getElem? (i := 33) rfl))) (Or.inr (hw _ (List.mem_of_getElem? (i := 35) rfl))) (by decide) (t := .int) (t' := .int) (by decide) (by decide)))
  have F_o0_fuseCount := F_o0_fuseCount.same W8
  have F_o0_columns := F_o0_columns.other W8 (Or.inr (slot_ne (Or.inr (hw _ (List.mem_of_getElem? (i := 37) rfl))) (Or.inr (hw _ (List.mem_of_getElem? (i := 35) rfl))) (by decide) (t := .int) (t' := .int) (by decide) (by decide)))
  have K := K.wr W8 (Or.inl (by simp))
  have Z0 := Nat.le_trans Z0 (Nat.le_of_eq W8.size.symm)
  have N8 := own_fs (sl := Jvm.RoadKit.slotOf Z "com/example/mat44/mat44/Layout" "fuseCount" "I") N7 g_o0
  show own_Out p e below _ T8 (mkF m 43 #[.val (.ref o0), .val (.ref ar), .val (.int u2), .val (.int u3), .val (.int u4), .val (.int u5), .val (.int u6), .val (.int u7), .val (.int u8)] []) _ _ _
  refine own_to (fun t k => XS.aloadN X8.here hx rfl (hb hby d1_43) rfl rfl k) ?_
  show own_Out p e below _ T8 (mkF m 44 #[.val (.ref o0), .val (.ref ar), .val (.int u2), .val (.int u3), .val (.int u4), .val (.int u5), .val (.int u6), .val (.int u7), .val (.int u8)] [(.ref o0)]) _ _ _
  refine own_to (fun t k => XS.iload X8.here hx rfl (hb hby d1_44) rfl k) ?_
  show own_Out p e below _ T8 (mkF m 46 #[.val (.ref o0), .val (.ref ar), .val (.int u2), .val (.int u3), .val (.int u4), .val (.int u5), .val (.int u6), .val (.int u7), .val (.int u8)] [(.int u8), (.ref o0)]) _ _ _
  refine own_putF X8 hx hZ hown (hw _ (List.mem_of_getElem? (i := 36) rfl)) e8 F_o0_columns E_o0 (Or.inr ⟨(hw _ (List.mem_of_getElem? (i := 37) rfl)), rfl, hnm⟩) (hw _ (List.mem_of_getElem? (i := 1) rfl)) (ty := .int) (by decide) rfl rfl rfl rfl (hb hby d1_46) fun T9 hh9 X9 e9 W9 => ?_
  have E_o0 := E_o0.wr W9
  have F_o0_name := F_o0_name.other W9 (Or.inr (slot_ne (Or.inr (hw _ (List.mem_of_getElem? (i := 23) rfl))) (Or.inr (hw _ (List.mem_of_getElem? (i := 37) rfl))) (by decide) (t := (.object "java/lang/String")) (t' := .int) (by decide) (by decide)))
  have F_o0_pinCount := F_o0_pinCount.other W9 (Or.inr (slot_ne (Or.inr (hw _ (List.mem_of_getElem? (i := 25) rfl))) (Or.inr (hw _ (List.mem_of_getElem? (i := 37) rfl))) (by decide) (t := .int) (t' := .int) (by decide) (by decide)))
  have F_o0_groundPin := F_o0_groundPin.other W9 (Or.inr (slot_ne (Or.inr (hw _ (List.mem_of_getElem? (i := 27) rfl))) (Or.inr (hw _ (List.mem_of_getElem? (i := 37) rfl))) (by decide) (t := .int) (t' := .int) (by decide) (by decide)))
  have F_o0_supplyPin := F_o0_supplyPin.other W9 (Or.inr (slot_ne (Or.inr (hw _ (List.mem_of_getElem? (i := 29) rfl))) (Or.inr (hw _ (List.mem_of_getElem? (i := 37) rfl))) (by decide) (t := .int) (t' := .int) (by decide) (by decide)))
  have F_o0_firstCellPin := F_o0_firstCellPin.other W9 (Or.inr (slot_ne (Or.inr (hw _ (List.mem_of_getElem? (i := 31) rfl))) (Or.inr (hw _ (List.mem_of_getElem? (i := 37) rfl))) (by decide) (t := .int) (t' := .int) (by decide) (by decide)))
  have F_o0_lastCellPin := F_o0_lastCellPin.other W9 (Or.inr (slot_ne (Or.inr (hw _ (List.mem_of_getElem? (i := 33) rfl))) (Or.inr (hw _ (List.mem_of_getElem? (i := 37) rfl))) (by decide) (t := .int) (t' := .int) (by decide) (by decide)))
  have F_o0_fuseCount := F_o0_fuseCount.other W9 (Or.inr (slot_ne (Or.inr (hw _ (List.mem_of_getElem? (i := 35) rfl))) (Or.inr (hw _ (List.mem_of_getElem? (i := 37) rfl))) (by decide) (t := .int) (t' := .int) (by decide) (by decide)))
  have F_o0_columns := F_o0_columns.same W9
  have K := K.wr W9 (Or.inl (by simp))
  have Z0 := Nat.le_trans Z0 (Nat.le_of_eq W9.size.symm)
  have N9 := own_fs (sl := Jvm.RoadKit.slotOf Z "com/example/mat44/mat44/Layout" "columns" "I") N8 g_o0
  show own_Out p e below _ T9 (mkF m 49 #[.val (.ref o0), .val (.ref ar), .val (.int u2), .val (.int u3), .val (.int u4), .val (.int u5), .val (.int u6), .val (.int u7), .val (.int u8)] []) _ _ _
  refine own_ret0 X9 hx hlk hret (hb hby d1_49) (by decide) (by decide) ?_
  rw [e9]
  exact ⟨rfl, N9, K, F_o0_columns⟩
def own_row (ff fv : Nat → Int32) (pn k : Nat) : Nat → Int32
  | 0 => 1
  | n + 1 => if ff (pn + (k - (n + 1))) = 0 then (if fv (k - (n + 1)) = 0 then 0 else own_row ff fv pn k n) else own_row ff fv pn k n
theorem own_lt {x y : Int32} : x < y ↔ x.toInt < y.toInt := Int32.lt_iff_toInt_lt
theorem own_mul (r k : Int32) (hr : 0 ≤ r.toInt ∧ r.toInt ≤ 1) (hk : 0 ≤ k.toInt ∧ k.toInt ≤ 3) : 0 ≤ (r * k).toInt ∧ (r * k).toInt ≤ 3 := by
  have h := c_imul r k
  have q := rng32 (r * k)
  have w : r.toInt = 0 ∨ r.toInt = 1 := by omega
  rcases w with w | w <;> rw [w] at h <;> omega
theorem own_ad (x y : Int32) (hx : 0 ≤ x.toInt ∧ x.toInt ≤ 10) (hy : 0 ≤ y.toInt ∧ y.toInt ≤ 10) : (x + y).toInt = x.toInt + y.toInt := by
  have h := c_iadd x y
  have q := rng32 (x + y)
  omega
theorem own_nn (x : Int32) : x.toNatClampNeg = x.toInt.toNat := rfl
theorem own_ge {x : Int32} (h : 0 ≤ x.toInt) : ¬ x < 0 := by
  have k : (0 : Int32).toInt = 0 := by decide
  rw [own_lt]; omega
theorem d4_0 : decode prog_30_method_14_code 0 = .ok (.iconst 0, 1) := by decide +kernel
theorem d4_1 : decode prog_30_method_14_code 1 = .ok (.istore 4, 2) := by decide +kernel
theorem d4_3 : decode prog_30_method_14_code 3 = .ok (.iload 4, 2) := by decide +kernel
theorem d4_5 : decode prog_30_method_14_code 5 = .ok (.aload_n 0, 1) := by decide +kernel
theorem d4_6 : decode prog_30_method_14_code 6 = .ok (.getfield 32, 3) := by decide +kernel
theorem d4_9 : decode prog_30_method_14_code 9 = .ok (.if_icmp .ge 32, 3) := by decide +kernel
theorem d4_12 : decode prog_30_method_14_code 12 = .ok (.aload_n 1, 1) := by decide +kernel
theorem d4_13 : decode prog_30_method_14_code 13 = .ok (.iload_n 2, 1) := by decide +kernel
theorem d4_14 : decode prog_30_method_14_code 14 = .ok (.aload_n 0, 1) := by decide +kernel
theorem d4_15 : decode prog_30_method_14_code 15 = .ok (.getfield 32, 3) := by decide +kernel
theorem d4_18 : decode prog_30_method_14_code 18 = .ok (.imul, 1) := by decide +kernel
theorem d4_19 : decode prog_30_method_14_code 19 = .ok (.iload 4, 2) := by decide +kernel
theorem d4_21 : decode prog_30_method_14_code 21 = .ok (.iadd, 1) := by decide +kernel
theorem d4_22 : decode prog_30_method_14_code 22 = .ok (.baload, 1) := by decide +kernel
theorem d4_23 : decode prog_30_method_14_code 23 = .ok (.ifCond .ne 12, 3) := by decide +kernel
theorem d4_26 : decode prog_30_method_14_code 26 = .ok (.aload_n 3, 1) := by decide +kernel
theorem d4_27 : decode prog_30_method_14_code 27 = .ok (.iload 4, 2) := by decide +kernel
theorem d4_29 : decode prog_30_method_14_code 29 = .ok (.baload, 1) := by decide +kernel
theorem d4_30 : decode prog_30_method_14_code 30 = .ok (.ifCond .ne 5, 3) := by decide +kernel
theorem d4_33 : decode prog_30_method_14_code 33 = .ok (.iconst 0, 1) := by decide +kernel
theorem d4_34 : decode prog_30_method_14_code 34 = .ok (.ireturn, 1) := by decide +kernel
theorem d4_35 : decode prog_30_method_14_code 35 = .ok (.iinc 4 1, 3) := by decide +kernel
theorem d4_38 : decode prog_30_method_14_code 38 = .ok (.goto (-35), 3) := by decide +kernel
theorem d4_41 : decode prog_30_method_14_code 41 = .ok (.iconst 1, 1) := by decide +kernel
theorem d4_42 : decode prog_30_method_14_code 42 = .ok (.ireturn, 1) := by decide +kernel
theorem ef_4 (m : MethodId) (o0 : Addr) (oF : Addr) (u2 : Int32) (oV : Addr) : entryFrame m #[(.ref o0), (.ref oF), (.int u2), (.ref oV)] 5 = mkF m 0 #[.val (.ref o0), .val (.ref oF), .val (.int u2), .val (.ref oV), .unset] [] := by first | (simp [entryFrame, mkF, argsToLocals, Value.category]; done) | rfl
def Q4 (Z : State) (o0 : Addr) (oF : Addr) (u2 : Int32) (oV : Addr) (fk : Int32) (ff : Nat → Int32) (fv : Nat → Int32) (h0 : Heap) (n0 : Nat) (v : Option Value) (h : Heap) (L : List Loc) : Prop := v = some (.int (own_row ff fv ((u2 * fk).toNatClampNeg) fk.toInt.toNat fk.toInt.toNat)) ∧ Fr n0 L ∧ h = h0
set_option maxRecDepth 65536 in
set_option maxHeartbeats 40000000 in
theorem rm4 (l : Launch) (Z : State) (a0 : Array Value) (hw : ∀ d ∈ tables_1, d.before a0 Z = true) (o0 : Addr) (oF : Addr) (u2 : Int32) (oV : Addr) (fk : Int32) (ff : Nat → Int32) (fv : Nat → Int32) (h0 : Heap) (n0 : Nat) (Z0 : n0 ≤ h0.size) (F_o0_columns : Fld Z h0 o0 "com/example/mat44/mat44/Layout" "columns" "I" (.int fk)) (A_oF : own_A Z h0 oF .boolean 6 ff) (A_oV : own_A Z h0 oV .boolean 3 fv) (hk : 0 ≤ fk.toInt ∧ fk.toInt ≤ 3) (hr : 0 ≤ u2.toInt ∧ u2.toInt ≤ 1) :
    own_C l Z (⟨"com/example/mat44/mat44/Layout", "isRowTrue", "([ZI[Z)Z"⟩ : MethodName) prog_30_method_14_code 5 (some .boolean) ({ frames := 0, cells := 0, slots := 0, locals := 0 } : Room) #[(.ref o0), (.ref oF), (.int u2), (.ref oV)] h0 (Q4 Z o0 oF u2 oV fk ff fv h0 n0) := by
  refine own_met (plainFor_of_name pn_1) ?_
  intro p e s m below meth c s₁ hx hby hml hret hlk hown hnm hZ X0 e0
  refine own_cast (ef_4 m o0 oF u2 oV) ?_
  have N0 := Fr.nil n0
  show own_Out p e below _ s₁ (mkF m 0 #[.val (.ref o0), .val (.ref oF), .val (.int u2), .val (.ref oV), .unset] []) _ _ _
  refine own_to (fun t k => XS.iconst X0.here hx rfl (hb hby d4_0) k) ?_
  show own_Out p e below _ s₁ (mkF m 1 #[.val (.ref o0), .val (.ref oF), .val (.int u2), .val (.ref oV), .unset] [(.int (0 : Int32))]) _ _ _
  refine own_to (fun t k => XS.istore X0.here hx rfl (hb hby d4_1) rfl (l' := #[.val (.ref o0), .val (.ref oF), .val (.int u2), .val (.ref oV), .val (.int (0 : Int32))]) rfl k) ?_
  show own_Out p e below _ s₁ (mkF m 3 #[.val (.ref o0), .val (.ref oF), .val (.int u2), .val (.ref oV), .val (.int (0 : Int32))] []) _ _ _
  have J3 : ∀ (fu3 : Nat) (cc : Int32) (T1 : State) (L1 : List Loc) (X1 : Stand p l e ({ frames := 0, cells := 0, slots := 0, locals := 0 } : Room) s m #[(.ref o0), (.ref oF), (.int u2), (.ref oV)] below meth c T1 L1 0 0) (e1 : T1.heap = h0) (N1 : Fr n0 L1) (hcc : 0 ≤ cc.toInt ∧ cc.toInt ≤ fk.toInt) (hres : own_row ff fv ((u2 * fk).toNatClampNeg) fk.toInt.toNat fk.toInt.toNat = own_row ff fv ((u2 * fk).toNatClampNeg) fk.toInt.toNat (fk.toInt.toNat - cc.toInt.toNat)) (hfu : fk.toInt.toNat + 1 - cc.toInt.toNat < fu3), own_Out p e below (FrameEnd s) T1 (mkF m 3 #[.val (.ref o0), .val (.ref oF), .val (.int u2), .val (.ref oV), .val (.int cc)] []) (Q4 Z o0 oF u2 oV fk ff fv h0 n0) ({ frames := 0, cells := 0, slots := 0, locals := 0 } : Room).cells ({ frames := 0, cells := 0, slots := 0, locals := 0 } : Room).slots := by
    intro fu3
    induction fu3 with
    | zero => intro cc T1 L1 X1 e1 N1 hcc hres hfu; exact absurd hfu (Nat.not_lt_zero _)
    | succ fu3 ih3 =>
      intro cc T1 L1 X1 e1 N1 hcc hres hfu
      show own_Out p e below _ T1 (mkF m 3 #[.val (.ref o0), .val (.ref oF), .val (.int u2), .val (.ref oV), .val (.int cc)] []) _ _ _
      refine own_to (fun t k => XS.iload X1.here hx rfl (hb hby d4_3) rfl k) ?_
      show own_Out p e below _ T1 (mkF m 5 #[.val (.ref o0), .val (.ref oF), .val (.int u2), .val (.ref oV), .val (.int cc)] [(.int cc)]) _ _ _
      refine own_to (fun t k => XS.aloadN X1.here hx rfl (hb hby d4_5) rfl rfl k) ?_
      show own_Out p e below _ T1 (mkF m 6 #[.val (.ref o0), .val (.ref oF), .val (.int u2), .val (.ref oV), .val (.int cc)] [(.ref o0), (.int cc)]) _ _ _
      refine own_getF X1 hx hZ hown (hw _ (List.mem_of_getElem? (i := 36) rfl)) e1 F_o0_columns rfl rfl (hb hby d4_6) fun T2 X2 e2 => ?_
      show own_Out p e below _ T2 (mkF m 9 #[.val (.ref o0), .val (.ref oF), .val (.int u2), .val (.ref oV), .val (.int cc)] [(.int fk), (.int cc)]) _ _ _
      by_cases hc9 : cc < fk
      · refine own_to (fun t k => XS.icmpNo X2.here hx rfl (hb hby d4_9) rfl (tlt hc9).2.1 k) ?_
        show own_Out p e below _ T2 (mkF m 12 #[.val (.ref o0), .val (.ref oF), .val (.int u2), .val (.ref oV), .val (.int cc)] []) _ _ _
        have hcl : cc.toInt < fk.toInt := by rw [own_lt] at hc9; exact hc9
        have hm := own_mul u2 fk hr hk
        have ha := own_ad (u2 * fk) cc ⟨hm.1, by omega⟩ ⟨hcc.1, by omega⟩
        have k1 : (1 : Int32).toInt = 1 := by decide
        have hbb := own_ad cc 1 ⟨hcc.1, by omega⟩ ⟨by decide, by decide⟩
        have hix : ((u2 * fk) + cc).toNatClampNeg = ((u2 * fk).toNatClampNeg) + (fk.toInt.toNat - (fk.toInt.toNat - (cc + (1 : Int32)).toInt.toNat + 1)) := by rw [own_nn, own_nn]; omega
        have hiv : cc.toNatClampNeg = fk.toInt.toNat - (fk.toInt.toNat - (cc + (1 : Int32)).toInt.toNat + 1) := by rw [own_nn]; omega
        refine own_to (fun t k => XS.aloadN X2.here hx rfl (hb hby d4_12) rfl rfl k) ?_
        show own_Out p e below _ T2 (mkF m 13 #[.val (.ref o0), .val (.ref oF), .val (.int u2), .val (.ref oV), .val (.int cc)] [(.ref oF)]) _ _ _
        refine own_to (fun t k => XS.iloadN X2.here hx rfl (hb hby d4_13) rfl k) ?_
        show own_Out p e below _ T2 (mkF m 14 #[.val (.ref o0), .val (.ref oF), .val (.int u2), .val (.ref oV), .val (.int cc)] [(.int u2), (.ref oF)]) _ _ _
        refine own_to (fun t k => XS.aloadN X2.here hx rfl (hb hby d4_14) rfl rfl k) ?_
        show own_Out p e below _ T2 (mkF m 15 #[.val (.ref o0), .val (.ref oF), .val (.int u2), .val (.ref oV), .val (.int cc)] [(.ref o0), (.int u2), (.ref oF)]) _ _ _
        refine own_getF X2 hx hZ hown (hw _ (List.mem_of_getElem? (i := 36) rfl)) e2 F_o0_columns rfl rfl (hb hby d4_15) fun T3 X3 e3 => ?_
        show own_Out p e below _ T3 (mkF m 18 #[.val (.ref o0), .val (.ref oF), .val (.int u2), .val (.ref oV), .val (.int cc)] [(.int fk), (.int u2), (.ref oF)]) _ _ _
        refine own_to (fun t k => XS.imul X3.here hx rfl (hb hby d4_18) rfl k) ?_
        show own_Out p e below _ T3 (mkF m 19 #[.val (.ref o0), .val (.ref oF), .val (.int u2), .val (.ref oV), .val (.int cc)] [(.int (u2 * fk)), (.ref oF)]) _ _ _
        refine own_to (fun t k => XS.iload X3.here hx rfl (hb hby d4_19) rfl k) ?_
        show own_Out p e below _ T3 (mkF m 21 #[.val (.ref o0), .val (.ref oF), .val (.int u2), .val (.ref oV), .val (.int cc)] [(.int cc), (.int (u2 * fk)), (.ref oF)]) _ _ _
        refine own_to (fun t k => XS.iadd X3.here hx rfl (hb hby d4_21) rfl k) ?_
        show own_Out p e below _ T3 (mkF m 22 #[.val (.ref o0), .val (.ref oF), .val (.int u2), .val (.ref oV), .val (.int cc)] [(.int ((u2 * fk) + cc)), (.ref oF)]) _ _ _
        refine own_ldZ X3 hx hZ e3 A_oF (own_ge (by omega)) (by rw [own_nn]; omega) rfl rfl (hb hby d4_22) fun w4 hw4 => ?_
        rw [hix] at hw4
        show own_Out p e below _ T3 (mkF m 23 #[.val (.ref o0), .val (.ref oF), .val (.int u2), .val (.ref oV), .val (.int cc)] [(.int w4)]) _ _ _
        by_cases hc23 : w4 = (0 : Int32)
        · refine own_to (fun t k => XS.ifNo X3.here hx rfl (hb hby d4_23) rfl ((if0 _ _).trans (teq hc23).2) k) ?_
          show own_Out p e below _ T3 (mkF m 26 #[.val (.ref o0), .val (.ref oF), .val (.int u2), .val (.ref oV), .val (.int cc)] []) _ _ _
          refine own_to (fun t k => XS.aloadN X3.here hx rfl (hb hby d4_26) rfl rfl k) ?_
          show own_Out p e below _ T3 (mkF m 27 #[.val (.ref o0), .val (.ref oF), .val (.int u2), .val (.ref oV), .val (.int cc)] [(.ref oV)]) _ _ _
          refine own_to (fun t k => XS.iload X3.here hx rfl (hb hby d4_27) rfl k) ?_
          show own_Out p e below _ T3 (mkF m 29 #[.val (.ref o0), .val (.ref oF), .val (.int u2), .val (.ref oV), .val (.int cc)] [(.int cc), (.ref oV)]) _ _ _
          refine own_ldZ X3 hx hZ e3 A_oV (own_ge (by omega)) (by rw [own_nn]; omega) rfl rfl (hb hby d4_29) fun w5 hw5 => ?_
          rw [hiv] at hw5
          show own_Out p e below _ T3 (mkF m 30 #[.val (.ref o0), .val (.ref oF), .val (.int u2), .val (.ref oV), .val (.int cc)] [(.int w5)]) _ _ _
          by_cases hc30 : w5 = (0 : Int32)
          · refine own_to (fun t k => XS.ifNo X3.here hx rfl (hb hby d4_30) rfl ((if0 _ _).trans (teq hc30).2) k) ?_
            show own_Out p e below _ T3 (mkF m 33 #[.val (.ref o0), .val (.ref oF), .val (.int u2), .val (.ref oV), .val (.int cc)] []) _ _ _
            refine own_to (fun t k => XS.iconst X3.here hx rfl (hb hby d4_33) k) ?_
            show own_Out p e below _ T3 (mkF m 34 #[.val (.ref o0), .val (.ref oF), .val (.int u2), .val (.ref oV), .val (.int cc)] [(.int (0 : Int32))]) _ _ _
            refine own_retV X3 hx hlk (w := .int (0 : Int32)) hret rfl (Or.inl ⟨rfl, by simp, _, rfl⟩) (hb hby d4_34) (by decide) (by decide) ?_
            rw [e3]
            exact ⟨(by rw [hres, show fk.toInt.toNat - cc.toInt.toNat = (fk.toInt.toNat - (cc + (1 : Int32)).toInt.toNat) + 1 by omega, own_row, if_pos (hw4.symm.trans hc23), if_pos (hw5.symm.trans hc30)]), N1, rfl⟩
          · refine own_to (fun t k => XS.ifYes X3.here hx rfl (pc0 := 30) (pc' := 35) rfl (hb hby d4_30) rfl ((if0 _ _).trans (feq hc30).2) (by decide) (by decide) k) ?_
            show own_Out p e below _ T3 (mkF m 35 #[.val (.ref o0), .val (.ref oF), .val (.int u2), .val (.ref oV), .val (.int cc)] []) _ _ _
            have hF := hw4.symm.trans hc23
            have hV := fun q => hc30 (hw5.trans q)
            refine own_to (fun t k => XS.iinc X3.here hx rfl (hb hby d4_35) rfl (l' := #[.val (.ref o0), .val (.ref oF), .val (.int u2), .val (.ref oV), .val (.int (cc + (1 : Int32)))]) rfl k) ?_
            show own_Out p e below _ T3 (mkF m 38 #[.val (.ref o0), .val (.ref oF), .val (.int u2), .val (.ref oV), .val (.int (cc + (1 : Int32)))] []) _ _ _
            refine own_to (fun t k => XS.goto X3.here hx rfl (pc0 := 38) (pc' := 3) rfl (hb hby d4_38) (by decide) (by decide) k) ?_
            exact ih3 (cc + (1 : Int32)) T3 _ (X3.more (by decide) (by decide)) e3 N1 (by omega) (hres.trans (by rw [show fk.toInt.toNat - cc.toInt.toNat = (fk.toInt.toNat - (cc + (1 : Int32)).toInt.toNat) + 1 by omega, own_row, if_pos hF, if_neg hV])) (by omega)
        · refine own_to (fun t k => XS.ifYes X3.here hx rfl (pc0 := 23) (pc' := 35) rfl (hb hby d4_23) rfl ((if0 _ _).trans (feq hc23).2) (by decide) (by decide) k) ?_
          show own_Out p e below _ T3 (mkF m 35 #[.val (.ref o0), .val (.ref oF), .val (.int u2), .val (.ref oV), .val (.int cc)] []) _ _ _
          have hF := fun q => hc23 (hw4.trans q)
          refine own_to (fun t k => XS.iinc X3.here hx rfl (hb hby d4_35) rfl (l' := #[.val (.ref o0), .val (.ref oF), .val (.int u2), .val (.ref oV), .val (.int (cc + (1 : Int32)))]) rfl k) ?_
          show own_Out p e below _ T3 (mkF m 38 #[.val (.ref o0), .val (.ref oF), .val (.int u2), .val (.ref oV), .val (.int (cc + (1 : Int32)))] []) _ _ _
          refine own_to (fun t k => XS.goto X3.here hx rfl (pc0 := 38) (pc' := 3) rfl (hb hby d4_38) (by decide) (by decide) k) ?_
          exact ih3 (cc + (1 : Int32)) T3 _ (X3.more (by decide) (by decide)) e3 N1 (by omega) (hres.trans (by rw [show fk.toInt.toNat - cc.toInt.toNat = (fk.toInt.toNat - (cc + (1 : Int32)).toInt.toNat) + 1 by omega, own_row, if_neg hF])) (by omega)
      · refine own_to (fun t k => XS.icmpYes X2.here hx rfl (pc0 := 9) (pc' := 41) rfl (hb hby d4_9) rfl (flt hc9).2.1 (by decide) (by decide) k) ?_
        show own_Out p e below _ T2 (mkF m 41 #[.val (.ref o0), .val (.ref oF), .val (.int u2), .val (.ref oV), .val (.int cc)] []) _ _ _
        refine own_to (fun t k => XS.iconst X2.here hx rfl (hb hby d4_41) k) ?_
        show own_Out p e below _ T2 (mkF m 42 #[.val (.ref o0), .val (.ref oF), .val (.int u2), .val (.ref oV), .val (.int cc)] [(.int (1 : Int32))]) _ _ _
        refine own_retV X2 hx hlk (w := .int (1 : Int32)) hret rfl (Or.inl ⟨rfl, by simp, _, rfl⟩) (hb hby d4_42) (by decide) (by decide) ?_
        rw [e2]
        exact ⟨(by rw [hres, show fk.toInt.toNat - cc.toInt.toNat = 0 by rw [own_lt] at hc9; omega, own_row]), N1, rfl⟩
  exact J3 _ (0 : Int32) s₁ _ (X0.more (by decide) (by decide)) e0 N0 (show 0 ≤ (0 : Int32).toInt ∧ (0 : Int32).toInt ≤ fk.toInt from ⟨by decide, hk.1⟩) rfl (Nat.lt_succ_self _)
theorem own_okb (k x r : Int32) (hk : 0 ≤ k.toInt ∧ k.toInt ≤ 3) (hr : 0 ≤ r.toInt ∧ r.toInt ≤ 1) (hc : 0 ≤ x.toInt ∧ x.toInt ≤ 2) (h : x < k) : 0 ≤ ((r * k) + x).toInt ∧ ((r * k) + x).toInt < 6 := by
  have hm := own_mul r k hr hk
  have ha := own_ad (r * k) x ⟨hm.1, by omega⟩ ⟨hc.1, by omega⟩
  rw [own_lt] at h
  omega
theorem d5_0 : decode method_2_code 0 = .ok (.iload_n 1, 1) := by decide +kernel
theorem d5_1 : decode method_2_code 1 = .ok (.iload_n 0, 1) := by decide +kernel
theorem d5_2 : decode method_2_code 2 = .ok (.if_icmp .lt 5, 3) := by decide +kernel
theorem d5_5 : decode method_2_code 5 = .ok (.iconst 1, 1) := by decide +kernel
theorem d5_6 : decode method_2_code 6 = .ok (.ireturn, 1) := by decide +kernel
theorem d5_7 : decode method_2_code 7 = .ok (.aload_n 3, 1) := by decide +kernel
theorem d5_8 : decode method_2_code 8 = .ok (.iload_n 2, 1) := by decide +kernel
theorem d5_9 : decode method_2_code 9 = .ok (.iload_n 0, 1) := by decide +kernel
theorem d5_10 : decode method_2_code 10 = .ok (.imul, 1) := by decide +kernel
theorem d5_11 : decode method_2_code 11 = .ok (.iload_n 1, 1) := by decide +kernel
theorem d5_12 : decode method_2_code 12 = .ok (.iadd, 1) := by decide +kernel
theorem d5_13 : decode method_2_code 13 = .ok (.baload, 1) := by decide +kernel
theorem d5_14 : decode method_2_code 14 = .ok (.ifCond .ne 10, 3) := by decide +kernel
theorem d5_17 : decode method_2_code 17 = .ok (.aload 4, 2) := by decide +kernel
theorem d5_19 : decode method_2_code 19 = .ok (.iload_n 1, 1) := by decide +kernel
theorem d5_20 : decode method_2_code 20 = .ok (.baload, 1) := by decide +kernel
theorem d5_21 : decode method_2_code 21 = .ok (.ifCond .eq 7, 3) := by decide +kernel
theorem d5_24 : decode method_2_code 24 = .ok (.iconst 1, 1) := by decide +kernel
theorem d5_25 : decode method_2_code 25 = .ok (.goto 4, 3) := by decide +kernel
theorem d5_28 : decode method_2_code 28 = .ok (.iconst 0, 1) := by decide +kernel
theorem d5_29 : decode method_2_code 29 = .ok (.ireturn, 1) := by decide +kernel
theorem pn_2 : plainName "com/example/mat44/mat44/LayoutIsRowTruePinLaw" = true := by first | (simp [plainName, overriddenIn]; done) | decide +kernel
theorem ef_5 (m : MethodId) (u0 : Int32) (u1 : Int32) (u2 : Int32) (oF : Addr) (oV : Addr) : entryFrame m #[(.int u0), (.int u1), (.int u2), (.ref oF), (.ref oV)] 5 = mkF m 0 #[.val (.int u0), .val (.int u1), .val (.int u2), .val (.ref oF), .val (.ref oV)] [] := by first | (simp [entryFrame, mkF, argsToLocals, Value.category]; done) | rfl
def R5 (u0 : Int32) (u1 : Int32) (u2 : Int32) (oF : Addr) (oV : Addr) (ff : Nat → Int32) (fv : Nat → Int32) : Int32 := (if u1 < u0 then (if (ff (((u2 * u0) + u1)).toNatClampNeg) = (0 : Int32) then (if (fv (u1).toNatClampNeg) = (0 : Int32) then (0 : Int32) else (1 : Int32)) else (1 : Int32)) else (1 : Int32))
def Q5 (Z : State) (u0 : Int32) (u1 : Int32) (u2 : Int32) (oF : Addr) (oV : Addr) (ff : Nat → Int32) (fv : Nat → Int32) (h0 : Heap) (n0 : Nat) (v : Option Value) (h : Heap) (L : List Loc) : Prop := v = some (.int (R5 u0 u1 u2 oF oV ff fv)) ∧ Fr n0 L ∧ h = h0
set_option maxRecDepth 65536 in
set_option maxHeartbeats 40000000 in
theorem rm5 (l : Launch) (Z : State) (a0 : Array Value) (hw : ∀ d ∈ tables_1, d.before a0 Z = true) (u0 : Int32) (u1 : Int32) (u2 : Int32) (oF : Addr) (oV : Addr) (ff : Nat → Int32) (fv : Nat → Int32) (h0 : Heap) (n0 : Nat) (Z0 : n0 ≤ h0.size) (A_oF : own_A Z h0 oF .boolean 6 ff) (A_oV : own_A Z h0 oV .boolean 3 fv) (hk : 0 ≤ u0.toInt ∧ u0.toInt ≤ 3) (hr : 0 ≤ u2.toInt ∧ u2.toInt ≤ 1) (hc : 0 ≤ u1.toInt ∧ u1.toInt ≤ 2) :
    own_C l Z (⟨"com/example/mat44/mat44/LayoutIsRowTruePinLaw", "ok", "(III[Z[Z)Z"⟩ : MethodName) method_2_code 5 (some .boolean) ({ frames := 0, cells := 0, slots := 0, locals := 0 } : Room) #[(.int u0), (.int u1), (.int u2), (.ref oF), (.ref oV)] h0 (Q5 Z u0 u1 u2 oF oV ff fv h0 n0) := by
  refine own_met (plainFor_of_name pn_2) ?_
  intro p e s m below meth c s₁ hx hby hml hret hlk hown hnm hZ X0 e0
  refine own_cast (ef_5 m u0 u1 u2 oF oV) ?_
  have N0 := Fr.nil n0
  show own_Out p e below _ s₁ (mkF m 0 #[.val (.int u0), .val (.int u1), .val (.int u2), .val (.ref oF), .val (.ref oV)] []) _ _ _
  refine own_to (fun t k => XS.iloadN X0.here hx rfl (hb hby d5_0) rfl k) ?_
  show own_Out p e below _ s₁ (mkF m 1 #[.val (.int u0), .val (.int u1), .val (.int u2), .val (.ref oF), .val (.ref oV)] [(.int u1)]) _ _ _
  refine own_to (fun t k => XS.iloadN X0.here hx rfl (hb hby d5_1) rfl k) ?_
  show own_Out p e below _ s₁ (mkF m 2 #[.val (.int u0), .val (.int u1), .val (.int u2), .val (.ref oF), .val (.ref oV)] [(.int u0), (.int u1)]) _ _ _
  by_cases hc2 : u1 < u0
  · refine own_to (fun t k => XS.icmpYes X0.here hx rfl (pc0 := 2) (pc' := 7) rfl (hb hby d5_2) rfl (tlt hc2).1 (by decide) (by decide) k) ?_
    show own_Out p e below _ s₁ (mkF m 7 #[.val (.int u0), .val (.int u1), .val (.int u2), .val (.ref oF), .val (.ref oV)] []) _ _ _
    refine own_to (fun t k => XS.aloadN X0.here hx rfl (hb hby d5_7) rfl rfl k) ?_
    show own_Out p e below _ s₁ (mkF m 8 #[.val (.int u0), .val (.int u1), .val (.int u2), .val (.ref oF), .val (.ref oV)] [(.ref oF)]) _ _ _
    refine own_to (fun t k => XS.iloadN X0.here hx rfl (hb hby d5_8) rfl k) ?_
    show own_Out p e below _ s₁ (mkF m 9 #[.val (.int u0), .val (.int u1), .val (.int u2), .val (.ref oF), .val (.ref oV)] [(.int u2), (.ref oF)]) _ _ _
    refine own_to (fun t k => XS.iloadN X0.here hx rfl (hb hby d5_9) rfl k) ?_
    show own_Out p e below _ s₁ (mkF m 10 #[.val (.int u0), .val (.int u1), .val (.int u2), .val (.ref oF), .val (.ref oV)] [(.int u0), (.int u2), (.ref oF)]) _ _ _
    refine own_to (fun t k => XS.imul X0.here hx rfl (hb hby d5_10) rfl k) ?_
    show own_Out p e below _ s₁ (mkF m 11 #[.val (.int u0), .val (.int u1), .val (.int u2), .val (.ref oF), .val (.ref oV)] [(.int (u2 * u0)), (.ref oF)]) _ _ _
    refine own_to (fun t k => XS.iloadN X0.here hx rfl (hb hby d5_11) rfl k) ?_
    show own_Out p e below _ s₁ (mkF m 12 #[.val (.int u0), .val (.int u1), .val (.int u2), .val (.ref oF), .val (.ref oV)] [(.int u1), (.int (u2 * u0)), (.ref oF)]) _ _ _
    refine own_to (fun t k => XS.iadd X0.here hx rfl (hb hby d5_12) rfl k) ?_
    show own_Out p e below _ s₁ (mkF m 13 #[.val (.int u0), .val (.int u1), .val (.int u2), .val (.ref oF), .val (.ref oV)] [(.int ((u2 * u0) + u1)), (.ref oF)]) _ _ _
    refine own_ldZ X0 hx hZ e0 A_oF (own_ge (own_okb u0 u1 u2 hk hr hc hc2).1) (by rw [own_nn]; have q := (own_okb u0 u1 u2 hk hr hc hc2); omega) rfl rfl (hb hby d5_13) fun w1 hw1 => ?_
    subst hw1
    show own_Out p e below _ s₁ (mkF m 14 #[.val (.int u0), .val (.int u1), .val (.int u2), .val (.ref oF), .val (.ref oV)] [(.int (ff (((u2 * u0) + u1)).toNatClampNeg))]) _ _ _
    by_cases hc14 : (ff (((u2 * u0) + u1)).toNatClampNeg) = (0 : Int32)
    · refine own_to (fun t k => XS.ifNo X0.here hx rfl (hb hby d5_14) rfl ((if0 _ _).trans (teq hc14).2) k) ?_
      show own_Out p e below _ s₁ (mkF m 17 #[.val (.int u0), .val (.int u1), .val (.int u2), .val (.ref oF), .val (.ref oV)] []) _ _ _
      refine own_to (fun t k => XS.aload X0.here hx rfl (hb hby d5_17) rfl rfl k) ?_
      show own_Out p e below _ s₁ (mkF m 19 #[.val (.int u0), .val (.int u1), .val (.int u2), .val (.ref oF), .val (.ref oV)] [(.ref oV)]) _ _ _
      refine own_to (fun t k => XS.iloadN X0.here hx rfl (hb hby d5_19) rfl k) ?_
      show own_Out p e below _ s₁ (mkF m 20 #[.val (.int u0), .val (.int u1), .val (.int u2), .val (.ref oF), .val (.ref oV)] [(.int u1), (.ref oV)]) _ _ _
      refine own_ldZ X0 hx hZ e0 A_oV (own_ge hc.1) (by rw [own_nn]; omega) rfl rfl (hb hby d5_20) fun w2 hw2 => ?_
      subst hw2
      show own_Out p e below _ s₁ (mkF m 21 #[.val (.int u0), .val (.int u1), .val (.int u2), .val (.ref oF), .val (.ref oV)] [(.int (fv (u1).toNatClampNeg))]) _ _ _
      by_cases hc21 : (fv (u1).toNatClampNeg) = (0 : Int32)
      · refine own_to (fun t k => XS.ifYes X0.here hx rfl (pc0 := 21) (pc' := 28) rfl (hb hby d5_21) rfl ((if0 _ _).trans (teq hc21).1) (by decide) (by decide) k) ?_
        show own_Out p e below _ s₁ (mkF m 28 #[.val (.int u0), .val (.int u1), .val (.int u2), .val (.ref oF), .val (.ref oV)] []) _ _ _
        refine own_to (fun t k => XS.iconst X0.here hx rfl (hb hby d5_28) k) ?_
        show own_Out p e below _ s₁ (mkF m 29 #[.val (.int u0), .val (.int u1), .val (.int u2), .val (.ref oF), .val (.ref oV)] [(.int (0 : Int32))]) _ _ _
        refine own_retV X0 hx hlk (w := .int (0 : Int32)) hret rfl (Or.inl ⟨rfl, by simp, _, rfl⟩) (hb hby d5_29) (by decide) (by decide) ?_
        rw [e0]
        exact ⟨(by unfold R5; rw [if_pos hc2, if_pos hc14, if_pos hc21]), N0, rfl⟩
      · refine own_to (fun t k => XS.ifNo X0.here hx rfl (hb hby d5_21) rfl ((if0 _ _).trans (feq hc21).1) k) ?_
        show own_Out p e below _ s₁ (mkF m 24 #[.val (.int u0), .val (.int u1), .val (.int u2), .val (.ref oF), .val (.ref oV)] []) _ _ _
        refine own_to (fun t k => XS.iconst X0.here hx rfl (hb hby d5_24) k) ?_
        show own_Out p e below _ s₁ (mkF m 25 #[.val (.int u0), .val (.int u1), .val (.int u2), .val (.ref oF), .val (.ref oV)] [(.int (1 : Int32))]) _ _ _
        refine own_to (fun t k => XS.goto X0.here hx rfl (pc0 := 25) (pc' := 29) rfl (hb hby d5_25) (by decide) (by decide) k) ?_
        show own_Out p e below _ s₁ (mkF m 29 #[.val (.int u0), .val (.int u1), .val (.int u2), .val (.ref oF), .val (.ref oV)] [(.int (1 : Int32))]) _ _ _
        refine own_retV X0 hx hlk (w := .int (1 : Int32)) hret rfl (Or.inl ⟨rfl, by simp, _, rfl⟩) (hb hby d5_29) (by decide) (by decide) ?_
        rw [e0]
        exact ⟨(by unfold R5; rw [if_pos hc2, if_pos hc14, if_neg hc21]), N0, rfl⟩
    · refine own_to (fun t k => XS.ifYes X0.here hx rfl (pc0 := 14) (pc' := 24) rfl (hb hby d5_14) rfl ((if0 _ _).trans (feq hc14).2) (by decide) (by decide) k) ?_
      show own_Out p e below _ s₁ (mkF m 24 #[.val (.int u0), .val (.int u1), .val (.int u2), .val (.ref oF), .val (.ref oV)] []) _ _ _
      refine own_to (fun t k => XS.iconst X0.here hx rfl (hb hby d5_24) k) ?_
      show own_Out p e below _ s₁ (mkF m 25 #[.val (.int u0), .val (.int u1), .val (.int u2), .val (.ref oF), .val (.ref oV)] [(.int (1 : Int32))]) _ _ _
      refine own_to (fun t k => XS.goto X0.here hx rfl (pc0 := 25) (pc' := 29) rfl (hb hby d5_25) (by decide) (by decide) k) ?_
      show own_Out p e below _ s₁ (mkF m 29 #[.val (.int u0), .val (.int u1), .val (.int u2), .val (.ref oF), .val (.ref oV)] [(.int (1 : Int32))]) _ _ _
      refine own_retV X0 hx hlk (w := .int (1 : Int32)) hret rfl (Or.inl ⟨rfl, by simp, _, rfl⟩) (hb hby d5_29) (by decide) (by decide) ?_
      rw [e0]
      exact ⟨(by unfold R5; rw [if_pos hc2, if_neg hc14]), N0, rfl⟩
  · refine own_to (fun t k => XS.icmpNo X0.here hx rfl (hb hby d5_2) rfl (flt hc2).1 k) ?_
    show own_Out p e below _ s₁ (mkF m 5 #[.val (.int u0), .val (.int u1), .val (.int u2), .val (.ref oF), .val (.ref oV)] []) _ _ _
    refine own_to (fun t k => XS.iconst X0.here hx rfl (hb hby d5_5) k) ?_
    show own_Out p e below _ s₁ (mkF m 6 #[.val (.int u0), .val (.int u1), .val (.int u2), .val (.ref oF), .val (.ref oV)] [(.int (1 : Int32))]) _ _ _
    refine own_retV X0 hx hlk (w := .int (1 : Int32)) hret rfl (Or.inl ⟨rfl, by simp, _, rfl⟩) (hb hby d5_6) (by decide) (by decide) ?_
    rw [e0]
    exact ⟨(by unfold R5; rw [if_neg hc2]), N0, rfl⟩
theorem own_okr (k r x : Int32) (a b : Addr) (ff fv : Nat → Int32) (j : Nat) (hx : x.toInt = j) (hk : 0 ≤ k.toInt ∧ k.toInt ≤ 3) (hr : 0 ≤ r.toInt ∧ r.toInt ≤ 1) (hj : j ≤ 2) : (k.toInt ≤ j → R5 k x r a b ff fv = 1) ∧ (j < k.toInt → R5 k x r a b ff fv = if ff ((r * k).toNatClampNeg + j) = 0 then (if fv j = 0 then 0 else 1) else 1) := by
  have hm := own_mul r k hr hk
  have ha := own_ad (r * k) x ⟨hm.1, by omega⟩ ⟨by omega, by omega⟩
  have e1 : ((r * k) + x).toNatClampNeg = (r * k).toNatClampNeg + j := by rw [own_nn, own_nn]; omega
  have e2 : x.toNatClampNeg = j := by rw [own_nn]; omega
  refine ⟨fun h => ?_, fun h => ?_⟩
  · unfold R5
    rw [if_neg (by rw [own_lt]; omega)]
  · unfold R5
    rw [if_pos (by rw [own_lt]; omega), e1, e2]
theorem own_fin (k r : Int32) (a b : Addr) (ff fv : Nat → Int32) (hk : 0 ≤ k.toInt ∧ k.toInt ≤ 3) (hr : 0 ≤ r.toInt ∧ r.toInt ≤ 1) :
    own_row ff fv (r * k).toNatClampNeg k.toInt.toNat k.toInt.toNat = if R5 k 0 r a b ff fv = 0 then 0 else if R5 k 1 r a b ff fv = 0 then 0 else if R5 k 2 r a b ff fv = 0 then 0 else 1 := by
  have q0 := own_okr k r 0 a b ff fv 0 (by decide) hk hr (by omega)
  have q1 := own_okr k r 1 a b ff fv 1 (by decide) hk hr (by omega)
  have q2 := own_okr k r 2 a b ff fv 2 (by decide) hk hr (by omega)
  have w : k.toInt = 0 ∨ k.toInt = 1 ∨ k.toInt = 2 ∨ k.toInt = 3 := by omega
  generalize (r * k).toNatClampNeg = pn at *
  rcases w with w | w | w | w
  · rw [q0.1 (by omega), q1.1 (by omega), q2.1 (by omega), w]
    simp [own_row]
  · rw [q0.2 (by omega), q1.1 (by omega), q2.1 (by omega), w]
    simp only [show (1 : Int).toNat = 1 from rfl, own_row, Nat.sub_self]
    (repeat' split) <;> simp_all
  · rw [q0.2 (by omega), q1.2 (by omega), q2.1 (by omega), w]
    simp only [show (2 : Int).toNat = 2 from rfl, own_row, show 2 - (0 + 1) = 1 from rfl, show 2 - (1 + 1) = 0 from rfl]
    (repeat' split) <;> simp_all
  · rw [q0.2 (by omega), q1.2 (by omega), q2.2 (by omega), w]
    simp only [show (3 : Int).toNat = 3 from rfl, own_row, show 3 - (0 + 1) = 2 from rfl, show 3 - (1 + 1) = 1 from rfl, show 3 - (2 + 1) = 0 from rfl]
    (repeat' split) <;> simp_all
theorem own_k3 (x : Int32) : 0 ≤ (x &&& (3 : Int32)).toInt ∧ (x &&& (3 : Int32)).toInt ≤ 3 := by
  have h := c_mask x 3 2 (by decide) (by decide)
  omega
theorem own_r1 (x : Int32) : 0 ≤ (x &&& (1 : Int32)).toInt ∧ (x &&& (1 : Int32)).toInt ≤ 1 := by
  have h := c_mask x 1 1 (by decide) (by decide)
  omega
theorem ef_0 (m : MethodId) (x0 : Int32) (x1 : Int32) (x2 : Int32) (x3 : Int32) : entryFrame m #[(.int x0), (.int x1), (.int x2), (.int x3)] maxLocals = mkF m 0 #[.val (.int x0), .val (.int x1), .val (.int x2), .val (.int x3), .unset, .unset, .unset, .unset, .unset, .unset, .unset] [] := by first | (simp [entryFrame, mkF, argsToLocals, Value.category, maxLocals]; done) | rfl
def Q0 (Z : State) (x0 : Int32) (x1 : Int32) (x2 : Int32) (x3 : Int32) (h0 : Heap) (n0 : Nat) (v : Option Value) (h : Heap) (L : List Loc) : Prop := v = some (.int (1 : Int32)) ∧ Fr n0 L
theorem pd_1 : parseMethodDescriptor "(Ljava/lang/String;IIIIIII)V" = some ⟨[(.object "java/lang/String"), .int, .int, .int, .int, .int, .int, .int], none⟩ := by decide +kernel
theorem pd_2 : parseMethodDescriptor "([ZI[Z)Z" = some ⟨[(.array .boolean), .int, (.array .boolean)], some .boolean⟩ := by decide +kernel
theorem pd_3 : parseMethodDescriptor "(III[Z[Z)Z" = some ⟨[.int, .int, .int, (.array .boolean), (.array .boolean)], some .boolean⟩ := by decide +kernel
set_option maxRecDepth 65536 in
set_option maxHeartbeats 40000000 in
theorem rm0 (l : Launch) (Z : State) (a0 : Array Value) (hw : ∀ d ∈ tables_1, d.before a0 Z = true) (x0 : Int32) (x1 : Int32) (x2 : Int32) (x3 : Int32) (h0 : Heap) (n0 : Nat) (Z0 : n0 ≤ h0.size) :
    own_CW l Z x code maxLocals ret room_1 #[(.int x0), (.int x1), (.int x2), (.int x3)] h0 (Q0 Z x0 x1 x2 x3 h0 n0) := by
  refine own_metW (plainFor_of_name pn_2) ?_
  intro p e s m below meth c s₁ hx hby hml hret hlk hown hnm hZ X0 e0 hS hk
  refine own_cast (ef_0 m x0 x1 x2 x3) ?_
  have N0 := Fr.nil n0
  show own_Out p e below _ s₁ (mkF m 0 #[.val (.int x0), .val (.int x1), .val (.int x2), .val (.int x3), .unset, .unset, .unset, .unset, .unset, .unset, .unset] []) _ _ _
  refine own_to (fun t k => XS.iloadN X0.here hx rfl (hb hby at_0) rfl k) ?_
  show own_Out p e below _ s₁ (mkF m 1 #[.val (.int x0), .val (.int x1), .val (.int x2), .val (.int x3), .unset, .unset, .unset, .unset, .unset, .unset, .unset] [(.int x3)]) _ _ _
  refine own_to (fun t k => XS.iconst X0.here hx rfl (hb hby at_1) k) ?_
  show own_Out p e below _ s₁ (mkF m 2 #[.val (.int x0), .val (.int x1), .val (.int x2), .val (.int x3), .unset, .unset, .unset, .unset, .unset, .unset, .unset] [(.int (3 : Int32)), (.int x3)]) _ _ _
  refine own_to (fun t k => XS.iand X0.here hx rfl (hb hby at_2) rfl k) ?_
  show own_Out p e below _ s₁ (mkF m 3 #[.val (.int x0), .val (.int x1), .val (.int x2), .val (.int x3), .unset, .unset, .unset, .unset, .unset, .unset, .unset] [(.int (x3 &&& (3 : Int32)))]) _ _ _
  refine own_to (fun t k => XS.istore X0.here hx rfl (hb hby at_3) rfl (l' := #[.val (.int x0), .val (.int x1), .val (.int x2), .val (.int x3), .val (.int (x3 &&& (3 : Int32))), .unset, .unset, .unset, .unset, .unset, .unset]) rfl k) ?_
  show own_Out p e below _ s₁ (mkF m 5 #[.val (.int x0), .val (.int x1), .val (.int x2), .val (.int x3), .val (.int (x3 &&& (3 : Int32))), .unset, .unset, .unset, .unset, .unset, .unset] []) _ _ _
  generalize hv_kk : (x3 &&& (3 : Int32)) = kk
  show own_Out p e below _ s₁ (mkF m 5 #[.val (.int x0), .val (.int x1), .val (.int x2), .val (.int x3), .val (.int kk), .unset, .unset, .unset, .unset, .unset, .unset] []) _ _ _
  have bk := own_k3 x3
  rw [hv_kk] at bk
  refine own_to (fun t k => XS.iloadN X0.here hx rfl (hb hby at_5) rfl k) ?_
  show own_Out p e below _ s₁ (mkF m 6 #[.val (.int x0), .val (.int x1), .val (.int x2), .val (.int x3), .val (.int kk), .unset, .unset, .unset, .unset, .unset, .unset] [(.int x2)]) _ _ _
  refine own_to (fun t k => XS.iconst X0.here hx rfl (hb hby at_6) k) ?_
  show own_Out p e below _ s₁ (mkF m 7 #[.val (.int x0), .val (.int x1), .val (.int x2), .val (.int x3), .val (.int kk), .unset, .unset, .unset, .unset, .unset, .unset] [(.int (1 : Int32)), (.int x2)]) _ _ _
  refine own_to (fun t k => XS.iand X0.here hx rfl (hb hby at_7) rfl k) ?_
  show own_Out p e below _ s₁ (mkF m 8 #[.val (.int x0), .val (.int x1), .val (.int x2), .val (.int x3), .val (.int kk), .unset, .unset, .unset, .unset, .unset, .unset] [(.int (x2 &&& (1 : Int32)))]) _ _ _
  refine own_to (fun t k => XS.istore X0.here hx rfl (hb hby at_8) rfl (l' := #[.val (.int x0), .val (.int x1), .val (.int x2), .val (.int x3), .val (.int kk), .val (.int (x2 &&& (1 : Int32))), .unset, .unset, .unset, .unset, .unset]) rfl k) ?_
  show own_Out p e below _ s₁ (mkF m 10 #[.val (.int x0), .val (.int x1), .val (.int x2), .val (.int x3), .val (.int kk), .val (.int (x2 &&& (1 : Int32))), .unset, .unset, .unset, .unset, .unset] []) _ _ _
  generalize hv_rr : (x2 &&& (1 : Int32)) = rr
  show own_Out p e below _ s₁ (mkF m 10 #[.val (.int x0), .val (.int x1), .val (.int x2), .val (.int x3), .val (.int kk), .val (.int rr), .unset, .unset, .unset, .unset, .unset] []) _ _ _
  have br := own_r1 x2
  rw [hv_rr] at br
  refine own_new X0 hx hZ hown (hw _ (List.mem_of_getElem? (i := 0) rfl)) (hw _ (List.mem_of_getElem? (i := 1) rfl)) (hw _ (List.mem_of_getElem? (i := 2) rfl)) e0 rfl (hb hby at_10) (by decide) (by decide) fun T1 hh1 ob1 gb1 X1 e1 E1 A1 D1 => ?_
  have g_ob1 : n0 ≤ ob1 := Nat.le_trans Z0 (Nat.le_of_eq gb1.symm)
  have Z0 := Nat.le_trans Z0 E1.1
  have hk := Nat.le_trans hk E1.1
  have E_ob1 := A1
  have F_ob1_name : Fld Z hh1 ob1 "com/example/mat44/mat44/Layout" "name" "Ljava/lang/String;" .null := D1 (Or.inr (hw _ (List.mem_of_getElem? (i := 23) rfl))) (ty := (.object "java/lang/String")) (by decide)
  have F_ob1_pinCount : Fld Z hh1 ob1 "com/example/mat44/mat44/Layout" "pinCount" "I" (.int (0 : Int32)) := D1 (Or.inr (hw _ (List.mem_of_getElem? (i := 25) rfl))) (ty := .int) (by decide)
  have F_ob1_groundPin : Fld Z hh1 ob1 "com/example/mat44/mat44/Layout" "groundPin" "I" (.int (0 : Int32)) := D1 (Or.inr (hw _ (List.mem_of_getElem? (i := 27) rfl))) (ty := .int) (by decide)
  have F_ob1_supplyPin : Fld Z hh1 ob1 "com/example/mat44/mat44/Layout" "supplyPin" "I" (.int (0 : Int32)) := D1 (Or.inr (hw _ (List.mem_of_getElem? (i := 29) rfl))) (ty := .int) (by decide)
  have F_ob1_firstCellPin : Fld Z hh1 ob1 "com/example/mat44/mat44/Layout" "firstCellPin" "I" (.int (0 : Int32)) := D1 (Or.inr (hw _ (List.mem_of_getElem? (i := 31) rfl))) (ty := .int) (by decide)
  have F_ob1_lastCellPin : Fld Z hh1 ob1 "com/example/mat44/mat44/Layout" "lastCellPin" "I" (.int (0 : Int32)) := D1 (Or.inr (hw _ (List.mem_of_getElem? (i := 33) rfl))) (ty := .int) (by decide)
  have F_ob1_fuseCount : Fld Z hh1 ob1 "com/example/mat44/mat44/Layout" "fuseCount" "I" (.int (0 : Int32)) := D1 (Or.inr (hw _ (List.mem_of_getElem? (i := 35) rfl))) (ty := .int) (by decide)
  have F_ob1_columns : Fld Z hh1 ob1 "com/example/mat44/mat44/Layout" "columns" "I" (.int (0 : Int32)) := D1 (Or.inr (hw _ (List.mem_of_getElem? (i := 37) rfl))) (ty := .int) (by decide)
  show own_Out p e below _ T1 (mkF m 13 #[.val (.int x0), .val (.int x1), .val (.int x2), .val (.int x3), .val (.int kk), .val (.int rr), .unset, .unset, .unset, .unset, .unset] [(.ref ob1)]) _ _ _
  refine own_to (fun t k => XS.dup X1.here hx rfl (hb hby at_13) rfl rfl k) ?_
  show own_Out p e below _ T1 (mkF m 14 #[.val (.int x0), .val (.int x1), .val (.int x2), .val (.int x3), .val (.int kk), .val (.int rr), .unset, .unset, .unset, .unset, .unset] [(.ref ob1), (.ref ob1)]) _ _ _
  refine own_ldcS X1 hx hZ hown hS hk (hw _ (List.mem_of_getElem? (i := 3) rfl)) (fun a ha => hw a (own_atoms a ha)) e1 rfl (hb hby at_14) (n := 4) (by decide) (by decide) (by decide) (by decide) fun a2 T2 hh2 k2 X2 e2 E2 hZ hown hS hk => ?_
  have E_ob1 := E_ob1.ext E2
  have F_ob1_name := F_ob1_name.ext E2
  have F_ob1_pinCount := F_ob1_pinCount.ext E2
  have F_ob1_groundPin := F_ob1_groundPin.ext E2
  have F_ob1_supplyPin := F_ob1_supplyPin.ext E2
  have F_ob1_firstCellPin := F_ob1_firstCellPin.ext E2
  have F_ob1_lastCellPin := F_ob1_lastCellPin.ext E2
  have F_ob1_fuseCount := F_ob1_fuseCount.ext E2
  have F_ob1_columns := F_ob1_columns.ext E2
  have Z0 := Nat.le_trans Z0 E2.1
  show own_Out p e below _ T2 (mkF m 16 #[.val (.int x0), .val (.int x1), .val (.int x2), .val (.int x3), .val (.int kk), .val (.int rr), .unset, .unset, .unset, .unset, .unset] [(.ref a2), (.ref ob1), (.ref ob1)]) _ _ _
  refine own_to (fun t k => XS.bipush X2.here hx rfl (hb hby at_16) k) ?_
  show own_Out p e below _ T2 (mkF m 18 #[.val (.int x0), .val (.int x1), .val (.int x2), .val (.int x3), .val (.int kk), .val (.int rr), .unset, .unset, .unset, .unset, .unset] [(.int (20 : Int32)), (.ref a2), (.ref ob1), (.ref ob1)]) _ _ _
  refine own_to (fun t k => XS.bipush X2.here hx rfl (hb hby at_18) k) ?_
  show own_Out p e below _ T2 (mkF m 20 #[.val (.int x0), .val (.int x1), .val (.int x2), .val (.int x3), .val (.int kk), .val (.int rr), .unset, .unset, .unset, .unset, .unset] [(.int (10 : Int32)), (.int (20 : Int32)), (.ref a2), (.ref ob1), (.ref ob1)]) _ _ _
  refine own_to (fun t k => XS.bipush X2.here hx rfl (hb hby at_20) k) ?_
  show own_Out p e below _ T2 (mkF m 22 #[.val (.int x0), .val (.int x1), .val (.int x2), .val (.int x3), .val (.int kk), .val (.int rr), .unset, .unset, .unset, .unset, .unset] [(.int (20 : Int32)), (.int (10 : Int32)), (.int (20 : Int32)), (.ref a2), (.ref ob1), (.ref ob1)]) _ _ _
  refine own_to (fun t k => XS.bipush X2.here hx rfl (hb hby at_22) k) ?_
  show own_Out p e below _ T2 (mkF m 24 #[.val (.int x0), .val (.int x1), .val (.int x2), .val (.int x3), .val (.int kk), .val (.int rr), .unset, .unset, .unset, .unset, .unset] [(.int (12 : Int32)), (.int (20 : Int32)), (.int (10 : Int32)), (.int (20 : Int32)), (.ref a2), (.ref ob1), (.ref ob1)]) _ _ _
  refine own_to (fun t k => XS.bipush X2.here hx rfl (hb hby at_24) k) ?_
  show own_Out p e below _ T2 (mkF m 26 #[.val (.int x0), .val (.int x1), .val (.int x2), .val (.int x3), .val (.int kk), .val (.int rr), .unset, .unset, .unset, .unset, .unset] [(.int (19 : Int32)), (.int (12 : Int32)), (.int (20 : Int32)), (.int (10 : Int32)), (.int (20 : Int32)), (.ref a2), (.ref ob1), (.ref ob1)]) _ _ _
  refine own_to (fun t k => XS.bipush X2.here hx rfl (hb hby at_26) k) ?_
  show own_Out p e below _ T2 (mkF m 28 #[.val (.int x0), .val (.int x1), .val (.int x2), .val (.int x3), .val (.int kk), .val (.int rr), .unset, .unset, .unset, .unset, .unset] [(.int (6 : Int32)), (.int (19 : Int32)), (.int (12 : Int32)), (.int (20 : Int32)), (.int (10 : Int32)), (.int (20 : Int32)), (.ref a2), (.ref ob1), (.ref ob1)]) _ _ _
  refine own_to (fun t k => XS.iload X2.here hx rfl (hb hby at_28) rfl k) ?_
  show own_Out p e below _ T2 (mkF m 30 #[.val (.int x0), .val (.int x1), .val (.int x2), .val (.int x3), .val (.int kk), .val (.int rr), .unset, .unset, .unset, .unset, .unset] [(.int kk), (.int (6 : Int32)), (.int (19 : Int32)), (.int (12 : Int32)), (.int (20 : Int32)), (.int (10 : Int32)), (.int (20 : Int32)), (.ref a2), (.ref ob1), (.ref ob1)]) _ _ _
  refine own_callC X2 hx hZ hown (a := ob1) (argsL := [(.ref a2), (.int (20 : Int32)), (.int (10 : Int32)), (.int (20 : Int32)), (.int (12 : Int32)), (.int (19 : Int32)), (.int (6 : Int32)), (.int kk)]) (rest := [(.ref ob1)]) rfl (hw _ (List.mem_of_getElem? (i := 11) rfl)) (hw _ (List.mem_of_getElem? (i := 12) rfl)) (hw _ (List.mem_of_getElem? (i := 2) rfl)) (hw _ (List.mem_of_getElem? (i := 13) rfl)) (by decide) (rm1 l Z a0 hw ob1 a2 (20 : Int32) (10 : Int32) (20 : Int32) (12 : Int32) (19 : Int32) (6 : Int32) kk hh2 n0 Z0 E_ob1 F_ob1_name F_ob1_pinCount F_ob1_groundPin F_ob1_supplyPin F_ob1_firstCellPin F_ob1_lastCellPin F_ob1_fuseCount F_ob1_columns g_ob1) (by decide) (by decide) e2 rfl (by rw [hml]; rfl) (lenOf pd_1 rfl) rfl (W := 1) (by show 2 * 0 + _ ≤ _; exact Nat.le_of_eq rfl) (hb hby at_30) (by decide) (by decide) fun v3 T3 hh3 L3 X3 e3 hQ3 => ?_
  obtain ⟨rfl, NL3, KK3, P3_0⟩ := hQ3
  have E_ob1 := E_ob1.keep KK3
  have F_ob1_columns := P3_0
  have Z0 := Nat.le_trans Z0 KK3.1
  have hk := Nat.le_trans hk KK3.1
  have N3 := Fr.app N0 NL3
  show own_Out p e below _ T3 (mkF m 33 #[.val (.int x0), .val (.int x1), .val (.int x2), .val (.int x3), .val (.int kk), .val (.int rr), .unset, .unset, .unset, .unset, .unset] [(.ref ob1)]) _ _ _
  refine own_to (fun t k => XS.astore X3.here hx rfl (hb hby at_33) rfl rfl (l' := #[.val (.int x0), .val (.int x1), .val (.int x2), .val (.int x3), .val (.int kk), .val (.int rr), .val (.ref ob1), .unset, .unset, .unset, .unset]) rfl k) ?_
  show own_Out p e below _ T3 (mkF m 35 #[.val (.int x0), .val (.int x1), .val (.int x2), .val (.int x3), .val (.int kk), .val (.int rr), .val (.ref ob1), .unset, .unset, .unset, .unset] []) _ _ _
  refine own_to (fun t k => XS.bipush X3.here hx rfl (hb hby at_35) k) ?_
  show own_Out p e below _ T3 (mkF m 37 #[.val (.int x0), .val (.int x1), .val (.int x2), .val (.int x3), .val (.int kk), .val (.int rr), .val (.ref ob1), .unset, .unset, .unset, .unset] [(.int (6 : Int32))]) _ _ _
  refine own_newA X3 hx hZ (hw _ (List.mem_of_getElem? (i := 38) rfl)) rfl e3 rfl (hb hby at_37) rfl (by decide) (cap := 6) (by decide) (by decide) (by decide) (by decide) fun T4 hh4 ob4 gb4 X4 e4 E4 A4 => ?_
  have ne_ob1_ob4 : ob1 ≠ ob4 := Nat.ne_of_lt (Nat.lt_of_lt_of_le E_ob1.lt (Nat.le_of_eq gb4.symm))
  have ne_ob4_ob1 := Ne.symm ne_ob1_ob4
  have g_ob4 : n0 ≤ ob4 := Nat.le_trans Z0 (Nat.le_of_eq gb4.symm)
  have E_ob1 := E_ob1.ext E4
  have F_ob1_columns := F_ob1_columns.ext E4
  have Z0 := Nat.le_trans Z0 E4.1
  have hk := Nat.le_trans hk E4.1
  have A_ob4 : own_A Z hh4 ob4 .boolean 6 (fun _ => 0) := A4
  show own_Out p e below _ T4 (mkF m 39 #[.val (.int x0), .val (.int x1), .val (.int x2), .val (.int x3), .val (.int kk), .val (.int rr), .val (.ref ob1), .unset, .unset, .unset, .unset] [(.ref ob4)]) _ _ _
  refine own_to (fun t k => XS.astore X4.here hx rfl (hb hby at_39) rfl rfl (l' := #[.val (.int x0), .val (.int x1), .val (.int x2), .val (.int x3), .val (.int kk), .val (.int rr), .val (.ref ob1), .val (.ref ob4), .unset, .unset, .unset]) rfl k) ?_
  show own_Out p e below _ T4 (mkF m 41 #[.val (.int x0), .val (.int x1), .val (.int x2), .val (.int x3), .val (.int kk), .val (.int rr), .val (.ref ob1), .val (.ref ob4), .unset, .unset, .unset] []) _ _ _
  refine own_to (fun t k => XS.aload X4.here hx rfl (hb hby at_41) rfl rfl k) ?_
  show own_Out p e below _ T4 (mkF m 43 #[.val (.int x0), .val (.int x1), .val (.int x2), .val (.int x3), .val (.int kk), .val (.int rr), .val (.ref ob1), .val (.ref ob4), .unset, .unset, .unset] [(.ref ob4)]) _ _ _
  refine own_to (fun t k => XS.iconst X4.here hx rfl (hb hby at_43) k) ?_
  show own_Out p e below _ T4 (mkF m 44 #[.val (.int x0), .val (.int x1), .val (.int x2), .val (.int x3), .val (.int kk), .val (.int rr), .val (.ref ob1), .val (.ref ob4), .unset, .unset, .unset] [(.int (0 : Int32)), (.ref ob4)]) _ _ _
  refine own_to (fun t k => XS.iloadN X4.here hx rfl (hb hby at_44) rfl k) ?_
  show own_Out p e below _ T4 (mkF m 45 #[.val (.int x0), .val (.int x1), .val (.int x2), .val (.int x3), .val (.int kk), .val (.int rr), .val (.ref ob1), .val (.ref ob4), .unset, .unset, .unset] [(.int x0), (.int (0 : Int32)), (.ref ob4)]) _ _ _
  refine own_to (fun t k => XS.iconst X4.here hx rfl (hb hby at_45) k) ?_
  show own_Out p e below _ T4 (mkF m 46 #[.val (.int x0), .val (.int x1), .val (.int x2), .val (.int x3), .val (.int kk), .val (.int rr), .val (.ref ob1), .val (.ref ob4), .unset, .unset, .unset] [(.int (1 : Int32)), (.int x0), (.int (0 : Int32)), (.ref ob4)]) _ _ _
  refine own_to (fun t k => XS.iand X4.here hx rfl (hb hby at_46) rfl k) ?_
  show own_Out p e below _ T4 (mkF m 47 #[.val (.int x0), .val (.int x1), .val (.int x2), .val (.int x3), .val (.int kk), .val (.int rr), .val (.ref ob1), .val (.ref ob4), .unset, .unset, .unset] [(.int (x0 &&& (1 : Int32))), (.int (0 : Int32)), (.ref ob4)]) _ _ _
  have J55 : ∀ (v55 : Int32), own_Out p e below (ReturnedEndW s) T4 (mkF m 55 #[.val (.int x0), .val (.int x1), .val (.int x2), .val (.int x3), .val (.int kk), .val (.int rr), .val (.ref ob1), .val (.ref ob4), .unset, .unset, .unset] [(.int v55), (.int (0 : Int32)), (.ref ob4)]) (Q0 Z x0 x1 x2 x3 h0 n0) room_1.cells room_1.slots := by
    intro v55
    show own_Out p e below _ T4 (mkF m 55 #[.val (.int x0), .val (.int x1), .val (.int x2), .val (.int x3), .val (.int kk), .val (.int rr), .val (.ref ob1), .val (.ref ob4), .unset, .unset, .unset] [(.int v55), (.int (0 : Int32)), (.ref ob4)]) _ _ _
    refine own_stZ X4 hx hZ e4 A_ob4 (by decide) (by decide) rfl rfl (hb hby at_55) fun T5 hh5 X5 e5 W5 A5 => ?_
    have E_ob1 := E_ob1.wr W5
    have F_ob1_columns := F_ob1_columns.other W5 (Or.inl ne_ob1_ob4)
    have A_ob4 := A5
    have Z0 := Nat.le_trans Z0 (Nat.le_of_eq W5.size.symm)
    have hk := Nat.le_trans hk (Nat.le_of_eq W5.size.symm)
    have N5 := own_fs (sl := Int32.toNatClampNeg (0 : Int32)) N3 g_ob4
    show own_Out p e below _ T5 (mkF m 56 #[.val (.int x0), .val (.int x1), .val (.int x2), .val (.int x3), .val (.int kk), .val (.int rr), .val (.ref ob1), .val (.ref ob4), .unset, .unset, .unset] []) _ _ _
    refine own_to (fun t k => XS.aload X5.here hx rfl (hb hby at_56) rfl rfl k) ?_
    show own_Out p e below _ T5 (mkF m 58 #[.val (.int x0), .val (.int x1), .val (.int x2), .val (.int x3), .val (.int kk), .val (.int rr), .val (.ref ob1), .val (.ref ob4), .unset, .unset, .unset] [(.ref ob4)]) _ _ _
    refine own_to (fun t k => XS.iconst X5.here hx rfl (hb hby at_58) k) ?_
    show own_Out p e below _ T5 (mkF m 59 #[.val (.int x0), .val (.int x1), .val (.int x2), .val (.int x3), .val (.int kk), .val (.int rr), .val (.ref ob1), .val (.ref ob4), .unset, .unset, .unset] [(.int (1 : Int32)), (.ref ob4)]) _ _ _
    refine own_to (fun t k => XS.iloadN X5.here hx rfl (hb hby at_59) rfl k) ?_
    show own_Out p e below _ T5 (mkF m 60 #[.val (.int x0), .val (.int x1), .val (.int x2), .val (.int x3), .val (.int kk), .val (.int rr), .val (.ref ob1), .val (.ref ob4), .unset, .unset, .unset] [(.int x0), (.int (1 : Int32)), (.ref ob4)]) _ _ _
    refine own_to (fun t k => XS.iconst X5.here hx rfl (hb hby at_60) k) ?_
    show own_Out p e below _ T5 (mkF m 61 #[.val (.int x0), .val (.int x1), .val (.int x2), .val (.int x3), .val (.int kk), .val (.int rr), .val (.ref ob1), .val (.ref ob4), .unset, .unset, .unset] [(.int (1 : Int32)), (.int x0), (.int (1 : Int32)), (.ref ob4)]) _ _ _
    refine own_to (fun t k => XS.iushr X5.here hx rfl (hb hby at_61) rfl k) ?_
    show own_Out p e below _ T5 (mkF m 62 #[.val (.int x0), .val (.int x1), .val (.int x2), .val (.int x3), .val (.int kk), .val (.int rr), .val (.ref ob1), .val (.ref ob4), .unset, .unset, .unset] [(.int ((x0.toUInt32 >>> ((1 : Int32) &&& 31).toUInt32).toInt32)), (.int (1 : Int32)), (.ref ob4)]) _ _ _
    refine own_to (fun t k => XS.iconst X5.here hx rfl (hb hby at_62) k) ?_
    show own_Out p e below _ T5 (mkF m 63 #[.val (.int x0), .val (.int x1), .val (.int x2), .val (.int x3), .val (.int kk), .val (.int rr), .val (.ref ob1), .val (.ref ob4), .unset, .unset, .unset] [(.int (1 : Int32)), (.int ((x0.toUInt32 >>> ((1 : Int32) &&& 31).toUInt32).toInt32)), (.int (1 : Int32)), (.ref ob4)]) _ _ _
    refine own_to (fun t k => XS.iand X5.here hx rfl (hb hby at_63) rfl k) ?_
    show own_Out p e below _ T5 (mkF m 64 #[.val (.int x0), .val (.int x1), .val (.int x2), .val (.int x3), .val (.int kk), .val (.int rr), .val (.ref ob1), .val (.ref ob4), .unset, .unset, .unset] [(.int (((x0.toUInt32 >>> ((1 : Int32) &&& 31).toUInt32).toInt32) &&& (1 : Int32))), (.int (1 : Int32)), (.ref ob4)]) _ _ _
    have J72 : ∀ (v72 : Int32), own_Out p e below (ReturnedEndW s) T5 (mkF m 72 #[.val (.int x0), .val (.int x1), .val (.int x2), .val (.int x3), .val (.int kk), .val (.int rr), .val (.ref ob1), .val (.ref ob4), .unset, .unset, .unset] [(.int v72), (.int (1 : Int32)), (.ref ob4)]) (Q0 Z x0 x1 x2 x3 h0 n0) room_1.cells room_1.slots := by
      intro v72
      show own_Out p e below _ T5 (mkF m 72 #[.val (.int x0), .val (.int x1), .val (.int x2), .val (.int x3), .val (.int kk), .val (.int rr), .val (.ref ob1), .val (.ref ob4), .unset, .unset, .unset] [(.int v72), (.int (1 : Int32)), (.ref ob4)]) _ _ _
      refine own_stZ X5 hx hZ e5 A_ob4 (by decide) (by decide) rfl rfl (hb hby at_72) fun T6 hh6 X6 e6 W6 A6 => ?_
      have E_ob1 := E_ob1.wr W6
      have F_ob1_columns := F_ob1_columns.other W6 (Or.inl ne_ob1_ob4)
      have A_ob4 := A6
      have Z0 := Nat.le_trans Z0 (Nat.le_of_eq W6.size.symm)
      have hk := Nat.le_trans hk (Nat.le_of_eq W6.size.symm)
      have N6 := own_fs (sl := Int32.toNatClampNeg (1 : Int32)) N5 g_ob4
      show own_Out p e below _ T6 (mkF m 73 #[.val (.int x0), .val (.int x1), .val (.int x2), .val (.int x3), .val (.int kk), .val (.int rr), .val (.ref ob1), .val (.ref ob4), .unset, .unset, .unset] []) _ _ _
      refine own_to (fun t k => XS.aload X6.here hx rfl (hb hby at_73) rfl rfl k) ?_
      show own_Out p e below _ T6 (mkF m 75 #[.val (.int x0), .val (.int x1), .val (.int x2), .val (.int x3), .val (.int kk), .val (.int rr), .val (.ref ob1), .val (.ref ob4), .unset, .unset, .unset] [(.ref ob4)]) _ _ _
      refine own_to (fun t k => XS.iconst X6.here hx rfl (hb hby at_75) k) ?_
      show own_Out p e below _ T6 (mkF m 76 #[.val (.int x0), .val (.int x1), .val (.int x2), .val (.int x3), .val (.int kk), .val (.int rr), .val (.ref ob1), .val (.ref ob4), .unset, .unset, .unset] [(.int (2 : Int32)), (.ref ob4)]) _ _ _
      refine own_to (fun t k => XS.iloadN X6.here hx rfl (hb hby at_76) rfl k) ?_
      show own_Out p e below _ T6 (mkF m 77 #[.val (.int x0), .val (.int x1), .val (.int x2), .val (.int x3), .val (.int kk), .val (.int rr), .val (.ref ob1), .val (.ref ob4), .unset, .unset, .unset] [(.int x0), (.int (2 : Int32)), (.ref ob4)]) _ _ _
      refine own_to (fun t k => XS.iconst X6.here hx rfl (hb hby at_77) k) ?_
      show own_Out p e below _ T6 (mkF m 78 #[.val (.int x0), .val (.int x1), .val (.int x2), .val (.int x3), .val (.int kk), .val (.int rr), .val (.ref ob1), .val (.ref ob4), .unset, .unset, .unset] [(.int (2 : Int32)), (.int x0), (.int (2 : Int32)), (.ref ob4)]) _ _ _
      refine own_to (fun t k => XS.iushr X6.here hx rfl (hb hby at_78) rfl k) ?_
      show own_Out p e below _ T6 (mkF m 79 #[.val (.int x0), .val (.int x1), .val (.int x2), .val (.int x3), .val (.int kk), .val (.int rr), .val (.ref ob1), .val (.ref ob4), .unset, .unset, .unset] [(.int ((x0.toUInt32 >>> ((2 : Int32) &&& 31).toUInt32).toInt32)), (.int (2 : Int32)), (.ref ob4)]) _ _ _
      refine own_to (fun t k => XS.iconst X6.here hx rfl (hb hby at_79) k) ?_
      show own_Out p e below _ T6 (mkF m 80 #[.val (.int x0), .val (.int x1), .val (.int x2), .val (.int x3), .val (.int kk), .val (.int rr), .val (.ref ob1), .val (.ref ob4), .unset, .unset, .unset] [(.int (1 : Int32)), (.int ((x0.toUInt32 >>> ((2 : Int32) &&& 31).toUInt32).toInt32)), (.int (2 : Int32)), (.ref ob4)]) _ _ _
      refine own_to (fun t k => XS.iand X6.here hx rfl (hb hby at_80) rfl k) ?_
      show own_Out p e below _ T6 (mkF m 81 #[.val (.int x0), .val (.int x1), .val (.int x2), .val (.int x3), .val (.int kk), .val (.int rr), .val (.ref ob1), .val (.ref ob4), .unset, .unset, .unset] [(.int (((x0.toUInt32 >>> ((2 : Int32) &&& 31).toUInt32).toInt32) &&& (1 : Int32))), (.int (2 : Int32)), (.ref ob4)]) _ _ _
      have J89 : ∀ (v89 : Int32), own_Out p e below (ReturnedEndW s) T6 (mkF m 89 #[.val (.int x0), .val (.int x1), .val (.int x2), .val (.int x3), .val (.int kk), .val (.int rr), .val (.ref ob1), .val (.ref ob4), .unset, .unset, .unset] [(.int v89), (.int (2 : Int32)), (.ref ob4)]) (Q0 Z x0 x1 x2 x3 h0 n0) room_1.cells room_1.slots := by
        intro v89
        show own_Out p e below _ T6 (mkF m 89 #[.val (.int x0), .val (.int x1), .val (.int x2), .val (.int x3), .val (.int kk), .val (.int rr), .val (.ref ob1), .val (.ref ob4), .unset, .unset, .unset] [(.int v89), (.int (2 : Int32)), (.ref ob4)]) _ _ _
        refine own_stZ X6 hx hZ e6 A_ob4 (by decide) (by decide) rfl rfl (hb hby at_89) fun T7 hh7 X7 e7 W7 A7 => ?_
        have E_ob1 := E_ob1.wr W7
        have F_ob1_columns := F_ob1_columns.other W7 (Or.inl ne_ob1_ob4)
        have A_ob4 := A7
        have Z0 := Nat.le_trans Z0 (Nat.le_of_eq W7.size.symm)
        have hk := Nat.le_trans hk (Nat.le_of_eq W7.size.symm)
        have N7 := own_fs (sl := Int32.toNatClampNeg (2 : Int32)) N6 g_ob4
        show own_Out p e below _ T7 (mkF m 90 #[.val (.int x0), .val (.int x1), .val (.int x2), .val (.int x3), .val (.int kk), .val (.int rr), .val (.ref ob1), .val (.ref ob4), .unset, .unset, .unset] []) _ _ _
        refine own_to (fun t k => XS.aload X7.here hx rfl (hb hby at_90) rfl rfl k) ?_
        show own_Out p e below _ T7 (mkF m 92 #[.val (.int x0), .val (.int x1), .val (.int x2), .val (.int x3), .val (.int kk), .val (.int rr), .val (.ref ob1), .val (.ref ob4), .unset, .unset, .unset] [(.ref ob4)]) _ _ _
        refine own_to (fun t k => XS.iconst X7.here hx rfl (hb hby at_92) k) ?_
        show own_Out p e below _ T7 (mkF m 93 #[.val (.int x0), .val (.int x1), .val (.int x2), .val (.int x3), .val (.int kk), .val (.int rr), .val (.ref ob1), .val (.ref ob4), .unset, .unset, .unset] [(.int (3 : Int32)), (.ref ob4)]) _ _ _
        refine own_to (fun t k => XS.iloadN X7.here hx rfl (hb hby at_93) rfl k) ?_
        show own_Out p e below _ T7 (mkF m 94 #[.val (.int x0), .val (.int x1), .val (.int x2), .val (.int x3), .val (.int kk), .val (.int rr), .val (.ref ob1), .val (.ref ob4), .unset, .unset, .unset] [(.int x0), (.int (3 : Int32)), (.ref ob4)]) _ _ _
        refine own_to (fun t k => XS.iconst X7.here hx rfl (hb hby at_94) k) ?_
        show own_Out p e below _ T7 (mkF m 95 #[.val (.int x0), .val (.int x1), .val (.int x2), .val (.int x3), .val (.int kk), .val (.int rr), .val (.ref ob1), .val (.ref ob4), .unset, .unset, .unset] [(.int (3 : Int32)), (.int x0), (.int (3 : Int32)), (.ref ob4)]) _ _ _
        refine own_to (fun t k => XS.iushr X7.here hx rfl (hb hby at_95) rfl k) ?_
        show own_Out p e below _ T7 (mkF m 96 #[.val (.int x0), .val (.int x1), .val (.int x2), .val (.int x3), .val (.int kk), .val (.int rr), .val (.ref ob1), .val (.ref ob4), .unset, .unset, .unset] [(.int ((x0.toUInt32 >>> ((3 : Int32) &&& 31).toUInt32).toInt32)), (.int (3 : Int32)), (.ref ob4)]) _ _ _
        refine own_to (fun t k => XS.iconst X7.here hx rfl (hb hby at_96) k) ?_
        show own_Out p e below _ T7 (mkF m 97 #[.val (.int x0), .val (.int x1), .val (.int x2), .val (.int x3), .val (.int kk), .val (.int rr), .val (.ref ob1), .val (.ref ob4), .unset, .unset, .unset] [(.int (1 : Int32)), (.int ((x0.toUInt32 >>> ((3 : Int32) &&& 31).toUInt32).toInt32)), (.int (3 : Int32)), (.ref ob4)]) _ _ _
        refine own_to (fun t k => XS.iand X7.here hx rfl (hb hby at_97) rfl k) ?_
        show own_Out p e below _ T7 (mkF m 98 #[.val (.int x0), .val (.int x1), .val (.int x2), .val (.int x3), .val (.int kk), .val (.int rr), .val (.ref ob1), .val (.ref ob4), .unset, .unset, .unset] [(.int (((x0.toUInt32 >>> ((3 : Int32) &&& 31).toUInt32).toInt32) &&& (1 : Int32))), (.int (3 : Int32)), (.ref ob4)]) _ _ _
        have J106 : ∀ (v106 : Int32), own_Out p e below (ReturnedEndW s) T7 (mkF m 106 #[.val (.int x0), .val (.int x1), .val (.int x2), .val (.int x3), .val (.int kk), .val (.int rr), .val (.ref ob1), .val (.ref ob4), .unset, .unset, .unset] [(.int v106), (.int (3 : Int32)), (.ref ob4)]) (Q0 Z x0 x1 x2 x3 h0 n0) room_1.cells room_1.slots := by
          intro v106
          show own_Out p e below _ T7 (mkF m 106 #[.val (.int x0), .val (.int x1), .val (.int x2), .val (.int x3), .val (.int kk), .val (.int rr), .val (.ref ob1), .val (.ref ob4), .unset, .unset, .unset] [(.int v106), (.int (3 : Int32)), (.ref ob4)]) _ _ _
          refine own_stZ X7 hx hZ e7 A_ob4 (by decide) (by decide) rfl rfl (hb hby at_106) fun T8 hh8 X8 e8 W8 A8 => ?_
          have E_ob1 := E_ob1.wr W8
          have F_ob1_columns := F_ob1_columns.other W8 (Or.inl ne_ob1_ob4)
          have A_ob4 := A8
          have Z0 := Nat.le_trans Z0 (Nat.le_of_eq W8.size.symm)
          have hk := Nat.le_trans hk (Nat.le_of_eq W8.size.symm)
          have N8 := own_fs (sl := Int32.toNatClampNeg (3 : Int32)) N7 g_ob4
          show own_Out p e below _ T8 (mkF m 107 #[.val (.int x0), .val (.int x1), .val (.int x2), .val (.int x3), .val (.int kk), .val (.int rr), .val (.ref ob1), .val (.ref ob4), .unset, .unset, .unset] []) _ _ _
          refine own_to (fun t k => XS.aload X8.here hx rfl (hb hby at_107) rfl rfl k) ?_
          show own_Out p e below _ T8 (mkF m 109 #[.val (.int x0), .val (.int x1), .val (.int x2), .val (.int x3), .val (.int kk), .val (.int rr), .val (.ref ob1), .val (.ref ob4), .unset, .unset, .unset] [(.ref ob4)]) _ _ _
          refine own_to (fun t k => XS.iconst X8.here hx rfl (hb hby at_109) k) ?_
          show own_Out p e below _ T8 (mkF m 110 #[.val (.int x0), .val (.int x1), .val (.int x2), .val (.int x3), .val (.int kk), .val (.int rr), .val (.ref ob1), .val (.ref ob4), .unset, .unset, .unset] [(.int (4 : Int32)), (.ref ob4)]) _ _ _
          refine own_to (fun t k => XS.iloadN X8.here hx rfl (hb hby at_110) rfl k) ?_
          show own_Out p e below _ T8 (mkF m 111 #[.val (.int x0), .val (.int x1), .val (.int x2), .val (.int x3), .val (.int kk), .val (.int rr), .val (.ref ob1), .val (.ref ob4), .unset, .unset, .unset] [(.int x0), (.int (4 : Int32)), (.ref ob4)]) _ _ _
          refine own_to (fun t k => XS.iconst X8.here hx rfl (hb hby at_111) k) ?_
          show own_Out p e below _ T8 (mkF m 112 #[.val (.int x0), .val (.int x1), .val (.int x2), .val (.int x3), .val (.int kk), .val (.int rr), .val (.ref ob1), .val (.ref ob4), .unset, .unset, .unset] [(.int (4 : Int32)), (.int x0), (.int (4 : Int32)), (.ref ob4)]) _ _ _
          refine own_to (fun t k => XS.iushr X8.here hx rfl (hb hby at_112) rfl k) ?_
          show own_Out p e below _ T8 (mkF m 113 #[.val (.int x0), .val (.int x1), .val (.int x2), .val (.int x3), .val (.int kk), .val (.int rr), .val (.ref ob1), .val (.ref ob4), .unset, .unset, .unset] [(.int ((x0.toUInt32 >>> ((4 : Int32) &&& 31).toUInt32).toInt32)), (.int (4 : Int32)), (.ref ob4)]) _ _ _
          refine own_to (fun t k => XS.iconst X8.here hx rfl (hb hby at_113) k) ?_
          show own_Out p e below _ T8 (mkF m 114 #[.val (.int x0), .val (.int x1), .val (.int x2), .val (.int x3), .val (.int kk), .val (.int rr), .val (.ref ob1), .val (.ref ob4), .unset, .unset, .unset] [(.int (1 : Int32)), (.int ((x0.toUInt32 >>> ((4 : Int32) &&& 31).toUInt32).toInt32)), (.int (4 : Int32)), (.ref ob4)]) _ _ _
          refine own_to (fun t k => XS.iand X8.here hx rfl (hb hby at_114) rfl k) ?_
          show own_Out p e below _ T8 (mkF m 115 #[.val (.int x0), .val (.int x1), .val (.int x2), .val (.int x3), .val (.int kk), .val (.int rr), .val (.ref ob1), .val (.ref ob4), .unset, .unset, .unset] [(.int (((x0.toUInt32 >>> ((4 : Int32) &&& 31).toUInt32).toInt32) &&& (1 : Int32))), (.int (4 : Int32)), (.ref ob4)]) _ _ _
          have J123 : ∀ (v123 : Int32), own_Out p e below (ReturnedEndW s) T8 (mkF m 123 #[.val (.int x0), .val (.int x1), .val (.int x2), .val (.int x3), .val (.int kk), .val (.int rr), .val (.ref ob1), .val (.ref ob4), .unset, .unset, .unset] [(.int v123), (.int (4 : Int32)), (.ref ob4)]) (Q0 Z x0 x1 x2 x3 h0 n0) room_1.cells room_1.slots := by
            intro v123
            show own_Out p e below _ T8 (mkF m 123 #[.val (.int x0), .val (.int x1), .val (.int x2), .val (.int x3), .val (.int kk), .val (.int rr), .val (.ref ob1), .val (.ref ob4), .unset, .unset, .unset] [(.int v123), (.int (4 : Int32)), (.ref ob4)]) _ _ _
            refine own_stZ X8 hx hZ e8 A_ob4 (by decide) (by decide) rfl rfl (hb hby at_123) fun T9 hh9 X9 e9 W9 A9 => ?_
            have E_ob1 := E_ob1.wr W9
            have F_ob1_columns := F_ob1_columns.other W9 (Or.inl ne_ob1_ob4)
            have A_ob4 := A9
            have Z0 := Nat.le_trans Z0 (Nat.le_of_eq W9.size.symm)
            have hk := Nat.le_trans hk (Nat.le_of_eq W9.size.symm)
            have N9 := own_fs (sl := Int32.toNatClampNeg (4 : Int32)) N8 g_ob4
            show own_Out p e below _ T9 (mkF m 124 #[.val (.int x0), .val (.int x1), .val (.int x2), .val (.int x3), .val (.int kk), .val (.int rr), .val (.ref ob1), .val (.ref ob4), .unset, .unset, .unset] []) _ _ _
            refine own_to (fun t k => XS.aload X9.here hx rfl (hb hby at_124) rfl rfl k) ?_
            show own_Out p e below _ T9 (mkF m 126 #[.val (.int x0), .val (.int x1), .val (.int x2), .val (.int x3), .val (.int kk), .val (.int rr), .val (.ref ob1), .val (.ref ob4), .unset, .unset, .unset] [(.ref ob4)]) _ _ _
            refine own_to (fun t k => XS.iconst X9.here hx rfl (hb hby at_126) k) ?_
            show own_Out p e below _ T9 (mkF m 127 #[.val (.int x0), .val (.int x1), .val (.int x2), .val (.int x3), .val (.int kk), .val (.int rr), .val (.ref ob1), .val (.ref ob4), .unset, .unset, .unset] [(.int (5 : Int32)), (.ref ob4)]) _ _ _
            refine own_to (fun t k => XS.iloadN X9.here hx rfl (hb hby at_127) rfl k) ?_
            show own_Out p e below _ T9 (mkF m 128 #[.val (.int x0), .val (.int x1), .val (.int x2), .val (.int x3), .val (.int kk), .val (.int rr), .val (.ref ob1), .val (.ref ob4), .unset, .unset, .unset] [(.int x0), (.int (5 : Int32)), (.ref ob4)]) _ _ _
            refine own_to (fun t k => XS.iconst X9.here hx rfl (hb hby at_128) k) ?_
            show own_Out p e below _ T9 (mkF m 129 #[.val (.int x0), .val (.int x1), .val (.int x2), .val (.int x3), .val (.int kk), .val (.int rr), .val (.ref ob1), .val (.ref ob4), .unset, .unset, .unset] [(.int (5 : Int32)), (.int x0), (.int (5 : Int32)), (.ref ob4)]) _ _ _
            refine own_to (fun t k => XS.iushr X9.here hx rfl (hb hby at_129) rfl k) ?_
            show own_Out p e below _ T9 (mkF m 130 #[.val (.int x0), .val (.int x1), .val (.int x2), .val (.int x3), .val (.int kk), .val (.int rr), .val (.ref ob1), .val (.ref ob4), .unset, .unset, .unset] [(.int ((x0.toUInt32 >>> ((5 : Int32) &&& 31).toUInt32).toInt32)), (.int (5 : Int32)), (.ref ob4)]) _ _ _
            refine own_to (fun t k => XS.iconst X9.here hx rfl (hb hby at_130) k) ?_
            show own_Out p e below _ T9 (mkF m 131 #[.val (.int x0), .val (.int x1), .val (.int x2), .val (.int x3), .val (.int kk), .val (.int rr), .val (.ref ob1), .val (.ref ob4), .unset, .unset, .unset] [(.int (1 : Int32)), (.int ((x0.toUInt32 >>> ((5 : Int32) &&& 31).toUInt32).toInt32)), (.int (5 : Int32)), (.ref ob4)]) _ _ _
            refine own_to (fun t k => XS.iand X9.here hx rfl (hb hby at_131) rfl k) ?_
            show own_Out p e below _ T9 (mkF m 132 #[.val (.int x0), .val (.int x1), .val (.int x2), .val (.int x3), .val (.int kk), .val (.int rr), .val (.ref ob1), .val (.ref ob4), .unset, .unset, .unset] [(.int (((x0.toUInt32 >>> ((5 : Int32) &&& 31).toUInt32).toInt32) &&& (1 : Int32))), (.int (5 : Int32)), (.ref ob4)]) _ _ _
            have J140 : ∀ (v140 : Int32), own_Out p e below (ReturnedEndW s) T9 (mkF m 140 #[.val (.int x0), .val (.int x1), .val (.int x2), .val (.int x3), .val (.int kk), .val (.int rr), .val (.ref ob1), .val (.ref ob4), .unset, .unset, .unset] [(.int v140), (.int (5 : Int32)), (.ref ob4)]) (Q0 Z x0 x1 x2 x3 h0 n0) room_1.cells room_1.slots := by
              intro v140
              show own_Out p e below _ T9 (mkF m 140 #[.val (.int x0), .val (.int x1), .val (.int x2), .val (.int x3), .val (.int kk), .val (.int rr), .val (.ref ob1), .val (.ref ob4), .unset, .unset, .unset] [(.int v140), (.int (5 : Int32)), (.ref ob4)]) _ _ _
              refine own_stZ X9 hx hZ e9 A_ob4 (by decide) (by decide) rfl rfl (hb hby at_140) fun T10 hh10 X10 e10 W10 A10 => ?_
              have E_ob1 := E_ob1.wr W10
              have F_ob1_columns := F_ob1_columns.other W10 (Or.inl ne_ob1_ob4)
              have A_ob4 := A10
              have Z0 := Nat.le_trans Z0 (Nat.le_of_eq W10.size.symm)
              have hk := Nat.le_trans hk (Nat.le_of_eq W10.size.symm)
              have N10 := own_fs (sl := Int32.toNatClampNeg (5 : Int32)) N9 g_ob4
              show own_Out p e below _ T10 (mkF m 141 #[.val (.int x0), .val (.int x1), .val (.int x2), .val (.int x3), .val (.int kk), .val (.int rr), .val (.ref ob1), .val (.ref ob4), .unset, .unset, .unset] []) _ _ _
              refine own_to (fun t k => XS.iconst X10.here hx rfl (hb hby at_141) k) ?_
              show own_Out p e below _ T10 (mkF m 142 #[.val (.int x0), .val (.int x1), .val (.int x2), .val (.int x3), .val (.int kk), .val (.int rr), .val (.ref ob1), .val (.ref ob4), .unset, .unset, .unset] [(.int (3 : Int32))]) _ _ _
              refine own_newA X10 hx hZ (hw _ (List.mem_of_getElem? (i := 38) rfl)) rfl e10 rfl (hb hby at_142) rfl (by decide) (cap := 3) (by decide) (by decide) (by decide) (by decide) fun T11 hh11 ob11 gb11 X11 e11 E11 A11 => ?_
              have ne_ob1_ob11 : ob1 ≠ ob11 := Nat.ne_of_lt (Nat.lt_of_lt_of_le E_ob1.lt (Nat.le_of_eq gb11.symm))
              have ne_ob11_ob1 := Ne.symm ne_ob1_ob11
              have ne_ob4_ob11 : ob4 ≠ ob11 := Nat.ne_of_lt (Nat.lt_of_lt_of_le A_ob4.lt (Nat.le_of_eq gb11.symm))
              have ne_ob11_ob4 := Ne.symm ne_ob4_ob11
              have g_ob11 : n0 ≤ ob11 := Nat.le_trans Z0 (Nat.le_of_eq gb11.symm)
              have E_ob1 := E_ob1.ext E11
              have F_ob1_columns := F_ob1_columns.ext E11
              have A_ob4 := A_ob4.ext E11
              have Z0 := Nat.le_trans Z0 E11.1
              have hk := Nat.le_trans hk E11.1
              have A_ob11 : own_A Z hh11 ob11 .boolean 3 (fun _ => 0) := A11
              show own_Out p e below _ T11 (mkF m 144 #[.val (.int x0), .val (.int x1), .val (.int x2), .val (.int x3), .val (.int kk), .val (.int rr), .val (.ref ob1), .val (.ref ob4), .unset, .unset, .unset] [(.ref ob11)]) _ _ _
              refine own_to (fun t k => XS.astore X11.here hx rfl (hb hby at_144) rfl rfl (l' := #[.val (.int x0), .val (.int x1), .val (.int x2), .val (.int x3), .val (.int kk), .val (.int rr), .val (.ref ob1), .val (.ref ob4), .val (.ref ob11), .unset, .unset]) rfl k) ?_
              show own_Out p e below _ T11 (mkF m 146 #[.val (.int x0), .val (.int x1), .val (.int x2), .val (.int x3), .val (.int kk), .val (.int rr), .val (.ref ob1), .val (.ref ob4), .val (.ref ob11), .unset, .unset] []) _ _ _
              refine own_to (fun t k => XS.aload X11.here hx rfl (hb hby at_146) rfl rfl k) ?_
              show own_Out p e below _ T11 (mkF m 148 #[.val (.int x0), .val (.int x1), .val (.int x2), .val (.int x3), .val (.int kk), .val (.int rr), .val (.ref ob1), .val (.ref ob4), .val (.ref ob11), .unset, .unset] [(.ref ob11)]) _ _ _
              refine own_to (fun t k => XS.iconst X11.here hx rfl (hb hby at_148) k) ?_
              show own_Out p e below _ T11 (mkF m 149 #[.val (.int x0), .val (.int x1), .val (.int x2), .val (.int x3), .val (.int kk), .val (.int rr), .val (.ref ob1), .val (.ref ob4), .val (.ref ob11), .unset, .unset] [(.int (0 : Int32)), (.ref ob11)]) _ _ _
              refine own_to (fun t k => XS.iloadN X11.here hx rfl (hb hby at_149) rfl k) ?_
              show own_Out p e below _ T11 (mkF m 150 #[.val (.int x0), .val (.int x1), .val (.int x2), .val (.int x3), .val (.int kk), .val (.int rr), .val (.ref ob1), .val (.ref ob4), .val (.ref ob11), .unset, .unset] [(.int x1), (.int (0 : Int32)), (.ref ob11)]) _ _ _
              refine own_to (fun t k => XS.iconst X11.here hx rfl (hb hby at_150) k) ?_
              show own_Out p e below _ T11 (mkF m 151 #[.val (.int x0), .val (.int x1), .val (.int x2), .val (.int x3), .val (.int kk), .val (.int rr), .val (.ref ob1), .val (.ref ob4), .val (.ref ob11), .unset, .unset] [(.int (1 : Int32)), (.int x1), (.int (0 : Int32)), (.ref ob11)]) _ _ _
              refine own_to (fun t k => XS.iand X11.here hx rfl (hb hby at_151) rfl k) ?_
              show own_Out p e below _ T11 (mkF m 152 #[.val (.int x0), .val (.int x1), .val (.int x2), .val (.int x3), .val (.int kk), .val (.int rr), .val (.ref ob1), .val (.ref ob4), .val (.ref ob11), .unset, .unset] [(.int (x1 &&& (1 : Int32))), (.int (0 : Int32)), (.ref ob11)]) _ _ _
              have J160 : ∀ (v160 : Int32), own_Out p e below (ReturnedEndW s) T11 (mkF m 160 #[.val (.int x0), .val (.int x1), .val (.int x2), .val (.int x3), .val (.int kk), .val (.int rr), .val (.ref ob1), .val (.ref ob4), .val (.ref ob11), .unset, .unset] [(.int v160), (.int (0 : Int32)), (.ref ob11)]) (Q0 Z x0 x1 x2 x3 h0 n0) room_1.cells room_1.slots := by
                intro v160
                show own_Out p e below _ T11 (mkF m 160 #[.val (.int x0), .val (.int x1), .val (.int x2), .val (.int x3), .val (.int kk), .val (.int rr), .val (.ref ob1), .val (.ref ob4), .val (.ref ob11), .unset, .unset] [(.int v160), (.int (0 : Int32)), (.ref ob11)]) _ _ _
                refine own_stZ X11 hx hZ e11 A_ob11 (by decide) (by decide) rfl rfl (hb hby at_160) fun T12 hh12 X12 e12 W12 A12 => ?_
                have E_ob1 := E_ob1.wr W12
                have F_ob1_columns := F_ob1_columns.other W12 (Or.inl ne_ob1_ob11)
                have A_ob4 := A_ob4.other W12 ne_ob4_ob11
                have A_ob11 := A12
                have Z0 := Nat.le_trans Z0 (Nat.le_of_eq W12.size.symm)
                have hk := Nat.le_trans hk (Nat.le_of_eq W12.size.symm)
                have N12 := own_fs (sl := Int32.toNatClampNeg (0 : Int32)) N10 g_ob11
                show own_Out p e below _ T12 (mkF m 161 #[.val (.int x0), .val (.int x1), .val (.int x2), .val (.int x3), .val (.int kk), .val (.int rr), .val (.ref ob1), .val (.ref ob4), .val (.ref ob11), .unset, .unset] []) _ _ _
                refine own_to (fun t k => XS.aload X12.here hx rfl (hb hby at_161) rfl rfl k) ?_
                show own_Out p e below _ T12 (mkF m 163 #[.val (.int x0), .val (.int x1), .val (.int x2), .val (.int x3), .val (.int kk), .val (.int rr), .val (.ref ob1), .val (.ref ob4), .val (.ref ob11), .unset, .unset] [(.ref ob11)]) _ _ _
                refine own_to (fun t k => XS.iconst X12.here hx rfl (hb hby at_163) k) ?_
                show own_Out p e below _ T12 (mkF m 164 #[.val (.int x0), .val (.int x1), .val (.int x2), .val (.int x3), .val (.int kk), .val (.int rr), .val (.ref ob1), .val (.ref ob4), .val (.ref ob11), .unset, .unset] [(.int (1 : Int32)), (.ref ob11)]) _ _ _
                refine own_to (fun t k => XS.iloadN X12.here hx rfl (hb hby at_164) rfl k) ?_
                show own_Out p e below _ T12 (mkF m 165 #[.val (.int x0), .val (.int x1), .val (.int x2), .val (.int x3), .val (.int kk), .val (.int rr), .val (.ref ob1), .val (.ref ob4), .val (.ref ob11), .unset, .unset] [(.int x1), (.int (1 : Int32)), (.ref ob11)]) _ _ _
                refine own_to (fun t k => XS.iconst X12.here hx rfl (hb hby at_165) k) ?_
                show own_Out p e below _ T12 (mkF m 166 #[.val (.int x0), .val (.int x1), .val (.int x2), .val (.int x3), .val (.int kk), .val (.int rr), .val (.ref ob1), .val (.ref ob4), .val (.ref ob11), .unset, .unset] [(.int (1 : Int32)), (.int x1), (.int (1 : Int32)), (.ref ob11)]) _ _ _
                refine own_to (fun t k => XS.iushr X12.here hx rfl (hb hby at_166) rfl k) ?_
                show own_Out p e below _ T12 (mkF m 167 #[.val (.int x0), .val (.int x1), .val (.int x2), .val (.int x3), .val (.int kk), .val (.int rr), .val (.ref ob1), .val (.ref ob4), .val (.ref ob11), .unset, .unset] [(.int ((x1.toUInt32 >>> ((1 : Int32) &&& 31).toUInt32).toInt32)), (.int (1 : Int32)), (.ref ob11)]) _ _ _
                refine own_to (fun t k => XS.iconst X12.here hx rfl (hb hby at_167) k) ?_
                show own_Out p e below _ T12 (mkF m 168 #[.val (.int x0), .val (.int x1), .val (.int x2), .val (.int x3), .val (.int kk), .val (.int rr), .val (.ref ob1), .val (.ref ob4), .val (.ref ob11), .unset, .unset] [(.int (1 : Int32)), (.int ((x1.toUInt32 >>> ((1 : Int32) &&& 31).toUInt32).toInt32)), (.int (1 : Int32)), (.ref ob11)]) _ _ _
                refine own_to (fun t k => XS.iand X12.here hx rfl (hb hby at_168) rfl k) ?_
                show own_Out p e below _ T12 (mkF m 169 #[.val (.int x0), .val (.int x1), .val (.int x2), .val (.int x3), .val (.int kk), .val (.int rr), .val (.ref ob1), .val (.ref ob4), .val (.ref ob11), .unset, .unset] [(.int (((x1.toUInt32 >>> ((1 : Int32) &&& 31).toUInt32).toInt32) &&& (1 : Int32))), (.int (1 : Int32)), (.ref ob11)]) _ _ _
                have J177 : ∀ (v177 : Int32), own_Out p e below (ReturnedEndW s) T12 (mkF m 177 #[.val (.int x0), .val (.int x1), .val (.int x2), .val (.int x3), .val (.int kk), .val (.int rr), .val (.ref ob1), .val (.ref ob4), .val (.ref ob11), .unset, .unset] [(.int v177), (.int (1 : Int32)), (.ref ob11)]) (Q0 Z x0 x1 x2 x3 h0 n0) room_1.cells room_1.slots := by
                  intro v177
                  show own_Out p e below _ T12 (mkF m 177 #[.val (.int x0), .val (.int x1), .val (.int x2), .val (.int x3), .val (.int kk), .val (.int rr), .val (.ref ob1), .val (.ref ob4), .val (.ref ob11), .unset, .unset] [(.int v177), (.int (1 : Int32)), (.ref ob11)]) _ _ _
                  refine own_stZ X12 hx hZ e12 A_ob11 (by decide) (by decide) rfl rfl (hb hby at_177) fun T13 hh13 X13 e13 W13 A13 => ?_
                  have E_ob1 := E_ob1.wr W13
                  have F_ob1_columns := F_ob1_columns.other W13 (Or.inl ne_ob1_ob11)
                  have A_ob4 := A_ob4.other W13 ne_ob4_ob11
                  have A_ob11 := A13
                  have Z0 := Nat.le_trans Z0 (Nat.le_of_eq W13.size.symm)
                  have hk := Nat.le_trans hk (Nat.le_of_eq W13.size.symm)
                  have N13 := own_fs (sl := Int32.toNatClampNeg (1 : Int32)) N12 g_ob11
                  show own_Out p e below _ T13 (mkF m 178 #[.val (.int x0), .val (.int x1), .val (.int x2), .val (.int x3), .val (.int kk), .val (.int rr), .val (.ref ob1), .val (.ref ob4), .val (.ref ob11), .unset, .unset] []) _ _ _
                  refine own_to (fun t k => XS.aload X13.here hx rfl (hb hby at_178) rfl rfl k) ?_
                  show own_Out p e below _ T13 (mkF m 180 #[.val (.int x0), .val (.int x1), .val (.int x2), .val (.int x3), .val (.int kk), .val (.int rr), .val (.ref ob1), .val (.ref ob4), .val (.ref ob11), .unset, .unset] [(.ref ob11)]) _ _ _
                  refine own_to (fun t k => XS.iconst X13.here hx rfl (hb hby at_180) k) ?_
                  show own_Out p e below _ T13 (mkF m 181 #[.val (.int x0), .val (.int x1), .val (.int x2), .val (.int x3), .val (.int kk), .val (.int rr), .val (.ref ob1), .val (.ref ob4), .val (.ref ob11), .unset, .unset] [(.int (2 : Int32)), (.ref ob11)]) _ _ _
                  refine own_to (fun t k => XS.iloadN X13.here hx rfl (hb hby at_181) rfl k) ?_
                  show own_Out p e below _ T13 (mkF m 182 #[.val (.int x0), .val (.int x1), .val (.int x2), .val (.int x3), .val (.int kk), .val (.int rr), .val (.ref ob1), .val (.ref ob4), .val (.ref ob11), .unset, .unset] [(.int x1), (.int (2 : Int32)), (.ref ob11)]) _ _ _
                  refine own_to (fun t k => XS.iconst X13.here hx rfl (hb hby at_182) k) ?_
                  show own_Out p e below _ T13 (mkF m 183 #[.val (.int x0), .val (.int x1), .val (.int x2), .val (.int x3), .val (.int kk), .val (.int rr), .val (.ref ob1), .val (.ref ob4), .val (.ref ob11), .unset, .unset] [(.int (2 : Int32)), (.int x1), (.int (2 : Int32)), (.ref ob11)]) _ _ _
                  refine own_to (fun t k => XS.iushr X13.here hx rfl (hb hby at_183) rfl k) ?_
                  show own_Out p e below _ T13 (mkF m 184 #[.val (.int x0), .val (.int x1), .val (.int x2), .val (.int x3), .val (.int kk), .val (.int rr), .val (.ref ob1), .val (.ref ob4), .val (.ref ob11), .unset, .unset] [(.int ((x1.toUInt32 >>> ((2 : Int32) &&& 31).toUInt32).toInt32)), (.int (2 : Int32)), (.ref ob11)]) _ _ _
                  refine own_to (fun t k => XS.iconst X13.here hx rfl (hb hby at_184) k) ?_
                  show own_Out p e below _ T13 (mkF m 185 #[.val (.int x0), .val (.int x1), .val (.int x2), .val (.int x3), .val (.int kk), .val (.int rr), .val (.ref ob1), .val (.ref ob4), .val (.ref ob11), .unset, .unset] [(.int (1 : Int32)), (.int ((x1.toUInt32 >>> ((2 : Int32) &&& 31).toUInt32).toInt32)), (.int (2 : Int32)), (.ref ob11)]) _ _ _
                  refine own_to (fun t k => XS.iand X13.here hx rfl (hb hby at_185) rfl k) ?_
                  show own_Out p e below _ T13 (mkF m 186 #[.val (.int x0), .val (.int x1), .val (.int x2), .val (.int x3), .val (.int kk), .val (.int rr), .val (.ref ob1), .val (.ref ob4), .val (.ref ob11), .unset, .unset] [(.int (((x1.toUInt32 >>> ((2 : Int32) &&& 31).toUInt32).toInt32) &&& (1 : Int32))), (.int (2 : Int32)), (.ref ob11)]) _ _ _
                  have J194 : ∀ (v194 : Int32), own_Out p e below (ReturnedEndW s) T13 (mkF m 194 #[.val (.int x0), .val (.int x1), .val (.int x2), .val (.int x3), .val (.int kk), .val (.int rr), .val (.ref ob1), .val (.ref ob4), .val (.ref ob11), .unset, .unset] [(.int v194), (.int (2 : Int32)), (.ref ob11)]) (Q0 Z x0 x1 x2 x3 h0 n0) room_1.cells room_1.slots := by
                    intro v194
                    show own_Out p e below _ T13 (mkF m 194 #[.val (.int x0), .val (.int x1), .val (.int x2), .val (.int x3), .val (.int kk), .val (.int rr), .val (.ref ob1), .val (.ref ob4), .val (.ref ob11), .unset, .unset] [(.int v194), (.int (2 : Int32)), (.ref ob11)]) _ _ _
                    refine own_stZ X13 hx hZ e13 A_ob11 (by decide) (by decide) rfl rfl (hb hby at_194) fun T14 hh14 X14 e14 W14 A14 => ?_
                    have E_ob1 := E_ob1.wr W14
                    have F_ob1_columns := F_ob1_columns.other W14 (Or.inl ne_ob1_ob11)
                    have A_ob4 := A_ob4.other W14 ne_ob4_ob11
                    have A_ob11 := A14
                    have Z0 := Nat.le_trans Z0 (Nat.le_of_eq W14.size.symm)
                    have hk := Nat.le_trans hk (Nat.le_of_eq W14.size.symm)
                    have N14 := own_fs (sl := Int32.toNatClampNeg (2 : Int32)) N13 g_ob11
                    show own_Out p e below _ T14 (mkF m 195 #[.val (.int x0), .val (.int x1), .val (.int x2), .val (.int x3), .val (.int kk), .val (.int rr), .val (.ref ob1), .val (.ref ob4), .val (.ref ob11), .unset, .unset] []) _ _ _
                    generalize hg_gf : (own_upd (own_upd (own_upd (own_upd (own_upd (own_upd (fun _ => 0) ((0 : Int32).toNatClampNeg) (nar .boolean v55)) ((1 : Int32).toNatClampNeg) (nar .boolean v72)) ((2 : Int32).toNatClampNeg) (nar .boolean v89)) ((3 : Int32).toNatClampNeg) (nar .boolean v106)) ((4 : Int32).toNatClampNeg) (nar .boolean v123)) ((5 : Int32).toNatClampNeg) (nar .boolean v140)) = gf at A_ob4
                    generalize hg_gv : (own_upd (own_upd (own_upd (fun _ => 0) ((0 : Int32).toNatClampNeg) (nar .boolean v160)) ((1 : Int32).toNatClampNeg) (nar .boolean v177)) ((2 : Int32).toNatClampNeg) (nar .boolean v194)) = gv at A_ob11
                    refine own_to (fun t k => XS.aload X14.here hx rfl (hb hby at_195) rfl rfl k) ?_
                    show own_Out p e below _ T14 (mkF m 197 #[.val (.int x0), .val (.int x1), .val (.int x2), .val (.int x3), .val (.int kk), .val (.int rr), .val (.ref ob1), .val (.ref ob4), .val (.ref ob11), .unset, .unset] [(.ref ob1)]) _ _ _
                    refine own_to (fun t k => XS.aload X14.here hx rfl (hb hby at_197) rfl rfl k) ?_
                    show own_Out p e below _ T14 (mkF m 199 #[.val (.int x0), .val (.int x1), .val (.int x2), .val (.int x3), .val (.int kk), .val (.int rr), .val (.ref ob1), .val (.ref ob4), .val (.ref ob11), .unset, .unset] [(.ref ob4), (.ref ob1)]) _ _ _
                    refine own_to (fun t k => XS.iload X14.here hx rfl (hb hby at_199) rfl k) ?_
                    show own_Out p e below _ T14 (mkF m 201 #[.val (.int x0), .val (.int x1), .val (.int x2), .val (.int x3), .val (.int kk), .val (.int rr), .val (.ref ob1), .val (.ref ob4), .val (.ref ob11), .unset, .unset] [(.int rr), (.ref ob4), (.ref ob1)]) _ _ _
                    refine own_to (fun t k => XS.aload X14.here hx rfl (hb hby at_201) rfl rfl k) ?_
                    show own_Out p e below _ T14 (mkF m 203 #[.val (.int x0), .val (.int x1), .val (.int x2), .val (.int x3), .val (.int kk), .val (.int rr), .val (.ref ob1), .val (.ref ob4), .val (.ref ob11), .unset, .unset] [(.ref ob11), (.int rr), (.ref ob4), (.ref ob1)]) _ _ _
                    refine own_callV X14 hx hZ hown (a := ob1) (argsL := [(.ref ob4), (.int rr), (.ref ob11)]) (rest := []) (hw _ (List.mem_of_getElem? (i := 39) rfl)) (hw _ (List.mem_of_getElem? (i := 40) rfl)) (hw _ (List.mem_of_getElem? (i := 42) rfl)) (hw _ (List.mem_of_getElem? (i := 41) rfl)) (hw _ (List.mem_of_getElem? (i := 2) rfl)) (hw _ (List.mem_of_getElem? (i := 43) rfl)) (by decide) (rm4 l Z a0 hw ob1 ob4 rr ob11 kk gf gv hh14 n0 Z0 F_ob1_columns A_ob4 A_ob11 bk br) (by decide) (by decide) e14 E_ob1 rfl (by rw [hml]; rfl) (lenOf pd_2 rfl) rfl (W := 0) (by show 2 * 0 + _ ≤ _; exact Nat.le_of_eq rfl) (hb hby at_203) (by decide) (by decide) fun v15 T15 hh15 L15 X15 e15 hQ15 => ?_
                    obtain ⟨rfl, NL15, he15⟩ := hQ15
                    replace e15 := e15.trans he15
                    have N15 := Fr.app N14 NL15
                    show own_Out p e below _ T15 (mkF m 206 #[.val (.int x0), .val (.int x1), .val (.int x2), .val (.int x3), .val (.int kk), .val (.int rr), .val (.ref ob1), .val (.ref ob4), .val (.ref ob11), .unset, .unset] [(.int (own_row gf gv ((rr * kk).toNatClampNeg) kk.toInt.toNat kk.toInt.toNat))]) _ _ _
                    refine own_to (fun t k => XS.istore X15.here hx rfl (hb hby at_206) rfl (l' := #[.val (.int x0), .val (.int x1), .val (.int x2), .val (.int x3), .val (.int kk), .val (.int rr), .val (.ref ob1), .val (.ref ob4), .val (.ref ob11), .val (.int (own_row gf gv ((rr * kk).toNatClampNeg) kk.toInt.toNat kk.toInt.toNat)), .unset]) rfl k) ?_
                    show own_Out p e below _ T15 (mkF m 208 #[.val (.int x0), .val (.int x1), .val (.int x2), .val (.int x3), .val (.int kk), .val (.int rr), .val (.ref ob1), .val (.ref ob4), .val (.ref ob11), .val (.int (own_row gf gv ((rr * kk).toNatClampNeg) kk.toInt.toNat kk.toInt.toNat)), .unset] []) _ _ _
                    refine own_to (fun t k => XS.iload X15.here hx rfl (hb hby at_208) rfl k) ?_
                    show own_Out p e below _ T15 (mkF m 210 #[.val (.int x0), .val (.int x1), .val (.int x2), .val (.int x3), .val (.int kk), .val (.int rr), .val (.ref ob1), .val (.ref ob4), .val (.ref ob11), .val (.int (own_row gf gv ((rr * kk).toNatClampNeg) kk.toInt.toNat kk.toInt.toNat)), .unset] [(.int kk)]) _ _ _
                    refine own_to (fun t k => XS.iconst X15.here hx rfl (hb hby at_210) k) ?_
                    show own_Out p e below _ T15 (mkF m 211 #[.val (.int x0), .val (.int x1), .val (.int x2), .val (.int x3), .val (.int kk), .val (.int rr), .val (.ref ob1), .val (.ref ob4), .val (.ref ob11), .val (.int (own_row gf gv ((rr * kk).toNatClampNeg) kk.toInt.toNat kk.toInt.toNat)), .unset] [(.int (0 : Int32)), (.int kk)]) _ _ _
                    refine own_to (fun t k => XS.iload X15.here hx rfl (hb hby at_211) rfl k) ?_
                    show own_Out p e below _ T15 (mkF m 213 #[.val (.int x0), .val (.int x1), .val (.int x2), .val (.int x3), .val (.int kk), .val (.int rr), .val (.ref ob1), .val (.ref ob4), .val (.ref ob11), .val (.int (own_row gf gv ((rr * kk).toNatClampNeg) kk.toInt.toNat kk.toInt.toNat)), .unset] [(.int rr), (.int (0 : Int32)), (.int kk)]) _ _ _
                    refine own_to (fun t k => XS.aload X15.here hx rfl (hb hby at_213) rfl rfl k) ?_
                    show own_Out p e below _ T15 (mkF m 215 #[.val (.int x0), .val (.int x1), .val (.int x2), .val (.int x3), .val (.int kk), .val (.int rr), .val (.ref ob1), .val (.ref ob4), .val (.ref ob11), .val (.int (own_row gf gv ((rr * kk).toNatClampNeg) kk.toInt.toNat kk.toInt.toNat)), .unset] [(.ref ob4), (.int rr), (.int (0 : Int32)), (.int kk)]) _ _ _
                    refine own_to (fun t k => XS.aload X15.here hx rfl (hb hby at_215) rfl rfl k) ?_
                    show own_Out p e below _ T15 (mkF m 217 #[.val (.int x0), .val (.int x1), .val (.int x2), .val (.int x3), .val (.int kk), .val (.int rr), .val (.ref ob1), .val (.ref ob4), .val (.ref ob11), .val (.int (own_row gf gv ((rr * kk).toNatClampNeg) kk.toInt.toNat kk.toInt.toNat)), .unset] [(.ref ob11), (.ref ob4), (.int rr), (.int (0 : Int32)), (.int kk)]) _ _ _
                    refine own_callS X15 hx hZ hown (argsL := [(.int kk), (.int (0 : Int32)), (.int rr), (.ref ob4), (.ref ob11)]) (rest := []) (hw _ (List.mem_of_getElem? (i := 44) rfl)) (hw _ (List.mem_of_getElem? (i := 45) rfl)) (hw _ (List.mem_of_getElem? (i := 46) rfl)) (hw _ (List.mem_of_getElem? (i := 47) rfl)) (by decide) (rm5 l Z a0 hw kk (0 : Int32) rr ob4 ob11 gf gv hh14 n0 Z0 A_ob4 A_ob11 bk br (by decide)) (by decide) (by decide) e15 rfl (by rw [hml]; rfl) (lenOf pd_3 rfl) rfl (W := 0) (by show 2 * 0 + _ ≤ _; exact Nat.le_of_eq rfl) (hb hby at_217) (by decide) (by decide) fun v16 T16 hh16 L16 X16 e16 hQ16 => ?_
                    obtain ⟨rfl, NL16, he16⟩ := hQ16
                    replace e16 := e16.trans he16
                    have N16 := Fr.app N15 NL16
                    show own_Out p e below _ T16 (mkF m 220 #[.val (.int x0), .val (.int x1), .val (.int x2), .val (.int x3), .val (.int kk), .val (.int rr), .val (.ref ob1), .val (.ref ob4), .val (.ref ob11), .val (.int (own_row gf gv ((rr * kk).toNatClampNeg) kk.toInt.toNat kk.toInt.toNat)), .unset] [(.int (R5 kk (0 : Int32) rr ob4 ob11 gf gv))]) _ _ _
                    by_cases hc220 : (R5 kk (0 : Int32) rr ob4 ob11 gf gv) = (0 : Int32)
                    · refine own_to (fun t k => XS.ifYes X16.here hx rfl (pc0 := 220) (pc' := 257) rfl (hb hby at_220) rfl ((if0 _ _).trans (teq hc220).1) (by decide) (by decide) k) ?_
                      show own_Out p e below _ T16 (mkF m 257 #[.val (.int x0), .val (.int x1), .val (.int x2), .val (.int x3), .val (.int kk), .val (.int rr), .val (.ref ob1), .val (.ref ob4), .val (.ref ob11), .val (.int (own_row gf gv ((rr * kk).toNatClampNeg) kk.toInt.toNat kk.toInt.toNat)), .unset] []) _ _ _
                      refine own_to (fun t k => XS.iconst X16.here hx rfl (hb hby at_257) k) ?_
                      show own_Out p e below _ T16 (mkF m 258 #[.val (.int x0), .val (.int x1), .val (.int x2), .val (.int x3), .val (.int kk), .val (.int rr), .val (.ref ob1), .val (.ref ob4), .val (.ref ob11), .val (.int (own_row gf gv ((rr * kk).toNatClampNeg) kk.toInt.toNat kk.toInt.toNat)), .unset] [(.int (0 : Int32))]) _ _ _
                      refine own_to (fun t k => XS.istore X16.here hx rfl (hb hby at_258) rfl (l' := #[.val (.int x0), .val (.int x1), .val (.int x2), .val (.int x3), .val (.int kk), .val (.int rr), .val (.ref ob1), .val (.ref ob4), .val (.ref ob11), .val (.int (own_row gf gv ((rr * kk).toNatClampNeg) kk.toInt.toNat kk.toInt.toNat)), .val (.int (0 : Int32))]) rfl k) ?_
                      show own_Out p e below _ T16 (mkF m 260 #[.val (.int x0), .val (.int x1), .val (.int x2), .val (.int x3), .val (.int kk), .val (.int rr), .val (.ref ob1), .val (.ref ob4), .val (.ref ob11), .val (.int (own_row gf gv ((rr * kk).toNatClampNeg) kk.toInt.toNat kk.toInt.toNat)), .val (.int (0 : Int32))] []) _ _ _
                      refine own_to (fun t k => XS.iload X16.here hx rfl (hb hby at_260) rfl k) ?_
                      show own_Out p e below _ T16 (mkF m 262 #[.val (.int x0), .val (.int x1), .val (.int x2), .val (.int x3), .val (.int kk), .val (.int rr), .val (.ref ob1), .val (.ref ob4), .val (.ref ob11), .val (.int (own_row gf gv ((rr * kk).toNatClampNeg) kk.toInt.toNat kk.toInt.toNat)), .val (.int (0 : Int32))] [(.int (own_row gf gv ((rr * kk).toNatClampNeg) kk.toInt.toNat kk.toInt.toNat))]) _ _ _
                      refine own_to (fun t k => XS.iload X16.here hx rfl (hb hby at_262) rfl k) ?_
                      show own_Out p e below _ T16 (mkF m 264 #[.val (.int x0), .val (.int x1), .val (.int x2), .val (.int x3), .val (.int kk), .val (.int rr), .val (.ref ob1), .val (.ref ob4), .val (.ref ob11), .val (.int (own_row gf gv ((rr * kk).toNatClampNeg) kk.toInt.toNat kk.toInt.toNat)), .val (.int (0 : Int32))] [(.int (0 : Int32)), (.int (own_row gf gv ((rr * kk).toNatClampNeg) kk.toInt.toNat kk.toInt.toNat))]) _ _ _
                      have hc264 : (own_row gf gv ((rr * kk).toNatClampNeg) kk.toInt.toNat kk.toInt.toNat) = (0 : Int32) := by rw [own_fin kk rr ob4 ob11 gf gv bk br, if_pos hc220]
                      refine own_to (fun t k => XS.icmpNo X16.here hx rfl (hb hby at_264) rfl (teq hc264).2 k) ?_
                      show own_Out p e below _ T16 (mkF m 267 #[.val (.int x0), .val (.int x1), .val (.int x2), .val (.int x3), .val (.int kk), .val (.int rr), .val (.ref ob1), .val (.ref ob4), .val (.ref ob11), .val (.int (own_row gf gv ((rr * kk).toNatClampNeg) kk.toInt.toNat kk.toInt.toNat)), .val (.int (0 : Int32))] []) _ _ _
                      refine own_to (fun t k => XS.iconst X16.here hx rfl (hb hby at_267) k) ?_
                      show own_Out p e below _ T16 (mkF m 268 #[.val (.int x0), .val (.int x1), .val (.int x2), .val (.int x3), .val (.int kk), .val (.int rr), .val (.ref ob1), .val (.ref ob4), .val (.ref ob11), .val (.int (own_row gf gv ((rr * kk).toNatClampNeg) kk.toInt.toNat kk.toInt.toNat)), .val (.int (0 : Int32))] [(.int (1 : Int32))]) _ _ _
                      refine own_to (fun t k => XS.goto X16.here hx rfl (pc0 := 268) (pc' := 272) rfl (hb hby at_268) (by decide) (by decide) k) ?_
                      show own_Out p e below _ T16 (mkF m 272 #[.val (.int x0), .val (.int x1), .val (.int x2), .val (.int x3), .val (.int kk), .val (.int rr), .val (.ref ob1), .val (.ref ob4), .val (.ref ob11), .val (.int (own_row gf gv ((rr * kk).toNatClampNeg) kk.toInt.toNat kk.toInt.toNat)), .val (.int (0 : Int32))] [(.int (1 : Int32))]) _ _ _
                      refine own_retVW X16 hS hk e16 hx hlk (w := .int (1 : Int32)) hret rfl (Or.inl ⟨rfl, by simp, _, rfl⟩) (hb hby at_272) (by decide) (by decide) ?_
                      rw [e16]
                      exact ⟨rfl, N16⟩
                    · refine own_to (fun t k => XS.ifNo X16.here hx rfl (hb hby at_220) rfl ((if0 _ _).trans (feq hc220).1) k) ?_
                      show own_Out p e below _ T16 (mkF m 223 #[.val (.int x0), .val (.int x1), .val (.int x2), .val (.int x3), .val (.int kk), .val (.int rr), .val (.ref ob1), .val (.ref ob4), .val (.ref ob11), .val (.int (own_row gf gv ((rr * kk).toNatClampNeg) kk.toInt.toNat kk.toInt.toNat)), .unset] []) _ _ _
                      refine own_to (fun t k => XS.iload X16.here hx rfl (hb hby at_223) rfl k) ?_
                      show own_Out p e below _ T16 (mkF m 225 #[.val (.int x0), .val (.int x1), .val (.int x2), .val (.int x3), .val (.int kk), .val (.int rr), .val (.ref ob1), .val (.ref ob4), .val (.ref ob11), .val (.int (own_row gf gv ((rr * kk).toNatClampNeg) kk.toInt.toNat kk.toInt.toNat)), .unset] [(.int kk)]) _ _ _
                      refine own_to (fun t k => XS.iconst X16.here hx rfl (hb hby at_225) k) ?_
                      show own_Out p e below _ T16 (mkF m 226 #[.val (.int x0), .val (.int x1), .val (.int x2), .val (.int x3), .val (.int kk), .val (.int rr), .val (.ref ob1), .val (.ref ob4), .val (.ref ob11), .val (.int (own_row gf gv ((rr * kk).toNatClampNeg) kk.toInt.toNat kk.toInt.toNat)), .unset] [(.int (1 : Int32)), (.int kk)]) _ _ _
                      refine own_to (fun t k => XS.iload X16.here hx rfl (hb hby at_226) rfl k) ?_
                      show own_Out p e below _ T16 (mkF m 228 #[.val (.int x0), .val (.int x1), .val (.int x2), .val (.int x3), .val (.int kk), .val (.int rr), .val (.ref ob1), .val (.ref ob4), .val (.ref ob11), .val (.int (own_row gf gv ((rr * kk).toNatClampNeg) kk.toInt.toNat kk.toInt.toNat)), .unset] [(.int rr), (.int (1 : Int32)), (.int kk)]) _ _ _
                      refine own_to (fun t k => XS.aload X16.here hx rfl (hb hby at_228) rfl rfl k) ?_
                      show own_Out p e below _ T16 (mkF m 230 #[.val (.int x0), .val (.int x1), .val (.int x2), .val (.int x3), .val (.int kk), .val (.int rr), .val (.ref ob1), .val (.ref ob4), .val (.ref ob11), .val (.int (own_row gf gv ((rr * kk).toNatClampNeg) kk.toInt.toNat kk.toInt.toNat)), .unset] [(.ref ob4), (.int rr), (.int (1 : Int32)), (.int kk)]) _ _ _
                      refine own_to (fun t k => XS.aload X16.here hx rfl (hb hby at_230) rfl rfl k) ?_
                      show own_Out p e below _ T16 (mkF m 232 #[.val (.int x0), .val (.int x1), .val (.int x2), .val (.int x3), .val (.int kk), .val (.int rr), .val (.ref ob1), .val (.ref ob4), .val (.ref ob11), .val (.int (own_row gf gv ((rr * kk).toNatClampNeg) kk.toInt.toNat kk.toInt.toNat)), .unset] [(.ref ob11), (.ref ob4), (.int rr), (.int (1 : Int32)), (.int kk)]) _ _ _
                      refine own_callS X16 hx hZ hown (argsL := [(.int kk), (.int (1 : Int32)), (.int rr), (.ref ob4), (.ref ob11)]) (rest := []) (hw _ (List.mem_of_getElem? (i := 44) rfl)) (hw _ (List.mem_of_getElem? (i := 45) rfl)) (hw _ (List.mem_of_getElem? (i := 46) rfl)) (hw _ (List.mem_of_getElem? (i := 47) rfl)) (by decide) (rm5 l Z a0 hw kk (1 : Int32) rr ob4 ob11 gf gv hh14 n0 Z0 A_ob4 A_ob11 bk br (by decide)) (by decide) (by decide) e16 rfl (by rw [hml]; rfl) (lenOf pd_3 rfl) rfl (W := 0) (by show 2 * 0 + _ ≤ _; exact Nat.le_of_eq rfl) (hb hby at_232) (by decide) (by decide) fun v17 T17 hh17 L17 X17 e17 hQ17 => ?_
                      obtain ⟨rfl, NL17, he17⟩ := hQ17
                      replace e17 := e17.trans he17
                      have N17 := Fr.app N16 NL17
                      show own_Out p e below _ T17 (mkF m 235 #[.val (.int x0), .val (.int x1), .val (.int x2), .val (.int x3), .val (.int kk), .val (.int rr), .val (.ref ob1), .val (.ref ob4), .val (.ref ob11), .val (.int (own_row gf gv ((rr * kk).toNatClampNeg) kk.toInt.toNat kk.toInt.toNat)), .unset] [(.int (R5 kk (1 : Int32) rr ob4 ob11 gf gv))]) _ _ _
                      by_cases hc235 : (R5 kk (1 : Int32) rr ob4 ob11 gf gv) = (0 : Int32)
                      · refine own_to (fun t k => XS.ifYes X17.here hx rfl (pc0 := 235) (pc' := 257) rfl (hb hby at_235) rfl ((if0 _ _).trans (teq hc235).1) (by decide) (by decide) k) ?_
                        show own_Out p e below _ T17 (mkF m 257 #[.val (.int x0), .val (.int x1), .val (.int x2), .val (.int x3), .val (.int kk), .val (.int rr), .val (.ref ob1), .val (.ref ob4), .val (.ref ob11), .val (.int (own_row gf gv ((rr * kk).toNatClampNeg) kk.toInt.toNat kk.toInt.toNat)), .unset] []) _ _ _
                        refine own_to (fun t k => XS.iconst X17.here hx rfl (hb hby at_257) k) ?_
                        show own_Out p e below _ T17 (mkF m 258 #[.val (.int x0), .val (.int x1), .val (.int x2), .val (.int x3), .val (.int kk), .val (.int rr), .val (.ref ob1), .val (.ref ob4), .val (.ref ob11), .val (.int (own_row gf gv ((rr * kk).toNatClampNeg) kk.toInt.toNat kk.toInt.toNat)), .unset] [(.int (0 : Int32))]) _ _ _
                        refine own_to (fun t k => XS.istore X17.here hx rfl (hb hby at_258) rfl (l' := #[.val (.int x0), .val (.int x1), .val (.int x2), .val (.int x3), .val (.int kk), .val (.int rr), .val (.ref ob1), .val (.ref ob4), .val (.ref ob11), .val (.int (own_row gf gv ((rr * kk).toNatClampNeg) kk.toInt.toNat kk.toInt.toNat)), .val (.int (0 : Int32))]) rfl k) ?_
                        show own_Out p e below _ T17 (mkF m 260 #[.val (.int x0), .val (.int x1), .val (.int x2), .val (.int x3), .val (.int kk), .val (.int rr), .val (.ref ob1), .val (.ref ob4), .val (.ref ob11), .val (.int (own_row gf gv ((rr * kk).toNatClampNeg) kk.toInt.toNat kk.toInt.toNat)), .val (.int (0 : Int32))] []) _ _ _
                        refine own_to (fun t k => XS.iload X17.here hx rfl (hb hby at_260) rfl k) ?_
                        show own_Out p e below _ T17 (mkF m 262 #[.val (.int x0), .val (.int x1), .val (.int x2), .val (.int x3), .val (.int kk), .val (.int rr), .val (.ref ob1), .val (.ref ob4), .val (.ref ob11), .val (.int (own_row gf gv ((rr * kk).toNatClampNeg) kk.toInt.toNat kk.toInt.toNat)), .val (.int (0 : Int32))] [(.int (own_row gf gv ((rr * kk).toNatClampNeg) kk.toInt.toNat kk.toInt.toNat))]) _ _ _
                        refine own_to (fun t k => XS.iload X17.here hx rfl (hb hby at_262) rfl k) ?_
                        show own_Out p e below _ T17 (mkF m 264 #[.val (.int x0), .val (.int x1), .val (.int x2), .val (.int x3), .val (.int kk), .val (.int rr), .val (.ref ob1), .val (.ref ob4), .val (.ref ob11), .val (.int (own_row gf gv ((rr * kk).toNatClampNeg) kk.toInt.toNat kk.toInt.toNat)), .val (.int (0 : Int32))] [(.int (0 : Int32)), (.int (own_row gf gv ((rr * kk).toNatClampNeg) kk.toInt.toNat kk.toInt.toNat))]) _ _ _
                        have hc264 : (own_row gf gv ((rr * kk).toNatClampNeg) kk.toInt.toNat kk.toInt.toNat) = (0 : Int32) := by rw [own_fin kk rr ob4 ob11 gf gv bk br, if_neg hc220, if_pos hc235]
                        refine own_to (fun t k => XS.icmpNo X17.here hx rfl (hb hby at_264) rfl (teq hc264).2 k) ?_
                        show own_Out p e below _ T17 (mkF m 267 #[.val (.int x0), .val (.int x1), .val (.int x2), .val (.int x3), .val (.int kk), .val (.int rr), .val (.ref ob1), .val (.ref ob4), .val (.ref ob11), .val (.int (own_row gf gv ((rr * kk).toNatClampNeg) kk.toInt.toNat kk.toInt.toNat)), .val (.int (0 : Int32))] []) _ _ _
                        refine own_to (fun t k => XS.iconst X17.here hx rfl (hb hby at_267) k) ?_
                        show own_Out p e below _ T17 (mkF m 268 #[.val (.int x0), .val (.int x1), .val (.int x2), .val (.int x3), .val (.int kk), .val (.int rr), .val (.ref ob1), .val (.ref ob4), .val (.ref ob11), .val (.int (own_row gf gv ((rr * kk).toNatClampNeg) kk.toInt.toNat kk.toInt.toNat)), .val (.int (0 : Int32))] [(.int (1 : Int32))]) _ _ _
                        refine own_to (fun t k => XS.goto X17.here hx rfl (pc0 := 268) (pc' := 272) rfl (hb hby at_268) (by decide) (by decide) k) ?_
                        show own_Out p e below _ T17 (mkF m 272 #[.val (.int x0), .val (.int x1), .val (.int x2), .val (.int x3), .val (.int kk), .val (.int rr), .val (.ref ob1), .val (.ref ob4), .val (.ref ob11), .val (.int (own_row gf gv ((rr * kk).toNatClampNeg) kk.toInt.toNat kk.toInt.toNat)), .val (.int (0 : Int32))] [(.int (1 : Int32))]) _ _ _
                        refine own_retVW X17 hS hk e17 hx hlk (w := .int (1 : Int32)) hret rfl (Or.inl ⟨rfl, by simp, _, rfl⟩) (hb hby at_272) (by decide) (by decide) ?_
                        rw [e17]
                        exact ⟨rfl, N17⟩
                      · refine own_to (fun t k => XS.ifNo X17.here hx rfl (hb hby at_235) rfl ((if0 _ _).trans (feq hc235).1) k) ?_
                        show own_Out p e below _ T17 (mkF m 238 #[.val (.int x0), .val (.int x1), .val (.int x2), .val (.int x3), .val (.int kk), .val (.int rr), .val (.ref ob1), .val (.ref ob4), .val (.ref ob11), .val (.int (own_row gf gv ((rr * kk).toNatClampNeg) kk.toInt.toNat kk.toInt.toNat)), .unset] []) _ _ _
                        refine own_to (fun t k => XS.iload X17.here hx rfl (hb hby at_238) rfl k) ?_
                        show own_Out p e below _ T17 (mkF m 240 #[.val (.int x0), .val (.int x1), .val (.int x2), .val (.int x3), .val (.int kk), .val (.int rr), .val (.ref ob1), .val (.ref ob4), .val (.ref ob11), .val (.int (own_row gf gv ((rr * kk).toNatClampNeg) kk.toInt.toNat kk.toInt.toNat)), .unset] [(.int kk)]) _ _ _
                        refine own_to (fun t k => XS.iconst X17.here hx rfl (hb hby at_240) k) ?_
                        show own_Out p e below _ T17 (mkF m 241 #[.val (.int x0), .val (.int x1), .val (.int x2), .val (.int x3), .val (.int kk), .val (.int rr), .val (.ref ob1), .val (.ref ob4), .val (.ref ob11), .val (.int (own_row gf gv ((rr * kk).toNatClampNeg) kk.toInt.toNat kk.toInt.toNat)), .unset] [(.int (2 : Int32)), (.int kk)]) _ _ _
                        refine own_to (fun t k => XS.iload X17.here hx rfl (hb hby at_241) rfl k) ?_
                        show own_Out p e below _ T17 (mkF m 243 #[.val (.int x0), .val (.int x1), .val (.int x2), .val (.int x3), .val (.int kk), .val (.int rr), .val (.ref ob1), .val (.ref ob4), .val (.ref ob11), .val (.int (own_row gf gv ((rr * kk).toNatClampNeg) kk.toInt.toNat kk.toInt.toNat)), .unset] [(.int rr), (.int (2 : Int32)), (.int kk)]) _ _ _
                        refine own_to (fun t k => XS.aload X17.here hx rfl (hb hby at_243) rfl rfl k) ?_
                        show own_Out p e below _ T17 (mkF m 245 #[.val (.int x0), .val (.int x1), .val (.int x2), .val (.int x3), .val (.int kk), .val (.int rr), .val (.ref ob1), .val (.ref ob4), .val (.ref ob11), .val (.int (own_row gf gv ((rr * kk).toNatClampNeg) kk.toInt.toNat kk.toInt.toNat)), .unset] [(.ref ob4), (.int rr), (.int (2 : Int32)), (.int kk)]) _ _ _
                        refine own_to (fun t k => XS.aload X17.here hx rfl (hb hby at_245) rfl rfl k) ?_
                        show own_Out p e below _ T17 (mkF m 247 #[.val (.int x0), .val (.int x1), .val (.int x2), .val (.int x3), .val (.int kk), .val (.int rr), .val (.ref ob1), .val (.ref ob4), .val (.ref ob11), .val (.int (own_row gf gv ((rr * kk).toNatClampNeg) kk.toInt.toNat kk.toInt.toNat)), .unset] [(.ref ob11), (.ref ob4), (.int rr), (.int (2 : Int32)), (.int kk)]) _ _ _
                        refine own_callS X17 hx hZ hown (argsL := [(.int kk), (.int (2 : Int32)), (.int rr), (.ref ob4), (.ref ob11)]) (rest := []) (hw _ (List.mem_of_getElem? (i := 44) rfl)) (hw _ (List.mem_of_getElem? (i := 45) rfl)) (hw _ (List.mem_of_getElem? (i := 46) rfl)) (hw _ (List.mem_of_getElem? (i := 47) rfl)) (by decide) (rm5 l Z a0 hw kk (2 : Int32) rr ob4 ob11 gf gv hh14 n0 Z0 A_ob4 A_ob11 bk br (by decide)) (by decide) (by decide) e17 rfl (by rw [hml]; rfl) (lenOf pd_3 rfl) rfl (W := 0) (by show 2 * 0 + _ ≤ _; exact Nat.le_of_eq rfl) (hb hby at_247) (by decide) (by decide) fun v18 T18 hh18 L18 X18 e18 hQ18 => ?_
                        obtain ⟨rfl, NL18, he18⟩ := hQ18
                        replace e18 := e18.trans he18
                        have N18 := Fr.app N17 NL18
                        show own_Out p e below _ T18 (mkF m 250 #[.val (.int x0), .val (.int x1), .val (.int x2), .val (.int x3), .val (.int kk), .val (.int rr), .val (.ref ob1), .val (.ref ob4), .val (.ref ob11), .val (.int (own_row gf gv ((rr * kk).toNatClampNeg) kk.toInt.toNat kk.toInt.toNat)), .unset] [(.int (R5 kk (2 : Int32) rr ob4 ob11 gf gv))]) _ _ _
                        by_cases hc250 : (R5 kk (2 : Int32) rr ob4 ob11 gf gv) = (0 : Int32)
                        · refine own_to (fun t k => XS.ifYes X18.here hx rfl (pc0 := 250) (pc' := 257) rfl (hb hby at_250) rfl ((if0 _ _).trans (teq hc250).1) (by decide) (by decide) k) ?_
                          show own_Out p e below _ T18 (mkF m 257 #[.val (.int x0), .val (.int x1), .val (.int x2), .val (.int x3), .val (.int kk), .val (.int rr), .val (.ref ob1), .val (.ref ob4), .val (.ref ob11), .val (.int (own_row gf gv ((rr * kk).toNatClampNeg) kk.toInt.toNat kk.toInt.toNat)), .unset] []) _ _ _
                          refine own_to (fun t k => XS.iconst X18.here hx rfl (hb hby at_257) k) ?_
                          show own_Out p e below _ T18 (mkF m 258 #[.val (.int x0), .val (.int x1), .val (.int x2), .val (.int x3), .val (.int kk), .val (.int rr), .val (.ref ob1), .val (.ref ob4), .val (.ref ob11), .val (.int (own_row gf gv ((rr * kk).toNatClampNeg) kk.toInt.toNat kk.toInt.toNat)), .unset] [(.int (0 : Int32))]) _ _ _
                          refine own_to (fun t k => XS.istore X18.here hx rfl (hb hby at_258) rfl (l' := #[.val (.int x0), .val (.int x1), .val (.int x2), .val (.int x3), .val (.int kk), .val (.int rr), .val (.ref ob1), .val (.ref ob4), .val (.ref ob11), .val (.int (own_row gf gv ((rr * kk).toNatClampNeg) kk.toInt.toNat kk.toInt.toNat)), .val (.int (0 : Int32))]) rfl k) ?_
                          show own_Out p e below _ T18 (mkF m 260 #[.val (.int x0), .val (.int x1), .val (.int x2), .val (.int x3), .val (.int kk), .val (.int rr), .val (.ref ob1), .val (.ref ob4), .val (.ref ob11), .val (.int (own_row gf gv ((rr * kk).toNatClampNeg) kk.toInt.toNat kk.toInt.toNat)), .val (.int (0 : Int32))] []) _ _ _
                          refine own_to (fun t k => XS.iload X18.here hx rfl (hb hby at_260) rfl k) ?_
                          show own_Out p e below _ T18 (mkF m 262 #[.val (.int x0), .val (.int x1), .val (.int x2), .val (.int x3), .val (.int kk), .val (.int rr), .val (.ref ob1), .val (.ref ob4), .val (.ref ob11), .val (.int (own_row gf gv ((rr * kk).toNatClampNeg) kk.toInt.toNat kk.toInt.toNat)), .val (.int (0 : Int32))] [(.int (own_row gf gv ((rr * kk).toNatClampNeg) kk.toInt.toNat kk.toInt.toNat))]) _ _ _
                          refine own_to (fun t k => XS.iload X18.here hx rfl (hb hby at_262) rfl k) ?_
                          show own_Out p e below _ T18 (mkF m 264 #[.val (.int x0), .val (.int x1), .val (.int x2), .val (.int x3), .val (.int kk), .val (.int rr), .val (.ref ob1), .val (.ref ob4), .val (.ref ob11), .val (.int (own_row gf gv ((rr * kk).toNatClampNeg) kk.toInt.toNat kk.toInt.toNat)), .val (.int (0 : Int32))] [(.int (0 : Int32)), (.int (own_row gf gv ((rr * kk).toNatClampNeg) kk.toInt.toNat kk.toInt.toNat))]) _ _ _
                          have hc264 : (own_row gf gv ((rr * kk).toNatClampNeg) kk.toInt.toNat kk.toInt.toNat) = (0 : Int32) := by rw [own_fin kk rr ob4 ob11 gf gv bk br, if_neg hc220, if_neg hc235, if_pos hc250]
                          refine own_to (fun t k => XS.icmpNo X18.here hx rfl (hb hby at_264) rfl (teq hc264).2 k) ?_
                          show own_Out p e below _ T18 (mkF m 267 #[.val (.int x0), .val (.int x1), .val (.int x2), .val (.int x3), .val (.int kk), .val (.int rr), .val (.ref ob1), .val (.ref ob4), .val (.ref ob11), .val (.int (own_row gf gv ((rr * kk).toNatClampNeg) kk.toInt.toNat kk.toInt.toNat)), .val (.int (0 : Int32))] []) _ _ _
                          refine own_to (fun t k => XS.iconst X18.here hx rfl (hb hby at_267) k) ?_
                          show own_Out p e below _ T18 (mkF m 268 #[.val (.int x0), .val (.int x1), .val (.int x2), .val (.int x3), .val (.int kk), .val (.int rr), .val (.ref ob1), .val (.ref ob4), .val (.ref ob11), .val (.int (own_row gf gv ((rr * kk).toNatClampNeg) kk.toInt.toNat kk.toInt.toNat)), .val (.int (0 : Int32))] [(.int (1 : Int32))]) _ _ _
                          refine own_to (fun t k => XS.goto X18.here hx rfl (pc0 := 268) (pc' := 272) rfl (hb hby at_268) (by decide) (by decide) k) ?_
                          show own_Out p e below _ T18 (mkF m 272 #[.val (.int x0), .val (.int x1), .val (.int x2), .val (.int x3), .val (.int kk), .val (.int rr), .val (.ref ob1), .val (.ref ob4), .val (.ref ob11), .val (.int (own_row gf gv ((rr * kk).toNatClampNeg) kk.toInt.toNat kk.toInt.toNat)), .val (.int (0 : Int32))] [(.int (1 : Int32))]) _ _ _
                          refine own_retVW X18 hS hk e18 hx hlk (w := .int (1 : Int32)) hret rfl (Or.inl ⟨rfl, by simp, _, rfl⟩) (hb hby at_272) (by decide) (by decide) ?_
                          rw [e18]
                          exact ⟨rfl, N18⟩
                        · refine own_to (fun t k => XS.ifNo X18.here hx rfl (hb hby at_250) rfl ((if0 _ _).trans (feq hc250).1) k) ?_
                          show own_Out p e below _ T18 (mkF m 253 #[.val (.int x0), .val (.int x1), .val (.int x2), .val (.int x3), .val (.int kk), .val (.int rr), .val (.ref ob1), .val (.ref ob4), .val (.ref ob11), .val (.int (own_row gf gv ((rr * kk).toNatClampNeg) kk.toInt.toNat kk.toInt.toNat)), .unset] []) _ _ _
                          refine own_to (fun t k => XS.iconst X18.here hx rfl (hb hby at_253) k) ?_
                          show own_Out p e below _ T18 (mkF m 254 #[.val (.int x0), .val (.int x1), .val (.int x2), .val (.int x3), .val (.int kk), .val (.int rr), .val (.ref ob1), .val (.ref ob4), .val (.ref ob11), .val (.int (own_row gf gv ((rr * kk).toNatClampNeg) kk.toInt.toNat kk.toInt.toNat)), .unset] [(.int (1 : Int32))]) _ _ _
                          refine own_to (fun t k => XS.goto X18.here hx rfl (pc0 := 254) (pc' := 258) rfl (hb hby at_254) (by decide) (by decide) k) ?_
                          show own_Out p e below _ T18 (mkF m 258 #[.val (.int x0), .val (.int x1), .val (.int x2), .val (.int x3), .val (.int kk), .val (.int rr), .val (.ref ob1), .val (.ref ob4), .val (.ref ob11), .val (.int (own_row gf gv ((rr * kk).toNatClampNeg) kk.toInt.toNat kk.toInt.toNat)), .unset] [(.int (1 : Int32))]) _ _ _
                          refine own_to (fun t k => XS.istore X18.here hx rfl (hb hby at_258) rfl (l' := #[.val (.int x0), .val (.int x1), .val (.int x2), .val (.int x3), .val (.int kk), .val (.int rr), .val (.ref ob1), .val (.ref ob4), .val (.ref ob11), .val (.int (own_row gf gv ((rr * kk).toNatClampNeg) kk.toInt.toNat kk.toInt.toNat)), .val (.int (1 : Int32))]) rfl k) ?_
                          show own_Out p e below _ T18 (mkF m 260 #[.val (.int x0), .val (.int x1), .val (.int x2), .val (.int x3), .val (.int kk), .val (.int rr), .val (.ref ob1), .val (.ref ob4), .val (.ref ob11), .val (.int (own_row gf gv ((rr * kk).toNatClampNeg) kk.toInt.toNat kk.toInt.toNat)), .val (.int (1 : Int32))] []) _ _ _
                          refine own_to (fun t k => XS.iload X18.here hx rfl (hb hby at_260) rfl k) ?_
                          show own_Out p e below _ T18 (mkF m 262 #[.val (.int x0), .val (.int x1), .val (.int x2), .val (.int x3), .val (.int kk), .val (.int rr), .val (.ref ob1), .val (.ref ob4), .val (.ref ob11), .val (.int (own_row gf gv ((rr * kk).toNatClampNeg) kk.toInt.toNat kk.toInt.toNat)), .val (.int (1 : Int32))] [(.int (own_row gf gv ((rr * kk).toNatClampNeg) kk.toInt.toNat kk.toInt.toNat))]) _ _ _
                          refine own_to (fun t k => XS.iload X18.here hx rfl (hb hby at_262) rfl k) ?_
                          show own_Out p e below _ T18 (mkF m 264 #[.val (.int x0), .val (.int x1), .val (.int x2), .val (.int x3), .val (.int kk), .val (.int rr), .val (.ref ob1), .val (.ref ob4), .val (.ref ob11), .val (.int (own_row gf gv ((rr * kk).toNatClampNeg) kk.toInt.toNat kk.toInt.toNat)), .val (.int (1 : Int32))] [(.int (1 : Int32)), (.int (own_row gf gv ((rr * kk).toNatClampNeg) kk.toInt.toNat kk.toInt.toNat))]) _ _ _
                          have hc264 : (own_row gf gv ((rr * kk).toNatClampNeg) kk.toInt.toNat kk.toInt.toNat) = (1 : Int32) := by rw [own_fin kk rr ob4 ob11 gf gv bk br, if_neg hc220, if_neg hc235, if_neg hc250]
                          refine own_to (fun t k => XS.icmpNo X18.here hx rfl (hb hby at_264) rfl (teq hc264).2 k) ?_
                          show own_Out p e below _ T18 (mkF m 267 #[.val (.int x0), .val (.int x1), .val (.int x2), .val (.int x3), .val (.int kk), .val (.int rr), .val (.ref ob1), .val (.ref ob4), .val (.ref ob11), .val (.int (own_row gf gv ((rr * kk).toNatClampNeg) kk.toInt.toNat kk.toInt.toNat)), .val (.int (1 : Int32))] []) _ _ _
                          refine own_to (fun t k => XS.iconst X18.here hx rfl (hb hby at_267) k) ?_
                          show own_Out p e below _ T18 (mkF m 268 #[.val (.int x0), .val (.int x1), .val (.int x2), .val (.int x3), .val (.int kk), .val (.int rr), .val (.ref ob1), .val (.ref ob4), .val (.ref ob11), .val (.int (own_row gf gv ((rr * kk).toNatClampNeg) kk.toInt.toNat kk.toInt.toNat)), .val (.int (1 : Int32))] [(.int (1 : Int32))]) _ _ _
                          refine own_to (fun t k => XS.goto X18.here hx rfl (pc0 := 268) (pc' := 272) rfl (hb hby at_268) (by decide) (by decide) k) ?_
                          show own_Out p e below _ T18 (mkF m 272 #[.val (.int x0), .val (.int x1), .val (.int x2), .val (.int x3), .val (.int kk), .val (.int rr), .val (.ref ob1), .val (.ref ob4), .val (.ref ob11), .val (.int (own_row gf gv ((rr * kk).toNatClampNeg) kk.toInt.toNat kk.toInt.toNat)), .val (.int (1 : Int32))] [(.int (1 : Int32))]) _ _ _
                          refine own_retVW X18 hS hk e18 hx hlk (w := .int (1 : Int32)) hret rfl (Or.inl ⟨rfl, by simp, _, rfl⟩) (hb hby at_272) (by decide) (by decide) ?_
                          rw [e18]
                          exact ⟨rfl, N18⟩
                  by_cases hc186 : (((x1.toUInt32 >>> ((2 : Int32) &&& 31).toUInt32).toInt32) &&& (1 : Int32)) = (0 : Int32)
                  · refine own_to (fun t k => XS.ifYes X13.here hx rfl (pc0 := 186) (pc' := 193) rfl (hb hby at_186) rfl ((if0 _ _).trans (teq hc186).1) (by decide) (by decide) k) ?_
                    show own_Out p e below _ T13 (mkF m 193 #[.val (.int x0), .val (.int x1), .val (.int x2), .val (.int x3), .val (.int kk), .val (.int rr), .val (.ref ob1), .val (.ref ob4), .val (.ref ob11), .unset, .unset] [(.int (2 : Int32)), (.ref ob11)]) _ _ _
                    refine own_to (fun t k => XS.iconst X13.here hx rfl (hb hby at_193) k) ?_
                    exact J194 (0 : Int32)
                  · refine own_to (fun t k => XS.ifNo X13.here hx rfl (hb hby at_186) rfl ((if0 _ _).trans (feq hc186).1) k) ?_
                    show own_Out p e below _ T13 (mkF m 189 #[.val (.int x0), .val (.int x1), .val (.int x2), .val (.int x3), .val (.int kk), .val (.int rr), .val (.ref ob1), .val (.ref ob4), .val (.ref ob11), .unset, .unset] [(.int (2 : Int32)), (.ref ob11)]) _ _ _
                    refine own_to (fun t k => XS.iconst X13.here hx rfl (hb hby at_189) k) ?_
                    show own_Out p e below _ T13 (mkF m 190 #[.val (.int x0), .val (.int x1), .val (.int x2), .val (.int x3), .val (.int kk), .val (.int rr), .val (.ref ob1), .val (.ref ob4), .val (.ref ob11), .unset, .unset] [(.int (1 : Int32)), (.int (2 : Int32)), (.ref ob11)]) _ _ _
                    refine own_to (fun t k => XS.goto X13.here hx rfl (pc0 := 190) (pc' := 194) rfl (hb hby at_190) (by decide) (by decide) k) ?_
                    exact J194 (1 : Int32)
                by_cases hc169 : (((x1.toUInt32 >>> ((1 : Int32) &&& 31).toUInt32).toInt32) &&& (1 : Int32)) = (0 : Int32)
                · refine own_to (fun t k => XS.ifYes X12.here hx rfl (pc0 := 169) (pc' := 176) rfl (hb hby at_169) rfl ((if0 _ _).trans (teq hc169).1) (by decide) (by decide) k) ?_
                  show own_Out p e below _ T12 (mkF m 176 #[.val (.int x0), .val (.int x1), .val (.int x2), .val (.int x3), .val (.int kk), .val (.int rr), .val (.ref ob1), .val (.ref ob4), .val (.ref ob11), .unset, .unset] [(.int (1 : Int32)), (.ref ob11)]) _ _ _
                  refine own_to (fun t k => XS.iconst X12.here hx rfl (hb hby at_176) k) ?_
                  exact J177 (0 : Int32)
                · refine own_to (fun t k => XS.ifNo X12.here hx rfl (hb hby at_169) rfl ((if0 _ _).trans (feq hc169).1) k) ?_
                  show own_Out p e below _ T12 (mkF m 172 #[.val (.int x0), .val (.int x1), .val (.int x2), .val (.int x3), .val (.int kk), .val (.int rr), .val (.ref ob1), .val (.ref ob4), .val (.ref ob11), .unset, .unset] [(.int (1 : Int32)), (.ref ob11)]) _ _ _
                  refine own_to (fun t k => XS.iconst X12.here hx rfl (hb hby at_172) k) ?_
                  show own_Out p e below _ T12 (mkF m 173 #[.val (.int x0), .val (.int x1), .val (.int x2), .val (.int x3), .val (.int kk), .val (.int rr), .val (.ref ob1), .val (.ref ob4), .val (.ref ob11), .unset, .unset] [(.int (1 : Int32)), (.int (1 : Int32)), (.ref ob11)]) _ _ _
                  refine own_to (fun t k => XS.goto X12.here hx rfl (pc0 := 173) (pc' := 177) rfl (hb hby at_173) (by decide) (by decide) k) ?_
                  exact J177 (1 : Int32)
              by_cases hc152 : (x1 &&& (1 : Int32)) = (0 : Int32)
              · refine own_to (fun t k => XS.ifYes X11.here hx rfl (pc0 := 152) (pc' := 159) rfl (hb hby at_152) rfl ((if0 _ _).trans (teq hc152).1) (by decide) (by decide) k) ?_
                show own_Out p e below _ T11 (mkF m 159 #[.val (.int x0), .val (.int x1), .val (.int x2), .val (.int x3), .val (.int kk), .val (.int rr), .val (.ref ob1), .val (.ref ob4), .val (.ref ob11), .unset, .unset] [(.int (0 : Int32)), (.ref ob11)]) _ _ _
                refine own_to (fun t k => XS.iconst X11.here hx rfl (hb hby at_159) k) ?_
                exact J160 (0 : Int32)
              · refine own_to (fun t k => XS.ifNo X11.here hx rfl (hb hby at_152) rfl ((if0 _ _).trans (feq hc152).1) k) ?_
                show own_Out p e below _ T11 (mkF m 155 #[.val (.int x0), .val (.int x1), .val (.int x2), .val (.int x3), .val (.int kk), .val (.int rr), .val (.ref ob1), .val (.ref ob4), .val (.ref ob11), .unset, .unset] [(.int (0 : Int32)), (.ref ob11)]) _ _ _
                refine own_to (fun t k => XS.iconst X11.here hx rfl (hb hby at_155) k) ?_
                show own_Out p e below _ T11 (mkF m 156 #[.val (.int x0), .val (.int x1), .val (.int x2), .val (.int x3), .val (.int kk), .val (.int rr), .val (.ref ob1), .val (.ref ob4), .val (.ref ob11), .unset, .unset] [(.int (1 : Int32)), (.int (0 : Int32)), (.ref ob11)]) _ _ _
                refine own_to (fun t k => XS.goto X11.here hx rfl (pc0 := 156) (pc' := 160) rfl (hb hby at_156) (by decide) (by decide) k) ?_
                exact J160 (1 : Int32)
            by_cases hc132 : (((x0.toUInt32 >>> ((5 : Int32) &&& 31).toUInt32).toInt32) &&& (1 : Int32)) = (0 : Int32)
            · refine own_to (fun t k => XS.ifYes X9.here hx rfl (pc0 := 132) (pc' := 139) rfl (hb hby at_132) rfl ((if0 _ _).trans (teq hc132).1) (by decide) (by decide) k) ?_
              show own_Out p e below _ T9 (mkF m 139 #[.val (.int x0), .val (.int x1), .val (.int x2), .val (.int x3), .val (.int kk), .val (.int rr), .val (.ref ob1), .val (.ref ob4), .unset, .unset, .unset] [(.int (5 : Int32)), (.ref ob4)]) _ _ _
              refine own_to (fun t k => XS.iconst X9.here hx rfl (hb hby at_139) k) ?_
              exact J140 (0 : Int32)
            · refine own_to (fun t k => XS.ifNo X9.here hx rfl (hb hby at_132) rfl ((if0 _ _).trans (feq hc132).1) k) ?_
              show own_Out p e below _ T9 (mkF m 135 #[.val (.int x0), .val (.int x1), .val (.int x2), .val (.int x3), .val (.int kk), .val (.int rr), .val (.ref ob1), .val (.ref ob4), .unset, .unset, .unset] [(.int (5 : Int32)), (.ref ob4)]) _ _ _
              refine own_to (fun t k => XS.iconst X9.here hx rfl (hb hby at_135) k) ?_
              show own_Out p e below _ T9 (mkF m 136 #[.val (.int x0), .val (.int x1), .val (.int x2), .val (.int x3), .val (.int kk), .val (.int rr), .val (.ref ob1), .val (.ref ob4), .unset, .unset, .unset] [(.int (1 : Int32)), (.int (5 : Int32)), (.ref ob4)]) _ _ _
              refine own_to (fun t k => XS.goto X9.here hx rfl (pc0 := 136) (pc' := 140) rfl (hb hby at_136) (by decide) (by decide) k) ?_
              exact J140 (1 : Int32)
          by_cases hc115 : (((x0.toUInt32 >>> ((4 : Int32) &&& 31).toUInt32).toInt32) &&& (1 : Int32)) = (0 : Int32)
          · refine own_to (fun t k => XS.ifYes X8.here hx rfl (pc0 := 115) (pc' := 122) rfl (hb hby at_115) rfl ((if0 _ _).trans (teq hc115).1) (by decide) (by decide) k) ?_
            show own_Out p e below _ T8 (mkF m 122 #[.val (.int x0), .val (.int x1), .val (.int x2), .val (.int x3), .val (.int kk), .val (.int rr), .val (.ref ob1), .val (.ref ob4), .unset, .unset, .unset] [(.int (4 : Int32)), (.ref ob4)]) _ _ _
            refine own_to (fun t k => XS.iconst X8.here hx rfl (hb hby at_122) k) ?_
            exact J123 (0 : Int32)
          · refine own_to (fun t k => XS.ifNo X8.here hx rfl (hb hby at_115) rfl ((if0 _ _).trans (feq hc115).1) k) ?_
            show own_Out p e below _ T8 (mkF m 118 #[.val (.int x0), .val (.int x1), .val (.int x2), .val (.int x3), .val (.int kk), .val (.int rr), .val (.ref ob1), .val (.ref ob4), .unset, .unset, .unset] [(.int (4 : Int32)), (.ref ob4)]) _ _ _
            refine own_to (fun t k => XS.iconst X8.here hx rfl (hb hby at_118) k) ?_
            show own_Out p e below _ T8 (mkF m 119 #[.val (.int x0), .val (.int x1), .val (.int x2), .val (.int x3), .val (.int kk), .val (.int rr), .val (.ref ob1), .val (.ref ob4), .unset, .unset, .unset] [(.int (1 : Int32)), (.int (4 : Int32)), (.ref ob4)]) _ _ _
            refine own_to (fun t k => XS.goto X8.here hx rfl (pc0 := 119) (pc' := 123) rfl (hb hby at_119) (by decide) (by decide) k) ?_
            exact J123 (1 : Int32)
        by_cases hc98 : (((x0.toUInt32 >>> ((3 : Int32) &&& 31).toUInt32).toInt32) &&& (1 : Int32)) = (0 : Int32)
        · refine own_to (fun t k => XS.ifYes X7.here hx rfl (pc0 := 98) (pc' := 105) rfl (hb hby at_98) rfl ((if0 _ _).trans (teq hc98).1) (by decide) (by decide) k) ?_
          show own_Out p e below _ T7 (mkF m 105 #[.val (.int x0), .val (.int x1), .val (.int x2), .val (.int x3), .val (.int kk), .val (.int rr), .val (.ref ob1), .val (.ref ob4), .unset, .unset, .unset] [(.int (3 : Int32)), (.ref ob4)]) _ _ _
          refine own_to (fun t k => XS.iconst X7.here hx rfl (hb hby at_105) k) ?_
          exact J106 (0 : Int32)
        · refine own_to (fun t k => XS.ifNo X7.here hx rfl (hb hby at_98) rfl ((if0 _ _).trans (feq hc98).1) k) ?_
          show own_Out p e below _ T7 (mkF m 101 #[.val (.int x0), .val (.int x1), .val (.int x2), .val (.int x3), .val (.int kk), .val (.int rr), .val (.ref ob1), .val (.ref ob4), .unset, .unset, .unset] [(.int (3 : Int32)), (.ref ob4)]) _ _ _
          refine own_to (fun t k => XS.iconst X7.here hx rfl (hb hby at_101) k) ?_
          show own_Out p e below _ T7 (mkF m 102 #[.val (.int x0), .val (.int x1), .val (.int x2), .val (.int x3), .val (.int kk), .val (.int rr), .val (.ref ob1), .val (.ref ob4), .unset, .unset, .unset] [(.int (1 : Int32)), (.int (3 : Int32)), (.ref ob4)]) _ _ _
          refine own_to (fun t k => XS.goto X7.here hx rfl (pc0 := 102) (pc' := 106) rfl (hb hby at_102) (by decide) (by decide) k) ?_
          exact J106 (1 : Int32)
      by_cases hc81 : (((x0.toUInt32 >>> ((2 : Int32) &&& 31).toUInt32).toInt32) &&& (1 : Int32)) = (0 : Int32)
      · refine own_to (fun t k => XS.ifYes X6.here hx rfl (pc0 := 81) (pc' := 88) rfl (hb hby at_81) rfl ((if0 _ _).trans (teq hc81).1) (by decide) (by decide) k) ?_
        show own_Out p e below _ T6 (mkF m 88 #[.val (.int x0), .val (.int x1), .val (.int x2), .val (.int x3), .val (.int kk), .val (.int rr), .val (.ref ob1), .val (.ref ob4), .unset, .unset, .unset] [(.int (2 : Int32)), (.ref ob4)]) _ _ _
        refine own_to (fun t k => XS.iconst X6.here hx rfl (hb hby at_88) k) ?_
        exact J89 (0 : Int32)
      · refine own_to (fun t k => XS.ifNo X6.here hx rfl (hb hby at_81) rfl ((if0 _ _).trans (feq hc81).1) k) ?_
        show own_Out p e below _ T6 (mkF m 84 #[.val (.int x0), .val (.int x1), .val (.int x2), .val (.int x3), .val (.int kk), .val (.int rr), .val (.ref ob1), .val (.ref ob4), .unset, .unset, .unset] [(.int (2 : Int32)), (.ref ob4)]) _ _ _
        refine own_to (fun t k => XS.iconst X6.here hx rfl (hb hby at_84) k) ?_
        show own_Out p e below _ T6 (mkF m 85 #[.val (.int x0), .val (.int x1), .val (.int x2), .val (.int x3), .val (.int kk), .val (.int rr), .val (.ref ob1), .val (.ref ob4), .unset, .unset, .unset] [(.int (1 : Int32)), (.int (2 : Int32)), (.ref ob4)]) _ _ _
        refine own_to (fun t k => XS.goto X6.here hx rfl (pc0 := 85) (pc' := 89) rfl (hb hby at_85) (by decide) (by decide) k) ?_
        exact J89 (1 : Int32)
    by_cases hc64 : (((x0.toUInt32 >>> ((1 : Int32) &&& 31).toUInt32).toInt32) &&& (1 : Int32)) = (0 : Int32)
    · refine own_to (fun t k => XS.ifYes X5.here hx rfl (pc0 := 64) (pc' := 71) rfl (hb hby at_64) rfl ((if0 _ _).trans (teq hc64).1) (by decide) (by decide) k) ?_
      show own_Out p e below _ T5 (mkF m 71 #[.val (.int x0), .val (.int x1), .val (.int x2), .val (.int x3), .val (.int kk), .val (.int rr), .val (.ref ob1), .val (.ref ob4), .unset, .unset, .unset] [(.int (1 : Int32)), (.ref ob4)]) _ _ _
      refine own_to (fun t k => XS.iconst X5.here hx rfl (hb hby at_71) k) ?_
      exact J72 (0 : Int32)
    · refine own_to (fun t k => XS.ifNo X5.here hx rfl (hb hby at_64) rfl ((if0 _ _).trans (feq hc64).1) k) ?_
      show own_Out p e below _ T5 (mkF m 67 #[.val (.int x0), .val (.int x1), .val (.int x2), .val (.int x3), .val (.int kk), .val (.int rr), .val (.ref ob1), .val (.ref ob4), .unset, .unset, .unset] [(.int (1 : Int32)), (.ref ob4)]) _ _ _
      refine own_to (fun t k => XS.iconst X5.here hx rfl (hb hby at_67) k) ?_
      show own_Out p e below _ T5 (mkF m 68 #[.val (.int x0), .val (.int x1), .val (.int x2), .val (.int x3), .val (.int kk), .val (.int rr), .val (.ref ob1), .val (.ref ob4), .unset, .unset, .unset] [(.int (1 : Int32)), (.int (1 : Int32)), (.ref ob4)]) _ _ _
      refine own_to (fun t k => XS.goto X5.here hx rfl (pc0 := 68) (pc' := 72) rfl (hb hby at_68) (by decide) (by decide) k) ?_
      exact J72 (1 : Int32)
  by_cases hc47 : (x0 &&& (1 : Int32)) = (0 : Int32)
  · refine own_to (fun t k => XS.ifYes X4.here hx rfl (pc0 := 47) (pc' := 54) rfl (hb hby at_47) rfl ((if0 _ _).trans (teq hc47).1) (by decide) (by decide) k) ?_
    show own_Out p e below _ T4 (mkF m 54 #[.val (.int x0), .val (.int x1), .val (.int x2), .val (.int x3), .val (.int kk), .val (.int rr), .val (.ref ob1), .val (.ref ob4), .unset, .unset, .unset] [(.int (0 : Int32)), (.ref ob4)]) _ _ _
    refine own_to (fun t k => XS.iconst X4.here hx rfl (hb hby at_54) k) ?_
    exact J55 (0 : Int32)
  · refine own_to (fun t k => XS.ifNo X4.here hx rfl (hb hby at_47) rfl ((if0 _ _).trans (feq hc47).1) k) ?_
    show own_Out p e below _ T4 (mkF m 50 #[.val (.int x0), .val (.int x1), .val (.int x2), .val (.int x3), .val (.int kk), .val (.int rr), .val (.ref ob1), .val (.ref ob4), .unset, .unset, .unset] [(.int (0 : Int32)), (.ref ob4)]) _ _ _
    refine own_to (fun t k => XS.iconst X4.here hx rfl (hb hby at_50) k) ?_
    show own_Out p e below _ T4 (mkF m 51 #[.val (.int x0), .val (.int x1), .val (.int x2), .val (.int x3), .val (.int kk), .val (.int rr), .val (.ref ob1), .val (.ref ob4), .unset, .unset, .unset] [(.int (1 : Int32)), (.int (0 : Int32)), (.ref ob4)]) _ _ _
    refine own_to (fun t k => XS.goto X4.here hx rfl (pc0 := 51) (pc' := 55) rfl (hb hby at_51) (by decide) (by decide) k) ?_
    exact J55 (1 : Int32)
set_option maxRecDepth 65536 in
set_option maxHeartbeats 40000000 in
theorem comes_1 {Post : Tables → Env → Array Value → State → Outcome → State → Prop} (hpost : ∀ tb e args s v u, (limb_1_1.after args s (.returned v) u = true ∧ limb_1_2.after args s (.returned v) u = true ∧ True) → ReturnedEndW s (.returned v) u (Jvm.fieldLocs frame_1_writes args s ++ Jvm.arrayLocs frame_1_arrays args s ++ Jvm.staticLocs frame_1_statics s) 16 1152 → Post tb e args s (.returned v) u) :
    ArmFor flags0 classFile x code maxLocals ret World_1 tables_1 room_1 Calls_1 rest_1 Pre_1 Post := by
  intro l hfl _ _ p e ha hc hk s m args below hf hA hF happ hP
  obtain ⟨hcalls, hrest, hpre⟩ := hP
  obtain ⟨-, -, -, hnamed, -, -, -, hat⟩ := (Spec.applies_iff hf).mp happ
  obtain ⟨hg, hn⟩ := and_e (Cond.before_iff.mp (show (Jvm.Cond.and given_1 narrow_1).before args s = true from hpre))
  obtain ⟨gg2, gg3⟩ := and_e hg
  obtain ⟨gg4, gg5⟩ := and_e gg3
  obtain ⟨gg6, gg7⟩ := and_e gg5
  obtain ⟨gg8, gg9⟩ := and_e gg7
  obtain ⟨w0, w1, w2, w3, rfl⟩ : ∃ w0 w1 w2 w3 : Value, args = #[w0, w1, w2, w3] := by
    have hs : args.size = 4 := by simpa [Cond.value, given_1] using gg2
    obtain ⟨L⟩ := args
    match L, hs with
    | [w0, w1, w2, w3], _ => exact ⟨w0, w1, w2, w3, rfl⟩
  have hw := fun d (hd : d ∈ tables_1) => atoms_spec (ws := Jvm.Cond.code x code maxLocals ret :: tables_1) hat d (List.mem_cons_of_mem _ hd)
  have hfit : Fit s := fun {y c} hc i hi => by
    obtain ⟨ha, rfl⟩ := Array.getElem?_eq_some_iff.mp hc
    have q := List.all_eq_true.mp ((Array.all_eq_true_iff_forall_mem.mp hF) _ (Array.getElem_mem ha)) i (List.mem_range.mpr hi)
    simpa [Array.getElem?_eq_getElem hi] using q
  obtain ⟨i0, ei0⟩ := is_v gg4
  obtain rfl : w0 = (.int i0) := Option.some.inj ei0
  obtain ⟨i1, ei1⟩ := is_v gg6
  obtain rfl : w1 = (.int i1) := Option.some.inj ei1
  obtain ⟨i2, ei2⟩ := is_v gg8
  obtain rfl : w2 = (.int i2) := Option.some.inj ei2
  obtain ⟨i3, ei3⟩ := is_v gg9
  obtain rfl : w3 = (.int i3) := Option.some.inj ei3
  obtain ⟨n, o, h1, h2, h3, _, L, rfl, ⟨rfl, N⟩, hq⟩ := rm0 l s _ hw i0 i1 i2 i3 s.heap s.heap.size (Nat.le_refl _) tables_1 p e ha hc hk s m _ below hf ((Spec.applies_iff_loose hf).mp happ).1 ⟨rfl, State.Warmed39.refl s, rfl⟩ trivial
  refine ⟨n, _, h1, h2, h3, hpost _ _ _ _ _ _ ⟨Cond.after_iff.mpr rfl, Cond.after_iff.mpr (eq_i res_at (Term.int_eval (1)) rfl), trivial⟩ ⟨hq.1, hq.2.1, hq.2.2.1, (hq.2.2.2.sift fun y hy => Or.inr (N y hy)).mono (by decide) (by decide)⟩⟩
theorem main_1_1 : Claimed_1_1 := comes_1 fun _ _ _ _ _ _ h hF => ⟨h.1, hF⟩
theorem main_1_2 : Claimed_1_2 := comes_1 fun _ _ _ _ _ _ h hF => ⟨h.2.1, hF⟩
end Jvm.Pilot.@@N@@
namespace Jvm.Pilot.@@N@@
open Jvm Jvm.ClassFile Sem Op Lib Jvm.Free Jvm.Stand Jvm.Pilot.@@N@@.Jvm.D
/-! MADE BY PROGRAM (witnessworld.py) out of the Statement's table words and the real class files: 17 classes; the members and pool entries that the words name. The judged class is class 1, her method 2. -/
namespace start1
open Jvm.ClassFile
def u (s : String) : CpInfo := .utf8 (stringToUtf16 s)
/-- a pool by its gaps: so many unusable entries, then the entry; so many at the end -/
def gap : Nat → List CpInfo → List CpInfo
  | 0, r => r
  | n + 1, r => .unusable :: gap n r
def poolList (es : List (Nat × CpInfo)) (last : Nat) : List CpInfo := es.foldr (fun e r => gap e.1 (e.2 :: r)) (gap last [])
def pool (es : List (Nat × CpInfo)) (last : Nat) : Array CpInfo := ⟨poolList es last⟩
def fileOf (pool : Array CpInfo) (this : Nat) (attrs : Array Attribute := #[]) (ms : Array MethodInfo := #[]) (fl : Nat := 33) (sup : Nat := 0) (ifs : Array Nat := #[]) (fds : Array FieldInfo := #[]) : ClassFile where
  minorVersion := 0
  majorVersion := 65
  constantPool := pool
  accessFlags := fl
  thisClass := this
  superClass := sup
  interfaces := ifs
  fields := fds
  methods := ms
  attributes := attrs
def plain (name : String) (sup : Option ClassId) : Class where
  name := name
  kind := .ordinary
  loader := none
  accessFlags := 33
  super := sup
  interfaces := #[]
  cf := none
  fields := #[]
  methods := #[]
  instanceTypes := #[]
  staticTypes := #[]
  resolved := #[]
  callSites := []
  init := .initialized
  statics := none
  mirror := none

def pool0 : Array CpInfo := pool [(5, u "<init>"), (0, u "()V"), (1, .class_ 10), (1, u "java/lang/Object")] 113

def k0c0 : Code := { maxStack := 0, maxLocals := 1, code := object_method_1_code, exceptionTable := #[], attributes := #[] }
def k0m0 : Method := { name := "<init>", desc := "()V", sig := { parameters := [], returnType := none }, accessFlags := 1, code := some k0c0 }
/-- java/lang/Object -/
def k0 : Class := { plain "java/lang/Object" none with
  accessFlags := 33
  interfaces := #[]
  cf := some (fileOf pool0 8 #[] #[{ accessFlags := 1, nameIndex := 5, descriptorIndex := 6, attributes := #[] }] 33 0 #[] #[])
  fields := #[]
  methods := #[k0m0]
  instanceTypes := #[]
  staticTypes := #[]
  resolved := Array.replicate 124 none
  statics := none }

def pool1 : Array CpInfo := pool [(2, .class_ 4), (1, u "java/lang/Object"), (0, u "<init>"), (0, u "()V"), (0, .class_ 8), (0, u "com/example/mat44/mat44/Layout"), (0, .string 10), (0, u "X"), (0, .methodref 7 12), (0, .nameAndType 5 13), (0, u "(Ljava/lang/String;IIIIIII)V"), (0, .methodref 7 15), (0, .nameAndType 16 17), (0, u "isRowTrue"), (0, u "([ZI[Z)Z"), (0, .methodref 19 20), (0, .class_ 21), (0, .nameAndType 22 23), (0, u "com/example/mat44/mat44/LayoutIsRowTruePinLaw"), (0, u "ok"), (0, u "(III[Z[Z)Z"), (3, u "law"), (0, u "(IIII)Z")] 4

def k1m0 : Method := { name := "<init>", desc := "()V", sig := { parameters := [], returnType := none }, accessFlags := 2, code := none }
def k1c1 : Code := { maxStack := 3, maxLocals := 5, code := method_2_code, exceptionTable := #[], attributes := #[] }
def k1m1 : Method := { name := "ok", desc := "(III[Z[Z)Z", sig := { parameters := [.int, .int, .int, (.array .boolean), (.array .boolean)], returnType := some .boolean }, accessFlags := 10, code := some k1c1 }
def k1c2 : Code := { maxStack := 10, maxLocals := 11, code := code, exceptionTable := #[], attributes := #[] }
def k1m2 : Method := { name := "law", desc := "(IIII)Z", sig := { parameters := [.int, .int, .int, .int], returnType := some .boolean }, accessFlags := 9, code := some k1c2 }
/-- com/example/mat44/mat44/LayoutIsRowTruePinLaw -/
def k1 : Class := { plain "com/example/mat44/mat44/LayoutIsRowTruePinLaw" (some 0) with
  accessFlags := 49
  interfaces := #[]
  cf := some (fileOf pool1 19 #[] #[{ accessFlags := 2, nameIndex := 5, descriptorIndex := 6, attributes := #[] }, { accessFlags := 10, nameIndex := 22, descriptorIndex := 23, attributes := #[] }, { accessFlags := 9, nameIndex := 27, descriptorIndex := 28, attributes := #[] }] 49 2 #[] #[])
  fields := #[]
  methods := #[k1m0, k1m1, k1m2]
  instanceTypes := #[]
  staticTypes := #[]
  resolved := Array.replicate 33 none
  statics := none }

def pool2 : Array CpInfo := pool [(1, .methodref 2 3), (0, .class_ 4), (0, .nameAndType 5 6), (0, u "java/lang/Object"), (0, u "<init>"), (0, u "()V"), (0, .class_ 8), (0, u "java/lang/Record")] 13

def k2c0 : Code := { maxStack := 1, maxLocals := 1, code := jdk_30_method_1_code, exceptionTable := #[], attributes := #[] }
def k2m0 : Method := { name := "<init>", desc := "()V", sig := { parameters := [], returnType := none }, accessFlags := 4, code := some k2c0 }
/-- java/lang/Record -/
def k2 : Class := { plain "java/lang/Record" (some 0) with
  accessFlags := 1057
  interfaces := #[]
  cf := some (fileOf pool2 7 #[] #[{ accessFlags := 4, nameIndex := 5, descriptorIndex := 6, attributes := #[] }] 1057 2 #[] #[])
  fields := #[]
  methods := #[k2m0]
  instanceTypes := #[]
  staticTypes := #[]
  resolved := Array.replicate 22 none
  statics := none }

def pool3 : Array CpInfo := pool [(1, .methodref 2 3), (0, .class_ 4), (0, .nameAndType 5 6), (0, u "java/lang/Record"), (0, u "<init>"), (0, u "()V"), (0, .fieldref 8 9), (0, .class_ 10), (0, .nameAndType 11 12), (0, u "com/example/mat44/mat44/Layout"), (0, u "name"), (0, u "Ljava/lang/String;"), (0, .fieldref 8 14), (0, .nameAndType 15 16), (0, u "pinCount"), (0, u "I"), (0, .fieldref 8 18), (0, .nameAndType 19 16), (0, u "groundPin"), (0, .fieldref 8 21), (0, .nameAndType 22 16), (0, u "supplyPin"), (0, .fieldref 8 24), (0, .nameAndType 25 16), (0, u "firstCellPin"), (0, .fieldref 8 27), (0, .nameAndType 28 16), (0, u "lastCellPin"), (0, .fieldref 8 30), (0, .nameAndType 31 16), (0, u "fuseCount"), (0, .fieldref 8 33), (0, .nameAndType 34 16), (0, u "columns"), (167, u "(Ljava/lang/String;IIIIIII)V"), (27, u "isRowTrue"), (0, u "([ZI[Z)Z")] 50

def k3c0 : Code := { maxStack := 2, maxLocals := 9, code := prog_30_method_1_code, exceptionTable := #[], attributes := #[] }
def k3m0 : Method := { name := "<init>", desc := "(Ljava/lang/String;IIIIIII)V", sig := { parameters := [(.object "java/lang/String"), .int, .int, .int, .int, .int, .int, .int], returnType := none }, accessFlags := 1, code := some k3c0 }
def k3c1 : Code := { maxStack := 3, maxLocals := 5, code := prog_30_method_14_code, exceptionTable := #[], attributes := #[] }
def k3m1 : Method := { name := "isRowTrue", desc := "([ZI[Z)Z", sig := { parameters := [(.array .boolean), .int, (.array .boolean)], returnType := some .boolean }, accessFlags := 0, code := some k3c1 }
/-- com/example/mat44/mat44/Layout -/
def k3 : Class := { plain "com/example/mat44/mat44/Layout" (some 2) with
  accessFlags := 49
  interfaces := #[]
  cf := some (fileOf pool3 8 #[] #[{ accessFlags := 1, nameIndex := 5, descriptorIndex := 202, attributes := #[] }, { accessFlags := 0, nameIndex := 230, descriptorIndex := 231, attributes := #[] }] 49 2 #[] #[{ accessFlags := 18, nameIndex := 11, descriptorIndex := 12, attributes := #[] }, { accessFlags := 18, nameIndex := 15, descriptorIndex := 16, attributes := #[] }, { accessFlags := 18, nameIndex := 19, descriptorIndex := 16, attributes := #[] }, { accessFlags := 18, nameIndex := 22, descriptorIndex := 16, attributes := #[] }, { accessFlags := 18, nameIndex := 25, descriptorIndex := 16, attributes := #[] }, { accessFlags := 18, nameIndex := 28, descriptorIndex := 16, attributes := #[] }, { accessFlags := 18, nameIndex := 31, descriptorIndex := 16, attributes := #[] }, { accessFlags := 18, nameIndex := 34, descriptorIndex := 16, attributes := #[] }])
  fields := #[{ name := "name", type := (.object "java/lang/String"), accessFlags := 18, slot := 0, constantValue := 0 }, { name := "pinCount", type := .int, accessFlags := 18, slot := 1, constantValue := 0 }, { name := "groundPin", type := .int, accessFlags := 18, slot := 2, constantValue := 0 }, { name := "supplyPin", type := .int, accessFlags := 18, slot := 3, constantValue := 0 }, { name := "firstCellPin", type := .int, accessFlags := 18, slot := 4, constantValue := 0 }, { name := "lastCellPin", type := .int, accessFlags := 18, slot := 5, constantValue := 0 }, { name := "fuseCount", type := .int, accessFlags := 18, slot := 6, constantValue := 0 }, { name := "columns", type := .int, accessFlags := 18, slot := 7, constantValue := 0 }]
  methods := #[k3m0, k3m1]
  instanceTypes := #[(.object "java/lang/String"), .int, .int, .int, .int, .int, .int, .int]
  staticTypes := #[]
  resolved := Array.replicate 282 none
  statics := none }

def pool4 : Array CpInfo := pool [(1, .class_ 2), (0, u "java/io/Serializable"), (0, .class_ 4), (0, u "java/lang/Object")] 2

/-- java/io/Serializable -/
def k4 : Class := { plain "java/io/Serializable" (some 0) with
  accessFlags := 1537
  interfaces := #[]
  cf := some (fileOf pool4 1 #[] #[] 1537 3 #[] #[])
  fields := #[]
  methods := #[]
  instanceTypes := #[]
  staticTypes := #[]
  resolved := Array.replicate 7 none
  statics := none }

def pool5 : Array CpInfo := pool [(1, .class_ 2), (0, u "java/lang/Comparable"), (0, .class_ 4), (0, u "java/lang/Object")] 7

/-- java/lang/Comparable -/
def k5 : Class := { plain "java/lang/Comparable" (some 0) with
  accessFlags := 1537
  interfaces := #[]
  cf := some (fileOf pool5 1 #[] #[] 1537 3 #[] #[])
  fields := #[]
  methods := #[]
  instanceTypes := #[]
  staticTypes := #[]
  resolved := Array.replicate 12 none
  statics := none }

def pool6 : Array CpInfo := pool [(2, .class_ 4), (1, u "java/lang/CharSequence"), (42, .class_ 48), (0, u "java/lang/CharSequence$1CodePointIterator"), (10, .class_ 60), (0, u "java/lang/CharSequence$1CharIterator"), (5, .class_ 67), (0, u "java/lang/Object")] 63

/-- java/lang/CharSequence -/
def k6 : Class := { plain "java/lang/CharSequence" (some 0) with
  accessFlags := 1537
  interfaces := #[]
  cf := some (fileOf pool6 2 #[.nestMembers #[47, 59]] #[] 1537 66 #[] #[])
  fields := #[]
  methods := #[]
  instanceTypes := #[]
  staticTypes := #[]
  resolved := Array.replicate 131 none
  statics := none }

def pool7 : Array CpInfo := pool [(1, .class_ 2), (0, u "java/lang/constant/Constable"), (0, .class_ 4), (0, u "java/lang/Object")] 6

/-- java/lang/constant/Constable -/
def k7 : Class := { plain "java/lang/constant/Constable" (some 0) with
  accessFlags := 1537
  interfaces := #[]
  cf := some (fileOf pool7 1 #[] #[] 1537 3 #[] #[])
  fields := #[]
  methods := #[]
  instanceTypes := #[]
  staticTypes := #[]
  resolved := Array.replicate 11 none
  statics := none }

def pool8 : Array CpInfo := pool [(1, .class_ 2), (0, u "java/lang/constant/ConstantDesc"), (0, .class_ 4), (0, u "java/lang/Object")] 32

/-- java/lang/constant/ConstantDesc -/
def k8 : Class := { plain "java/lang/constant/ConstantDesc" (some 0) with
  accessFlags := 1537
  interfaces := #[]
  cf := some (fileOf pool8 1 #[] #[] 1537 3 #[] #[])
  fields := #[]
  methods := #[]
  instanceTypes := #[]
  staticTypes := #[]
  resolved := Array.replicate 37 none
  statics := none }

def pool9 : Array CpInfo := pool [(2, .class_ 4), (1, u "java/lang/Object"), (0, u "<init>"), (0, u "()V"), (3, .class_ 12), (1, u "java/lang/String"), (0, u "value"), (0, u "[B"), (2, u "coder"), (0, u "B"), (2, u "hash"), (0, u "I"), (2, u "hashIsZero"), (0, u "Z"), (13, u "COMPACT_STRINGS"), (534, .class_ 576), (0, u "java/lang/CharSequence"), (22, u "CASE_INSENSITIVE_ORDER"), (0, u "Ljava/util/Comparator;"), (500, u "serialPersistentFields"), (0, u "[Ljava/io/ObjectStreamField;"), (0, .class_ 1104), (0, u "java/lang/String$CaseInsensitiveComparator"), (1, .class_ 1107), (0, u "java/io/Serializable"), (0, .class_ 1109), (0, u "java/lang/Comparable"), (0, .class_ 1111), (0, u "java/lang/constant/Constable"), (0, .class_ 1113), (0, u "java/lang/constant/ConstantDesc"), (2, u "serialVersionUID"), (0, u "J"), (3, u "REPL"), (0, u "C"), (2, u "LATIN1"), (1, u "UTF16")] 323

def k9m0 : Method := { name := "<init>", desc := "()V", sig := { parameters := [], returnType := none }, accessFlags := 1, code := none }
/-- java/lang/String -/
def k9 : Class := { plain "java/lang/String" (some 0) with
  accessFlags := 49
  interfaces := #[4, 5, 6, 7, 8]
  cf := some (fileOf pool9 10 #[.nestMembers #[1103]] #[{ accessFlags := 1, nameIndex := 5, descriptorIndex := 6, attributes := #[] }] 49 2 #[1106, 1108, 575, 1110, 1112] #[{ accessFlags := 18, nameIndex := 13, descriptorIndex := 14, attributes := #[] }, { accessFlags := 18, nameIndex := 17, descriptorIndex := 18, attributes := #[] }, { accessFlags := 2, nameIndex := 21, descriptorIndex := 22, attributes := #[] }, { accessFlags := 2, nameIndex := 25, descriptorIndex := 26, attributes := #[] }, { accessFlags := 26, nameIndex := 1116, descriptorIndex := 1117, attributes := #[] }, { accessFlags := 24, nameIndex := 40, descriptorIndex := 26, attributes := #[] }, { accessFlags := 26, nameIndex := 1101, descriptorIndex := 1102, attributes := #[] }, { accessFlags := 26, nameIndex := 1121, descriptorIndex := 1122, attributes := #[] }, { accessFlags := 25, nameIndex := 599, descriptorIndex := 600, attributes := #[] }, { accessFlags := 24, nameIndex := 1125, descriptorIndex := 18, attributes := #[] }, { accessFlags := 24, nameIndex := 1127, descriptorIndex := 18, attributes := #[] }])
  fields := #[{ name := "value", type := (.array .byte), accessFlags := 18, slot := 0, constantValue := 0 }, { name := "coder", type := .byte, accessFlags := 18, slot := 1, constantValue := 0 }, { name := "hash", type := .int, accessFlags := 2, slot := 2, constantValue := 0 }, { name := "hashIsZero", type := .boolean, accessFlags := 2, slot := 3, constantValue := 0 }, { name := "serialVersionUID", type := .long, accessFlags := 26, slot := 0, constantValue := 0 }, { name := "COMPACT_STRINGS", type := .boolean, accessFlags := 24, slot := 1, constantValue := 0 }, { name := "serialPersistentFields", type := (.array (.object "java/io/ObjectStreamField")), accessFlags := 26, slot := 2, constantValue := 0 }, { name := "REPL", type := .char, accessFlags := 26, slot := 3, constantValue := 0 }, { name := "CASE_INSENSITIVE_ORDER", type := (.object "java/util/Comparator"), accessFlags := 25, slot := 4, constantValue := 0 }, { name := "LATIN1", type := .byte, accessFlags := 24, slot := 5, constantValue := 0 }, { name := "UTF16", type := .byte, accessFlags := 24, slot := 6, constantValue := 0 }]
  methods := #[k9m0]
  instanceTypes := #[(.array .byte), .byte, .int, .boolean]
  staticTypes := #[.long, .boolean, (.array (.object "java/io/ObjectStreamField")), .char, (.object "java/util/Comparator"), .byte, .byte]
  resolved := Array.replicate 1451 none
  statics := none }

def pool10 : Array CpInfo := pool [(1, u "java/lang/Cloneable"), (0, .class_ 1), (0, u "java/lang/Object"), (0, .class_ 3)] 3

/-- java/lang/Cloneable -/
def k10 : Class := { plain "java/lang/Cloneable" (some 0) with
  accessFlags := 1537
  interfaces := #[]
  cf := some (fileOf pool10 2 #[] #[] 1537 4 #[] #[])
  fields := #[]
  methods := #[]
  instanceTypes := #[]
  staticTypes := #[]
  resolved := Array.replicate 8 none
  statics := none }

/-- the primitive boolean -/
def k11 : Class := { plain "boolean" none with kind := .primitive 'Z', accessFlags := 0x411 }
/-- [Z -/
def k12 : Class := { plain "[Z" (some 0) with kind := .array 11 .boolean, interfaces := #[10, 4], accessFlags := 1041 }

/-- the primitive byte -/
def k13 : Class := { plain "byte" none with kind := .primitive 'B', accessFlags := 0x411 }
/-- [B -/
def k14 : Class := { plain "[B" (some 0) with kind := .array 13 .byte, interfaces := #[10, 4], accessFlags := 1041 }

/-- the primitive int -/
def k15 : Class := { plain "int" none with kind := .primitive 'I', accessFlags := 0x411 }
/-- [I -/
def k16 : Class := { plain "[I" (some 0) with kind := .array 15 .int, interfaces := #[10, 4], accessFlags := 1041 }

def heap : Heap := #[]
def classes : Array Class := #[k0, k1, k2, k3, k4, k5, k6, k7, k8, k9, k10, k11, k12, k13, k14, k15, k16]
def interned : List (Array UInt16 × Addr) := []
def slotsUsed : Nat := 0
def theMethod : MethodId := ⟨1, 2⟩
def args0 : Array Value := #[.int 5, .int 65, .int 1, .int 0]
def aboutOver (below : List Frame) : State where
  vm := { classes := classes, interned := interned.toArray }
  heap := heap
  slotsUsed := slotsUsed
  threads := #[{ frames := .invoking theMethod args0 :: below }]
def below0 : List Frame := [.native { method := ⟨0, 0⟩, args := #[] }]
def about1 : State := aboutOver below0
def p0 : Program := .bare "" "" ""
def e0 : Env := launch0.env 0 0 0
theorem w_frames : about1.frames = Frame.invoking theMethod args0 :: below0 := rfl
set_option maxRecDepth 65536 in
theorem w_args : argsFit about1.vm theMethod args0 = true := by decide +kernel
set_option maxRecDepth 65536 in
theorem w_heap : heapFits about1 = true := by decide +kernel
set_option maxRecDepth 65536 in
theorem w_runnable : about1.curStatus? = some .runnable := by decide +kernel
set_option maxRecDepth 65536 in
theorem w_alone : about1.alone = true := by decide +kernel
set_option maxRecDepth 65536 in
theorem w_named : about1.methodNamed? x = some theMethod := by decide +kernel
set_option maxRecDepth 65536 in
theorem w_hears : about1.hears theMethod below0 = true := by decide +kernel
set_option maxRecDepth 65536 in
theorem w_ripe : about1.ripe theMethod args0 below0 = true := by decide +kernel
theorem w_running : about1.status = .running := rfl
set_option maxRecDepth 65536 in
theorem w_room : about1.hasRoom e0.platform room_1 = true :=
  launch0.hasRoom_least _ room_1 (by decide +kernel) (by decide +kernel) (by decide +kernel) (by decide +kernel) (by decide +kernel) (by decide +kernel)
theorem allAtoms_all (ts : List Jvm.Cond) (a : Array Jvm.Value) (st : Jvm.State) : (allAtoms ts).before a st = ts.all (fun c => c.before a st) := by
  induction ts with
  | nil => rfl
  | cons c t ih =>
    show (Jvm.Cond.and c (allAtoms t)).before a st = _
    rw [Jvm.Cond.before_and, ih, List.all_cons]
def words1 : List Jvm.Cond := Jvm.Cond.code x code maxLocals ret :: tables_1
/-- a 'code' word, met by the world's own term for the bytes: nothing is compared byte by byte -/
theorem code_word {y : MethodName} {bytes : ByteArray} {mx : Nat} {rt : Option FieldType} {a : Array Value} {s : State} {m : MethodId} {meth : Method} {c : Code} (h1 : s.methodNamed? y = some m) (h2 : s.vm.method? m = some meth) (h3 : meth.code = some c) (h4 : c.code = bytes)
    (h5 : (c.maxLocals == mx && c.exceptionTable.isEmpty && decide (c.maxStack ≤ mostOperands) && decide (meth.sig.returnType = rt) && !meth.locks && decide (parseMethodDescriptor y.desc = some meth.sig)) = true) : (Jvm.Cond.code y bytes mx rt).before a s = true := by
  simp only [Bool.and_eq_true, beq_iff_eq, Bool.not_eq_true', decide_eq_true_eq] at h5
  obtain ⟨⟨⟨⟨⟨g1, g2⟩, g3⟩, g4⟩, g5⟩, g6⟩ := h5
  simp [Cond.before, Cond.holds, Cond.value, h1, h2, h3, h4, g1, g2, g3, g4, g5, g6]
def isCode : Jvm.Cond → Bool
  | .code _ _ _ _ => true
  | _ => false
theorem all_split {L : List Jvm.Cond} {P : Jvm.Cond → Bool} (h1 : L.all (fun c => isCode c || P c) = true) (h2 : ∀ c ∈ L.filter isCode, P c = true) : L.all P = true := by
  refine List.all_eq_true.mpr fun c hc => ?_
  have h := List.all_eq_true.mp h1 c hc
  rcases Bool.eq_false_or_eq_true (isCode c) with hi | hi
  · exact h2 c (List.mem_filter.mpr ⟨hc, hi⟩)
  · simpa [hi] using h
set_option maxRecDepth 65536 in
theorem w_c0 : (Jvm.Cond.code x code maxLocals ret).before args0 about1 = true := code_word (m := ⟨1, 2⟩) (meth := k1m2) (c := k1c2) (by decide +kernel) rfl rfl rfl (by decide +kernel)
set_option maxRecDepth 65536 in
theorem w_c1 : (Jvm.Cond.code ({ cls := "com/example/mat44/mat44/Layout", name := "<init>", desc := "(Ljava/lang/String;IIIIIII)V" } : Jvm.MethodName) prog_30_method_1_code (9 : Nat) (Option.none : Option Jvm.ClassFile.FieldType)).before args0 about1 = true := code_word (m := ⟨3, 0⟩) (meth := k3m0) (c := k3c0) (by decide +kernel) rfl rfl rfl (by decide +kernel)
set_option maxRecDepth 65536 in
theorem w_c2 : (Jvm.Cond.code ({ cls := "java/lang/Record", name := "<init>", desc := "()V" } : Jvm.MethodName) jdk_30_method_1_code (1 : Nat) (Option.none : Option Jvm.ClassFile.FieldType)).before args0 about1 = true := code_word (m := ⟨2, 0⟩) (meth := k2m0) (c := k2c0) (by decide +kernel) rfl rfl rfl (by decide +kernel)
set_option maxRecDepth 65536 in
theorem w_c3 : (Jvm.Cond.code ({ cls := "java/lang/Object", name := "<init>", desc := "()V" } : Jvm.MethodName) object_method_1_code (1 : Nat) (Option.none : Option Jvm.ClassFile.FieldType)).before args0 about1 = true := code_word (m := ⟨0, 0⟩) (meth := k0m0) (c := k0c0) (by decide +kernel) rfl rfl rfl (by decide +kernel)
set_option maxRecDepth 65536 in
theorem w_c4 : (Jvm.Cond.code ({ cls := "com/example/mat44/mat44/Layout", name := "isRowTrue", desc := "([ZI[Z)Z" } : Jvm.MethodName) prog_30_method_14_code (5 : Nat) (Option.some Jvm.ClassFile.FieldType.boolean)).before args0 about1 = true := code_word (m := ⟨3, 1⟩) (meth := k3m1) (c := k3c1) (by decide +kernel) rfl rfl rfl (by decide +kernel)
set_option maxRecDepth 65536 in
theorem w_c5 : (Jvm.Cond.code ({ cls := "com/example/mat44/mat44/LayoutIsRowTruePinLaw", name := "ok", desc := "(III[Z[Z)Z" } : Jvm.MethodName) method_2_code (5 : Nat) (Option.some Jvm.ClassFile.FieldType.boolean)).before args0 about1 = true := code_word (m := ⟨1, 1⟩) (meth := k1m1) (c := k1c1) (by decide +kernel) rfl rfl rfl (by decide +kernel)
def codes1 : List Jvm.Cond := [Jvm.Cond.code x code maxLocals ret, Jvm.Cond.code ({ cls := "com/example/mat44/mat44/Layout", name := "<init>", desc := "(Ljava/lang/String;IIIIIII)V" } : Jvm.MethodName) prog_30_method_1_code (9 : Nat) (Option.none : Option Jvm.ClassFile.FieldType), Jvm.Cond.code ({ cls := "java/lang/Record", name := "<init>", desc := "()V" } : Jvm.MethodName) jdk_30_method_1_code (1 : Nat) (Option.none : Option Jvm.ClassFile.FieldType), Jvm.Cond.code ({ cls := "java/lang/Object", name := "<init>", desc := "()V" } : Jvm.MethodName) object_method_1_code (1 : Nat) (Option.none : Option Jvm.ClassFile.FieldType), Jvm.Cond.code ({ cls := "com/example/mat44/mat44/Layout", name := "isRowTrue", desc := "([ZI[Z)Z" } : Jvm.MethodName) prog_30_method_14_code (5 : Nat) (Option.some Jvm.ClassFile.FieldType.boolean), Jvm.Cond.code ({ cls := "com/example/mat44/mat44/LayoutIsRowTruePinLaw", name := "ok", desc := "(III[Z[Z)Z" } : Jvm.MethodName) method_2_code (5 : Nat) (Option.some Jvm.ClassFile.FieldType.boolean)]
set_option maxRecDepth 65536 in
theorem codes_eq : words1.filter isCode = codes1 := rfl
theorem w_codes : ∀ c ∈ words1.filter isCode, c.before args0 about1 = true := by
  rw [codes_eq]
  intro c hc
  simp only [codes1, List.mem_cons, List.not_mem_nil, or_false] at hc
  rcases hc with rfl | rfl | rfl | rfl | rfl | rfl
  · exact w_c0
  · exact w_c1
  · exact w_c2
  · exact w_c3
  · exact w_c4
  · exact w_c5
set_option maxRecDepth 65536 in
theorem w_t1 : (words1.take 24).all (fun c => isCode c || c.before args0 about1) = true := by decide +kernel
set_option maxRecDepth 65536 in
theorem w_t2 : ((words1.drop 24).take 24).all (fun c => isCode c || c.before args0 about1) = true := by decide +kernel
set_option maxRecDepth 65536 in
theorem w_t3 : ((words1.drop 24).drop 24).all (fun c => isCode c || c.before args0 about1) = true := by decide +kernel
theorem w_tables : (allAtoms (Jvm.Cond.code x code maxLocals ret :: tables_1)).before args0 about1 = true := by
  rw [allAtoms_all]
  show words1.all (fun c => c.before args0 about1) = true
  refine all_split ?_ w_codes
  rw [← List.take_append_drop 24 words1, List.all_append, w_t1, ← List.take_append_drop 24 (words1.drop 24), List.all_append, w_t2, w_t3]
  rfl
set_option maxRecDepth 65536 in
theorem w_case : (Jvm.Cond.and given_1 narrow_1).before args0 about1 = true := by decide +kernel
theorem w_applies : (headSpec (Jvm.Cond.code x code maxLocals ret :: tables_1) room_1).applies x e0.platform about1 = true :=
  (Spec.applies_iff w_frames).mpr ⟨w_running, w_runnable, w_alone, w_named, w_hears, w_ripe, w_room, w_tables⟩
theorem atStart : AtStart classFile x code maxLocals ret World_1 tables_1 room_1 Calls_1 rest_1 Pre_1 launch0 p0 e0 about1 theMethod args0 below0 :=
  ⟨lists_1, trivial, launch0.admits_env _ _ _, launch0.least_env, fairChoices_fair.cas, fairChoices_fair.clock, w_frames, w_args, w_heap, w_applies, trivial, trivial, w_case⟩
end start1
theorem witness_1 : WitnessClaimed_1 := ⟨start1.p0, start1.e0, start1.about1, start1.theMethod, start1.args0, start1.below0, start1.atStart⟩
end Jvm.Pilot.@@N@@
