import JvmDerived
import JvmDerived.Pilot.@@N@@Statement
import JvmDerived.Pilot.@@N@@Code
set_option linter.unusedVariables false
set_option linter.unusedSimpArgs false
namespace Jvm.Pilot.@@N@@
open Jvm Jvm.ClassFile Sem Op Lib Jvm.Free Jvm.Stand Jvm.LawKit Jvm.RoadKit Bundle Jvm.Pilot.@@N@@.Jvm.D
section OwnKit
variable {p : Program} {l : Launch} {e : Env} {R : Room} {s : State} {m : MethodId} {args : Array Value} {below : List Frame} {meth : Method} {c : Code} {T T' : State} {locs : List Loc} {cells slots kc ks : Nat} {g g' : JFrame} {Q : Option Value → Heap → List Loc → Prop} {Z : State} {h h' : Heap} {a0 : Array Value} {En : Outcome → State → List Loc → Nat → Nat → Prop}
/-- from this frame the run comes to the method's end and leaves what Q says -/
def own_Out (p : Program) (e : Env) (below : List Frame) (En : Outcome → State → List Loc → Nat → Nat → Prop) (T : State) (g : JFrame) (Q : Option Value → Heap → List Loc → Prop) (kc ks : Nat) : Prop :=
  ∃ (t : State) (o : Outcome), Steps p.tables e below (T.setTop g) t ∧ t.status = .running ∧ Ended t below o ∧ ∃ (v : Option Value) (L : List Loc), o = .returned v ∧ Q v t.heap L ∧ En o t L kc ks
theorem own_to (st : ∀ t, Steps p.tables e below (T'.setTop g') t → Steps p.tables e below (T.setTop g) t) (k : own_Out p e below En T' g' Q kc ks) : own_Out p e below En T g Q kc ks := by
  obtain ⟨t, o, h1, h2⟩ := k
  exact ⟨t, o, st t h1, h2⟩
theorem own_cast (q : g = g') (k : own_Out p e below En T g' Q kc ks) : own_Out p e below En T g Q kc ks := q ▸ k
/-- a method's contract: called with these arguments over this heap it returns, and Q says what it leaves -/
def own_C (l : Launch) (Z : State) (y : MethodName) (bytes : ByteArray) (maxL : Nat) (ret : Option FieldType) (rm : Room) (as' : Array Value) (h0 : Heap) (Q : Option Value → Heap → List Loc → Prop) : Prop :=
  ∀ ws : List Jvm.Cond, MetFree l y (head1 (Jvm.Cond.code y bytes maxL ret :: ws) rm) (fun a U => a = as' ∧ Z.Warmed39 U.vm ∧ U.heap = h0) (fun _ _ _ _ _ => True) (fun _ U o U' => ∃ v L, o = .returned v ∧ Q v U'.heap L ∧ FrameEnd U o U' L rm.cells rm.slots)
theorem own_met {y : MethodName} {bytes : ByteArray} {maxL : Nat} {ret : Option FieldType} {rm : Room} {as' : Array Value} {h0 : Heap} (pl : plainFor y = true)
    (body : ∀ (p : Program) (e : Env) (s : State) (m : MethodId) (below : List Frame) (meth : Method) (c : Code) (s₁ : State), p.tables.exec = Jvm.exec → c.code = bytes → c.maxLocals = maxL → meth.sig.returnType = ret → meth.locks = false → s.vm.findClass y.cls = some m.cls → meth.name = y.name → Z.Warmed39 s.vm → Stand p l e rm s m as' below meth c s₁ [] 0 0 → s₁.heap = h0 → own_Out p e below (FrameEnd s) s₁ (entryFrame m as' maxL) Q rm.cells rm.slots) :
    own_C l Z y bytes maxL ret rm as' h0 Q := by
  intro ws
  refine MetFree.of_bodySF pl hisR ?_
  intro p e s m args below meth c s₁ Bd hml0 hP hK
  obtain ⟨rfl, hZ, hh⟩ := hP
  exact body p e s m below meth c s₁ Bd.exec Bd.bytes hml0 Bd.returns (BodyLoose.notSynchronized Bd) (findClass_of_methodNamed Bd.named) ((name_of_methodNamed Bd.named Bd.method).1) hZ (Stand.of_body Bd) (by rw [← hh, Bd.state]; rfl)
/-! returns -/
theorem own_retV (X : Stand p l e R s m args below meth c T locs cells slots) (hx : p.tables.exec = Jvm.exec) (hlk : meth.locks = false) {pc : Nat} {Ls : Array Slot} {w : Value} {t : FieldType} {i : Instr} {rest : List Value} (hret : meth.sig.returnType = some t) (hn : narrow t w = w)
    (hi : (i = .ireturn ∧ (t = .int ∨ t = .boolean ∨ t = .byte ∨ t = .char ∨ t = .short) ∧ ∃ z, w = .int z) ∨ (i = .lreturn ∧ t = .long ∧ ∃ z, w = .long z) ∨ (i = .dreturn ∧ t = .double ∧ ∃ z, w = .double z) ∨ (i = .freturn ∧ t = .float ∧ ∃ z, w = .float z) ∨ (i = .areturn ∧ t.isReference = true ∧ w.isRef = true))
    (hd : decode c.code pc = .ok (i, 1)) (hc : cells ≤ kc) (hs : slots ≤ ks) (hQ : Q (some w) T.heap locs) : own_Out p e below (FrameEnd s) T (mkF m pc Ls (w :: rest)) Q kc ks := by
  obtain ⟨fs, hr, hrun, hended, hW, hsame⟩ := X.leave (v := some w) (fun h => by rw [hret] at h; cases h) hlk
  exact ⟨_, _, retOut X hx hret hn hi hd hr, hrun, hended, _, _, rfl, hQ, ⟨_, rfl⟩, hW, hsame.mono hc hs⟩
theorem own_retI (X : Stand p l e R s m args below meth c T locs cells slots) (hx : p.tables.exec = Jvm.exec) (hlk : meth.locks = false) (hret : meth.sig.returnType = some .int) {pc : Nat} {Ls : Array Slot} {z : Int32} {rest : List Value}
    (hd : decode c.code pc = .ok (.ireturn, 1)) (hc : cells ≤ kc) (hs : slots ≤ ks) (hQ : Q (some (.int z)) T.heap locs) : own_Out p e below (FrameEnd s) T (mkF m pc Ls (.int z :: rest)) Q kc ks :=
  own_retV X hx hlk hret rfl (Or.inl ⟨rfl, Or.inl rfl, _, rfl⟩) hd hc hs hQ
theorem own_retJ (X : Stand p l e R s m args below meth c T locs cells slots) (hx : p.tables.exec = Jvm.exec) (hlk : meth.locks = false) (hret : meth.sig.returnType = some .long) {pc : Nat} {Ls : Array Slot} {z : Int64} {rest : List Value}
    (hd : decode c.code pc = .ok (.lreturn, 1)) (hc : cells ≤ kc) (hs : slots ≤ ks) (hQ : Q (some (.long z)) T.heap locs) : own_Out p e below (FrameEnd s) T (mkF m pc Ls (.long z :: rest)) Q kc ks :=
  own_retV X hx hlk hret rfl (Or.inr (Or.inl ⟨rfl, rfl, _, rfl⟩)) hd hc hs hQ
theorem own_retA (X : Stand p l e R s m args below meth c T locs cells slots) (hx : p.tables.exec = Jvm.exec) (hlk : meth.locks = false) {t : FieldType} (hret : meth.sig.returnType = some t) (ht : t.isReference = true) {pc : Nat} {Ls : Array Slot} {z : Addr} {rest : List Value}
    (hd : decode c.code pc = .ok (.areturn, 1)) (hc : cells ≤ kc) (hs : slots ≤ ks) (hQ : Q (some (.ref z)) T.heap locs) : own_Out p e below (FrameEnd s) T (mkF m pc Ls (.ref z :: rest)) Q kc ks :=
  own_retV X hx hlk hret (by cases t <;> rfl) (Or.inr (Or.inr (Or.inr (Or.inr ⟨rfl, ht, rfl⟩)))) hd hc hs hQ
/-- a boolean, byte, char or short: the value is narrowed -/
theorem own_retN (X : Stand p l e R s m args below meth c T locs cells slots) (hx : p.tables.exec = Jvm.exec) (hlk : meth.locks = false) {t : FieldType} (hret : meth.sig.returnType = some t) (ht : t = .boolean ∨ t = .byte ∨ t = .char ∨ t = .short) {pc : Nat} {Ls : Array Slot} {z : Int32} {rest : List Value}
    (hd : decode c.code pc = .ok (.ireturn, 1)) (hc : cells ≤ kc) (hs : slots ≤ ks) (hQ : Q (some (.int (nar t z))) T.heap locs) : own_Out p e below (FrameEnd s) T (mkF m pc Ls (.int z :: rest)) Q kc ks := by
  obtain ⟨fs, hr, hrun, hended, hW, hsame⟩ := X.leave (v := some (.int (nar t z))) (fun h => by rw [hret] at h; cases h) hlk
  exact ⟨_, _, retN X hx hret ht hd hr, hrun, hended, _, _, rfl, hQ, ⟨_, rfl⟩, hW, hsame.mono hc hs⟩
theorem own_ret0 (X : Stand p l e R s m args below meth c T locs cells slots) (hx : p.tables.exec = Jvm.exec) (hlk : meth.locks = false) (hret : meth.sig.returnType = none) {pc : Nat} {Ls : Array Slot}
    (hd : decode c.code pc = .ok (.return_, 1)) (hc : cells ≤ kc) (hs : slots ≤ ks) (hQ : Q none T.heap locs) : own_Out p e below (FrameEnd s) T (mkF m pc Ls []) Q kc ks := by
  obtain ⟨fs, hr, hrun, hended, hW, hsame⟩ := X.leave (v := none) (fun _ => rfl) hlk
  exact ⟨_, _, X.returnOut hx hret hd hr, hrun, hended, _, _, rfl, hQ, ⟨_, rfl⟩, hW, hsame.mono hc hs⟩
/-! calls -/
theorem own_callS (X : Stand p l e R s m args below meth c T locs cells slots) (hx : p.tables.exec = Jvm.exec) (hZ : Z.Warmed39 s.vm) {own : String} (hown : s.vm.findClass own = some m.cls) {index : Nat} {y : MethodName} {bytes : ByteArray} {maxL : Nat} {ret : Option FieldType} {rm : Room} {W : Nat} {Qc : Option Value → Heap → List Loc → Prop} {argsL rest : List Value}
    (w1 : (Jvm.Cond.methodLink own index y).before a0 Z = true) (w2 : (Jvm.Cond.static y).before a0 Z = true) (w3 : (Jvm.Cond.initialized y.cls).before a0 Z = true) (w4 : (Jvm.Cond.code y bytes maxL ret).before a0 Z = true) (hy : y.cls ≠ "java/lang/invoke/MethodHandle" ∧ y.cls ≠ "java/lang/invoke/VarHandle")
    (hM : own_C l Z y bytes maxL ret rm argsL.toArray h Qc) (hf : rm.frames + 1 ≤ R.frames) (hl : W + (maxL + 11) + rm.locals ≤ R.locals) (eT : T.heap = h) (hg : g.method = m) (hsize : g.locals.size = c.maxLocals) (hlen : ∀ sig, parseMethodDescriptor y.desc = some sig → argsL.length = sig.parameters.length)
    (hstack : g.stack = argsL.reverse ++ rest) (hW : 2 * g.monitorRoom + (rest.map fun v => v.category).sum ≤ W) (hd : decode c.code g.pc = .ok (.invokestatic index, 3)) (hc : cells + rm.cells ≤ R.cells) (hs : slots + rm.slots ≤ R.slots)
    (k : ∀ (v : Option Value) (T' : State) (h' : Heap) (L : List Loc), Stand p l e R s m args below meth c T' (locs ++ L) (cells + rm.cells) (slots + rm.slots) → T'.heap = h' → Qc v h' L → own_Out p e below En T' { g with pc := g.pc + 3, stack := v.toList ++ rest } Q kc ks) : own_Out p e below En T g Q kc ks := by
  obtain ⟨v, _, ⟨T', L', k', n'⟩, -, X', ⟨Lc, hQ, l1, l2, l3⟩, st⟩ := Jvm.LawKit.callS X hx hown (mvT hZ w1) (mvT hZ w2) (mvT hZ w3) (mvT hZ w4) hy (backOf (W := W) (hM []) hZ w4 w3 hf hl) hg hsize hlen hstack hW hd (fun _ _ => ⟨rfl, eT, hc, hs⟩)
  dsimp only [Pt.U, Pt.locs, Pt.cells, Pt.slots] at X' l1 l2 l3 st hQ
  subst l1 l2 l3
  exact own_to st (k v T' _ Lc X' rfl hQ)
/-- a constructor -/
theorem own_callC (X : Stand p l e R s m args below meth c T locs cells slots) (hx : p.tables.exec = Jvm.exec) (hZ : Z.Warmed39 s.vm) {own : String} (hown : s.vm.findClass own = some m.cls) {index : Nat} {y : MethodName} {bytes : ByteArray} {maxL : Nat} {rm : Room} {W : Nat} {Qc : Option Value → Heap → List Loc → Prop} {a : Addr} {argsL rest : List Value}
    (hy1 : y.name = "<init>") (w1 : (Jvm.Cond.methodLink own index y).before a0 Z = true) (w2 : (Jvm.Cond.instanceMethod y).before a0 Z = true) (w3 : (Jvm.Cond.initialized y.cls).before a0 Z = true) (w4 : (Jvm.Cond.code y bytes maxL none).before a0 Z = true) (hy : y.cls ≠ "java/lang/invoke/MethodHandle" ∧ y.cls ≠ "java/lang/invoke/VarHandle")
    (hM : own_C l Z y bytes maxL none rm (.ref a :: argsL).toArray h Qc) (hf : rm.frames + 1 ≤ R.frames) (hl : W + (maxL + 11) + rm.locals ≤ R.locals) (eT : T.heap = h) (hg : g.method = m) (hsize : g.locals.size = c.maxLocals) (hlen : ∀ sig, parseMethodDescriptor y.desc = some sig → argsL.length = sig.parameters.length)
    (hstack : g.stack = argsL.reverse ++ .ref a :: rest) (hW : 2 * g.monitorRoom + (rest.map fun v => v.category).sum ≤ W) (hd : decode c.code g.pc = .ok (.invokespecial index, 3)) (hc : cells + rm.cells ≤ R.cells) (hs : slots + rm.slots ≤ R.slots)
    (k : ∀ (v : Option Value) (T' : State) (h' : Heap) (L : List Loc), Stand p l e R s m args below meth c T' (locs ++ L) (cells + rm.cells) (slots + rm.slots) → T'.heap = h' → Qc v h' L → own_Out p e below En T' { g with pc := g.pc + 3, stack := v.toList ++ rest } Q kc ks) : own_Out p e below En T g Q kc ks := by
  obtain ⟨v, _, ⟨T', L', k', n'⟩, -, X', ⟨Lc, hQ, l1, l2, l3⟩, st⟩ := X.specialBack hx hy1 hown (mvT hZ w1) (mvT hZ w2) (mvT hZ w4) hy (backOf (W := W) (hM []) hZ w4 w3 hf hl) hg hsize (Steps.refl _) hlen hstack hW hd (fun _ _ => ⟨rfl, eT, hc, hs⟩)
  dsimp only [Pt.U, Pt.locs, Pt.cells, Pt.slots] at X' l1 l2 l3 st hQ
  subst l1 l2 l3
  exact own_to (fun t k => st.trans k) (k v T' _ Lc X' rfl hQ)
/-- an instance method of the object's own class -/
theorem own_callV (X : Stand p l e R s m args below meth c T locs cells slots) (hx : p.tables.exec = Jvm.exec) (hZ : Z.Warmed39 s.vm) {own C : String} (hown : s.vm.findClass own = some m.cls) {index : Nat} {y : MethodName} {bytes : ByteArray} {maxL : Nat} {ret : Option FieldType} {rm : Room} {W : Nat} {Qc : Option Value → Heap → List Loc → Prop} {a : Addr} {argsL rest : List Value}
    (w1 : (Jvm.Cond.methodLink own index y).before a0 Z = true) (w5 : (Jvm.Cond.declares y).before a0 Z = true) (w6 : (Jvm.Cond.selects C y y).before a0 Z = true) (w2 : (Jvm.Cond.instanceMethod y).before a0 Z = true) (w3 : (Jvm.Cond.initialized y.cls).before a0 Z = true) (w4 : (Jvm.Cond.code y bytes maxL ret).before a0 Z = true) (hy : y.cls ≠ "java/lang/invoke/MethodHandle" ∧ y.cls ≠ "java/lang/invoke/VarHandle")
    (hM : own_C l Z y bytes maxL ret rm (.ref a :: argsL).toArray h Qc) (hf : rm.frames + 1 ≤ R.frames) (hl : W + (maxL + 11) + rm.locals ≤ R.locals) (eT : T.heap = h) (E : Exa Z h a C) (hg : g.method = m) (hsize : g.locals.size = c.maxLocals) (hlen : ∀ sig, parseMethodDescriptor y.desc = some sig → argsL.length = sig.parameters.length)
    (hstack : g.stack = argsL.reverse ++ .ref a :: rest) (hW : 2 * g.monitorRoom + (rest.map fun v => v.category).sum ≤ W) (hd : decode c.code g.pc = .ok (.invokevirtual index, 3)) (hc : cells + rm.cells ≤ R.cells) (hs : slots + rm.slots ≤ R.slots)
    (k : ∀ (v : Option Value) (T' : State) (h' : Heap) (L : List Loc), Stand p l e R s m args below meth c T' (locs ++ L) (cells + rm.cells) (slots + rm.slots) → T'.heap = h' → Qc v h' L → own_Out p e below En T' { g with pc := g.pc + 3, stack := v.toList ++ rest } Q kc ks) : own_Out p e below En T g Q kc ks := by
  obtain ⟨cq, kq, qa, qb, qc⟩ := isOf hZ eT E
  obtain ⟨v, _, ⟨T', L', k', n'⟩, -, X', ⟨Lc, hQ, l1, l2, l3⟩, st⟩ := X.virtualBack hx hown (mvT hZ w1) (mvT hZ w5) (notFace_of_selects (args := #[]) (mvT hZ w6)) (mvT hZ w6) (mvT hZ w2) hy (backOf (W := W) (hM []) hZ w4 w3 hf hl) qa qc hg hsize (Steps.refl _) hlen hstack hW hd (fun _ _ => ⟨rfl, eT, hc, hs⟩)
  dsimp only [Pt.U, Pt.locs, Pt.cells, Pt.slots] at X' l1 l2 l3 st hQ
  subst l1 l2 l3
  exact own_to (fun t k => st.trans k) (k v T' _ Lc X' rfl hQ)
/-- a private method of the object's own class, by invokevirtual -/
theorem own_callP (X : Stand p l e R s m args below meth c T locs cells slots) (hx : p.tables.exec = Jvm.exec) (hZ : Z.Warmed39 s.vm) {own C : String} (hown : s.vm.findClass own = some m.cls) {index kk : Nat} {y : MethodName} {bytes : ByteArray} {maxL : Nat} {ret : Option FieldType} {rm : Room} {W : Nat} {Qc : Option Value → Heap → List Loc → Prop} {a : Addr} {argsL rest : List Value}
    (w1 : (Jvm.Cond.methodLink own index y).before a0 Z = true) (w5 : (Jvm.Cond.privateMethod y).before a0 Z = true) (w6 : (Jvm.Cond.instantiable y.cls kk).before a0 Z = true) (w2 : (Jvm.Cond.instanceMethod y).before a0 Z = true) (w3 : (Jvm.Cond.initialized y.cls).before a0 Z = true) (w4 : (Jvm.Cond.code y bytes maxL ret).before a0 Z = true) (hy : y.cls ≠ "java/lang/invoke/MethodHandle" ∧ y.cls ≠ "java/lang/invoke/VarHandle")
    (hM : own_C l Z y bytes maxL ret rm (.ref a :: argsL).toArray h Qc) (hf : rm.frames + 1 ≤ R.frames) (hl : W + (maxL + 11) + rm.locals ≤ R.locals) (eT : T.heap = h) (E : Exa Z h a C) (hg : g.method = m) (hsize : g.locals.size = c.maxLocals) (hlen : ∀ sig, parseMethodDescriptor y.desc = some sig → argsL.length = sig.parameters.length)
    (hstack : g.stack = argsL.reverse ++ .ref a :: rest) (hW : 2 * g.monitorRoom + (rest.map fun v => v.category).sum ≤ W) (hd : decode c.code g.pc = .ok (.invokevirtual index, 3)) (hc : cells + rm.cells ≤ R.cells) (hs : slots + rm.slots ≤ R.slots)
    (k : ∀ (v : Option Value) (T' : State) (h' : Heap) (L : List Loc), Stand p l e R s m args below meth c T' (locs ++ L) (cells + rm.cells) (slots + rm.slots) → T'.heap = h' → Qc v h' L → own_Out p e below En T' { g with pc := g.pc + 3, stack := v.toList ++ rest } Q kc ks) : own_Out p e below En T g Q kc ks := by
  obtain ⟨cq, q, q'⟩ := E.cell
  have hp : s.PrivateAt y := Cond.privateMethod_at (mvP hZ w5 (args := #[]))
  obtain ⟨cy, ky, f1, f2, -, f3, -⟩ := Cond.instantiable_spec (mvT (args := args) hZ w6)
  have hi : ky.isInterface = false := (Bool.or_eq_false_iff.mp f3).1
  have hse : (Jvm.Cond.selects y.cls y y).before args s = true := selects_self_of_private f1 f2 hi hp (mvT hZ w2) hy
  obtain ⟨v, _, ⟨T', L', k', n'⟩, -, X', ⟨Lc, hQ, l1, l2, l3⟩, st⟩ := X.privateBack hx hown (mvT hZ w1) (mvT hZ w2) hse hp (mvT hZ w4) hy (backOf (W := W) (hM []) hZ w4 w3 hf hl) hg hsize (Steps.refl _) (by rw [eT]; exact q) q' hlen hstack hW hd (fun _ _ => ⟨rfl, eT, hc, hs⟩)
  dsimp only [Pt.U, Pt.locs, Pt.cells, Pt.slots] at X' l1 l2 l3 st hQ
  subst l1 l2 l3
  exact own_to (fun t k => st.trans k) (k v T' _ Lc X' rfl hQ)
/-! the heap's steps -/
theorem own_getF (X : Stand p l e R s m args below meth c T locs cells slots) (hx : p.tables.exec = Jvm.exec) (hZ : Z.Warmed39 s.vm) {own O n d : String} {index : Nat} (hown : s.vm.findClass own = some m.cls) (w : (Jvm.Cond.fieldLink own index O n d).before a0 Z = true) (eT : T.heap = h) {a : Addr} {v : Value} (F : Fld Z h a O n d v)
    (hg : g.method = m) {rest : List Value} (hs : g.stack = .ref a :: rest) (hd : decode c.code g.pc = .ok (.getfield index, 3)) (k : ∀ T', Stand p l e R s m args below meth c T' locs cells slots → T'.heap = h → own_Out p e below En T' { g with pc := g.pc + 3, stack := v :: rest } Q kc ks) : own_Out p e below En T g Q kc ks := by
  obtain ⟨T', X', e', st⟩ := getF X hx hZ hown (host := "") (Or.inl w) Via.refl eT F hg hs hd
  exact own_to st (k T' X' e')
theorem own_putF (X : Stand p l e R s m args below meth c T locs cells slots) (hx : p.tables.exec = Jvm.exec) (hZ : Z.Warmed39 s.vm) {own O n d C : String} {index kk : Nat} {ty : FieldType} (hown : s.vm.findClass own = some m.cls) (w : (Jvm.Cond.fieldLink own index O n d).before a0 Z = true) (eT : T.heap = h) {a : Addr} {v old : Value} (F : Fld Z h a O n d old) (E : Exa Z h a C)
    (L : (Jvm.Cond.lays C O n d).before a0 Z = true ∨ ((Jvm.Cond.laysFinal C O n d).before a0 Z = true ∧ own = O ∧ meth.name = "<init>")) (wi : (Jvm.Cond.instantiable C kk).before a0 Z = true) (hty : parseFieldDescriptor d = some ty) (hn : narrow ty v = v) (hf : fits ty v = true)
    (hg : g.method = m) {rest : List Value} (hs : g.stack = v :: .ref a :: rest) (hd : decode c.code g.pc = .ok (.putfield index, 3)) (k : ∀ T' h', Stand p l e R s m args below meth c T' (locs ++ [⟨a, Jvm.RoadKit.slotOf Z O n d⟩]) cells slots → T'.heap = h' → Wr h h' a (Jvm.RoadKit.slotOf Z O n d) v → own_Out p e below En T' { g with pc := g.pc + 3, stack := rest } Q kc ks) : own_Out p e below En T g Q kc ks := by
  obtain ⟨T', h', X', e', W', st⟩ := putF X hx hZ hown (host := "") (Or.inl w) Via.refl eT F E L wi hty hn hf hg hs hd
  exact own_to st (k T' h' X' e' W')
theorem own_new (X : Stand p l e R s m args below meth c T locs cells slots) (hx : p.tables.exec = Jvm.exec) (hZ : Z.Warmed39 s.vm) {own C : String} {index n : Nat} (hown : s.vm.findClass own = some m.cls) (w : (Jvm.Cond.classLink own index C).before a0 Z = true) (wi : (Jvm.Cond.instantiable C n).before a0 Z = true) (wz : (Jvm.Cond.initialized C).before a0 Z = true) (eT : T.heap = h)
    (hg : g.method = m) (hd : decode c.code g.pc = .ok (.new index, 3)) (hc : cells + 1 ≤ R.cells) (hl : slots + n ≤ R.slots)
    (k : ∀ T' h' a, a = h.size → Stand p l e R s m args below meth c T' locs (cells + 1) (slots + n) → T'.heap = h' → Ext h h' → Exa Z h' a C → (∀ {O nm d : String} {ty : FieldType}, Laid Z a0 C O nm d → parseFieldDescriptor d = some ty → Fld Z h' a O nm d (defaultValue ty)) → own_Out p e below En T' { g with pc := g.pc + 3, stack := .ref a :: g.stack } Q kc ks) : own_Out p e below En T g Q kc ks := by
  obtain ⟨T', h', X', e', E', A', D', -, st⟩ := newO X hx hZ hown w wi wz eT hg hd hc hl
  exact own_to st (k T' h' _ rfl X' e' E' A' D')
/-! arrays of ints, bytes, booleans: how many places, and what each holds -/
def own_upd (f : Nat → Int32) (j : Nat) (x : Int32) : Nat → Int32 := fun i => if i = j then x else f i
def own_A (Z : State) (h : Heap) (a : Addr) (ty : FieldType) (n : Nat) (f : Nat → Int32) : Prop := ∃ cl : Cell, Arr Z h a cl ty ∧ cl.slots.size = n ∧ ∀ j, j < n → cl.slots[j]? = some (.int (f j))
variable {a b : Addr} {ty : FieldType} {n : Nat} {f : Nat → Int32} {ws : List Addr} {v : Value} {sl : Nat}
theorem own_A.lt (F : own_A Z h a ty n f) : a < h.size := by obtain ⟨_, A, -⟩ := F; exact A.lt
theorem own_A.ext (F : own_A Z h a ty n f) (E : Ext h h') : own_A Z h' a ty n f := by obtain ⟨cl, A, r⟩ := F; exact ⟨cl, A.ext E, r⟩
theorem own_A.other (F : own_A Z h b ty n f) (W : Wr h h' a sl v) (q : b ≠ a) : own_A Z h' b ty n f := by obtain ⟨cl, A, r⟩ := F; exact ⟨cl, A.other W q, r⟩
theorem own_A.keep (F : own_A Z h a ty n f) (K : Keep h h' ws) (q : a ∉ ws) : own_A Z h' a ty n f := by obtain ⟨cl, A, r⟩ := F; exact ⟨cl, ⟨K.2.1 a cl A.1 q, A.2⟩, r⟩
theorem own_A.congr {f' : Nat → Int32} (F : own_A Z h a ty n f) (q : ∀ j, j < n → f j = f' j) : own_A Z h a ty n f' := by obtain ⟨cl, A, r1, r2⟩ := F; exact ⟨cl, A, r1, fun j hj => by rw [r2 j hj, q j hj]⟩
theorem own_A.set {cl : Cell} {j : Nat} {x : Int32} (A : Arr Z h a cl ty) (q1 : cl.slots.size = n) (q2 : ∀ j, j < n → cl.slots[j]? = some (.int (f j))) (W : Wr h h' a j (.int x)) (hj : j < n) : own_A Z h' a ty n (own_upd f j x) := by
  refine ⟨_, A.same W, by rw [sz_set, q1], fun i hi => ?_⟩
  simp only [Cell.setSlot, Array.getElem?_setIfInBounds, own_upd]
  by_cases e : j = i
  · subst e
    simp [q1, hj]
  · rw [if_neg e, q2 i hi, if_neg (fun q => e q.symm)]
theorem own_in {j : Int32} {N : Nat} (h0 : ¬ j < 0) (h1 : j.toNatClampNeg < N) : ¬ (j < 0 ∨ N ≤ j.toNatClampNeg) := fun q => q.elim h0 (fun r => Nat.not_lt.mpr r h1)
theorem own_stI (X : Stand p l e R s m args below meth c T locs cells slots) (hx : p.tables.exec = Jvm.exec) (hZ : Z.Warmed39 s.vm) (eT : T.heap = h) (F : own_A Z h a .int n f) {j x : Int32} (h0 : ¬ j < 0) (h1 : j.toNatClampNeg < n) (hg : g.method = m) {rest : List Value} (hs : g.stack = .int x :: .int j :: .ref a :: rest) (hd : decode c.code g.pc = .ok (.iastore, 1))
    (k : ∀ T' h', Stand p l e R s m args below meth c T' (locs ++ [⟨a, j.toNatClampNeg⟩]) cells slots → T'.heap = h' → Wr h h' a j.toNatClampNeg (.int x) → own_A Z h' a .int n (own_upd f j.toNatClampNeg x) → own_Out p e below En T' { g with pc := g.pc + 1, stack := rest } Q kc ks) : own_Out p e below En T g Q kc ks := by
  obtain ⟨cl, A, q1, q2⟩ := F
  obtain ⟨T', h', X', e', W', st⟩ := stI X hx hZ eT A (own_in h0 (by rw [q1]; exact h1)) hg hs hd
  exact own_to st (k T' h' X' e' W' (own_A.set A q1 q2 W' h1))
theorem own_stZ (X : Stand p l e R s m args below meth c T locs cells slots) (hx : p.tables.exec = Jvm.exec) (hZ : Z.Warmed39 s.vm) (eT : T.heap = h) (F : own_A Z h a .boolean n f) {j x : Int32} (h0 : ¬ j < 0) (h1 : j.toNatClampNeg < n) (hg : g.method = m) {rest : List Value} (hs : g.stack = .int x :: .int j :: .ref a :: rest) (hd : decode c.code g.pc = .ok (.bastore, 1))
    (k : ∀ T' h', Stand p l e R s m args below meth c T' (locs ++ [⟨a, j.toNatClampNeg⟩]) cells slots → T'.heap = h' → Wr h h' a j.toNatClampNeg (.int (nar .boolean x)) → own_A Z h' a .boolean n (own_upd f j.toNatClampNeg (nar .boolean x)) → own_Out p e below En T' { g with pc := g.pc + 1, stack := rest } Q kc ks) : own_Out p e below En T g Q kc ks := by
  obtain ⟨cl, A, q1, q2⟩ := F
  obtain ⟨T', h', X', e', W', st⟩ := stZ X hx hZ eT A (own_in h0 (by rw [q1]; exact h1)) hg hs hd
  exact own_to st (k T' h' X' e' W' (own_A.set A q1 q2 W' h1))
theorem own_stB (X : Stand p l e R s m args below meth c T locs cells slots) (hx : p.tables.exec = Jvm.exec) (hZ : Z.Warmed39 s.vm) (eT : T.heap = h) (F : own_A Z h a .byte n f) {j x : Int32} (h0 : ¬ j < 0) (h1 : j.toNatClampNeg < n) (hg : g.method = m) {rest : List Value} (hs : g.stack = .int x :: .int j :: .ref a :: rest) (hd : decode c.code g.pc = .ok (.bastore, 1))
    (k : ∀ T' h', Stand p l e R s m args below meth c T' (locs ++ [⟨a, j.toNatClampNeg⟩]) cells slots → T'.heap = h' → Wr h h' a j.toNatClampNeg (.int (nar .byte x)) → own_A Z h' a .byte n (own_upd f j.toNatClampNeg (nar .byte x)) → own_Out p e below En T' { g with pc := g.pc + 1, stack := rest } Q kc ks) : own_Out p e below En T g Q kc ks := by
  obtain ⟨cl, A, q1, q2⟩ := F
  obtain ⟨T', h', X', e', W', st⟩ := stB X hx hZ eT A (own_in h0 (by rw [q1]; exact h1)) hg hs hd
  exact own_to st (k T' h' X' e' W' (own_A.set A q1 q2 W' h1))
theorem own_newA (X : Stand p l e R s m args below meth c T locs cells slots) (hx : p.tables.exec = Jvm.exec) (hZ : Z.Warmed39 s.vm) {aty : ArrayType} (w : (Jvm.Cond.arrayClass (newarray.typeOf aty)).before a0 Z = true) (hdef : defaultValue (newarray.typeOf aty) = .int 0) (eT : T.heap = h) (hg : g.method = m) (hd : decode c.code g.pc = .ok (.newarray aty, 2)) {N : Int32} {rest : List Value} (hs : g.stack = .int N :: rest)
    (hn : ¬ N < 0) {cap : Nat} (hcap : N.toNatClampNeg ≤ cap) (hb : cap * 8 ≤ 536870912) (hc : cells + 1 ≤ R.cells) (hl : slots + cap ≤ R.slots)
    (k : ∀ T' h' a, a = h.size → Stand p l e R s m args below meth c T' locs (cells + 1) (slots + cap) → T'.heap = h' → Ext h h' → own_A Z h' a (newarray.typeOf aty) N.toNatClampNeg (fun _ => 0) → own_Out p e below En T' { g with pc := g.pc + 2, stack := .ref a :: rest } Q kc ks) : own_Out p e below En T g Q kc ks := by
  obtain ⟨T', h', cA, X', e', E', A', st⟩ := newP X hx hZ w eT hg hd hs hn hcap hb hc hl
  refine own_to st (k T' h' _ rfl X' e' E' ⟨_, A', sz_new _ _ _, fun j hj => ?_⟩)
  simp [newA, hdef, hj]
theorem own_len (X : Stand p l e R s m args below meth c T locs cells slots) (hx : p.tables.exec = Jvm.exec) (hZ : Z.Warmed39 s.vm) (eT : T.heap = h) (F : own_A Z h a ty n f) (hg : g.method = m) {rest : List Value} (hs : g.stack = .ref a :: rest) (hd : decode c.code g.pc = .ok (.arraylength, 1))
    (k : own_Out p e below En T { g with pc := g.pc + 1, stack := .int n.toInt32 :: rest } Q kc ks) : own_Out p e below En T g Q kc ks := by
  obtain ⟨cl, A, q1, q2⟩ := F
  subst q1
  exact own_to (X.arraylength hx (by rw [eT]; exact A.1) (State.isArrayOf_alike hZ.alike A.2.1) hg hs hd) k
theorem own_ldI (X : Stand p l e R s m args below meth c T locs cells slots) (hx : p.tables.exec = Jvm.exec) (hZ : Z.Warmed39 s.vm) (eT : T.heap = h) (F : own_A Z h a .int n f) {j : Int32} (h0 : ¬ j < 0) (h1 : j.toNatClampNeg < n) (hg : g.method = m) {rest : List Value} (hs : g.stack = .int j :: .ref a :: rest) (hd : decode c.code g.pc = .ok (.iaload, 1))
    (k : ∀ w : Int32, w = f j.toNatClampNeg → own_Out p e below En T { g with pc := g.pc + 1, stack := .int w :: rest } Q kc ks) : own_Out p e below En T g Q kc ks := by
  obtain ⟨cl, A, q1, q2⟩ := F
  exact own_to (X.iaload hx (by rw [eT]; exact A.1) (State.isArrayOf_alike hZ.alike A.2.1) A.2.2 (own_in h0 (by rw [q1]; exact h1)) (q2 _ h1) hg hs hd) (k _ rfl)
theorem own_ldZ (X : Stand p l e R s m args below meth c T locs cells slots) (hx : p.tables.exec = Jvm.exec) (hZ : Z.Warmed39 s.vm) (eT : T.heap = h) (F : own_A Z h a .boolean n f) {j : Int32} (h0 : ¬ j < 0) (h1 : j.toNatClampNeg < n) (hg : g.method = m) {rest : List Value} (hs : g.stack = .int j :: .ref a :: rest) (hd : decode c.code g.pc = .ok (.baload, 1))
    (k : ∀ w : Int32, w = f j.toNatClampNeg → own_Out p e below En T { g with pc := g.pc + 1, stack := .int w :: rest } Q kc ks) : own_Out p e below En T g Q kc ks := by
  obtain ⟨cl, A, q1, q2⟩ := F
  exact own_to (X.baloadBooleans hx (by rw [eT]; exact A.1) (State.isArrayOf_alike hZ.alike A.2.1) A.2.2 (own_in h0 (by rw [q1]; exact h1)) (q2 _ h1) hg hs hd) (k _ rfl)
theorem own_ldB (X : Stand p l e R s m args below meth c T locs cells slots) (hx : p.tables.exec = Jvm.exec) (hZ : Z.Warmed39 s.vm) (eT : T.heap = h) (F : own_A Z h a .byte n f) {j : Int32} (h0 : ¬ j < 0) (h1 : j.toNatClampNeg < n) (hg : g.method = m) {rest : List Value} (hs : g.stack = .int j :: .ref a :: rest) (hd : decode c.code g.pc = .ok (.baload, 1))
    (k : ∀ w : Int32, w = f j.toNatClampNeg → own_Out p e below En T { g with pc := g.pc + 1, stack := .int w :: rest } Q kc ks) : own_Out p e below En T g Q kc ks := by
  obtain ⟨cl, A, q1, q2⟩ := F
  exact own_to (X.baloadBytes hx (by rw [eT]; exact A.1) (State.isArrayOf_alike hZ.alike A.2.1) A.2.2 (own_in h0 (by rw [q1]; exact h1)) (q2 _ h1) hg hs hd) (k _ rfl)
theorem own_idx (x n : Int32) (N : Nat) (hn : n.toInt = (N : Int)) (h0 : 0 < N) : ¬ ((x &&& (2147483647 : Int32)) % n < 0) ∧ ((x &&& (2147483647 : Int32)) % n).toNatClampNeg < N := by
  have h1 := c_mask x 2147483647 31 (by decide) (by decide)
  have h2 := c_irem (x &&& 2147483647) n N hn
  have k : (0 : Int32).toInt = 0 := by decide
  have h3 : ¬ ((x &&& (2147483647 : Int32)) % n < 0) := by
    rw [Int32.lt_iff_toInt_lt, k, h2.1 (by omega)]
    have := Int.emod_nonneg (x &&& 2147483647).toInt (show (N : Int) ≠ 0 by omega)
    omega
  have h4 := nat_of h3
  have h5 := Int.emod_lt_of_pos (x &&& 2147483647).toInt (show (0 : Int) < N by omega)
  rw [h2.1 (by omega)] at h4
  exact ⟨h3, by omega⟩
theorem own_fs {k : Nat} {L : List Loc} (N : Fr k L) (q : k ≤ a) : Fr k (L ++ [⟨a, sl⟩]) := N.app fun y hy => by cases List.mem_singleton.mp hy; exact q
end OwnKit
section OwnKitW
/-! the same where a String constant may be resolved on the way: the Stand is over 's.setVm vm0', 'Since' speaks of the true start -/
variable {p : Program} {l : Launch} {e : Env} {R : Room} {s : State} {m : MethodId} {args : Array Value} {below : List Frame} {meth : Method} {c : Code} {T T' : State} {locs : List Loc} {cells slots kc ks : Nat} {g g' : JFrame} {Q : Option Value → Heap → List Loc → Prop} {Z : State} {h h' : Heap} {a0 : Array Value} {En : Outcome → State → List Loc → Nat → Nat → Prop} {vm0 : Vm} {k0 : Nat}
theorem own_moreW {o : Outcome} {t : State} {L : List Loc} {k n k' n' : Nat} (hE : ReturnedEndW s o t L k n) (h1 : k ≤ k') (h2 : n ≤ n') : ReturnedEndW s o t L k' n' := ⟨hE.1, hE.2.1, hE.2.2.1, hE.2.2.2.mono h1 h2⟩
def own_CW (l : Launch) (Z : State) (y : MethodName) (bytes : ByteArray) (maxL : Nat) (ret : Option FieldType) (rm : Room) (as' : Array Value) (h0 : Heap) (Q : Option Value → Heap → List Loc → Prop) : Prop :=
  ∀ ws : List Jvm.Cond, MetFree l y (head1 (Jvm.Cond.code y bytes maxL ret :: ws) rm) (fun a U => a = as' ∧ Z.Warmed39 U.vm ∧ U.heap = h0) (fun _ _ _ _ _ => True) (fun _ U o U' => ∃ v L, o = .returned v ∧ Q v U'.heap L ∧ ReturnedEndW U o U' L rm.cells rm.slots)
theorem own_metW {y : MethodName} {bytes : ByteArray} {maxL : Nat} {ret : Option FieldType} {rm : Room} {as' : Array Value} {h0 : Heap} (pl : plainFor y = true)
    (body : ∀ (p : Program) (e : Env) (s : State) (m : MethodId) (below : List Frame) (meth : Method) (c : Code) (s₁ : State), p.tables.exec = Jvm.exec → c.code = bytes → c.maxLocals = maxL → meth.sig.returnType = ret → meth.locks = false → s.vm.findClass y.cls = some m.cls → meth.name = y.name → Z.Warmed39 s.vm → Stand p l e rm (s.setVm s.vm) m as' below meth c s₁ [] 0 0 → s₁.heap = h0 → s.Since s.vm 0 → 0 ≤ h0.size → own_Out p e below (ReturnedEndW s) s₁ (entryFrame m as' maxL) Q rm.cells rm.slots) :
    own_CW l Z y bytes maxL ret rm as' h0 Q := by
  intro ws
  refine MetFree.of_bodySF pl hisR ?_
  intro p e s m args below meth c s₁ Bd hml0 hP hK
  obtain ⟨rfl, hZ, hh⟩ := hP
  exact body p e s m below meth c s₁ Bd.exec Bd.bytes hml0 Bd.returns (BodyLoose.notSynchronized Bd) (findClass_of_methodNamed Bd.named) ((name_of_methodNamed Bd.named Bd.method).1) hZ (Stand.of_body Bd) (by rw [← hh, Bd.state]; rfl) ((State.WarmedH.refl s).since 0) (Nat.zero_le _)
/-! returns -/
theorem own_retVW (X : Stand p l e R (s.setVm vm0) m args below meth c T locs cells slots) (hS : s.Since vm0 k0) (hk : k0 ≤ h.size) (eT : T.heap = h) (hx : p.tables.exec = Jvm.exec) (hlk : meth.locks = false) {pc : Nat} {Ls : Array Slot} {w : Value} {t : FieldType} {i : Instr} {rest : List Value} (hret : meth.sig.returnType = some t) (hn : narrow t w = w)
    (hi : (i = .ireturn ∧ (t = .int ∨ t = .boolean ∨ t = .byte ∨ t = .char ∨ t = .short) ∧ ∃ z, w = .int z) ∨ (i = .lreturn ∧ t = .long ∧ ∃ z, w = .long z) ∨ (i = .dreturn ∧ t = .double ∧ ∃ z, w = .double z) ∨ (i = .freturn ∧ t = .float ∧ ∃ z, w = .float z) ∨ (i = .areturn ∧ t.isReference = true ∧ w.isRef = true))
    (hd : decode c.code pc = .ok (i, 1)) (hc : cells ≤ kc) (hs : slots ≤ ks) (hQ : Q (some w) T.heap locs) : own_Out p e below (ReturnedEndW s) T (mkF m pc Ls (w :: rest)) Q kc ks := by
  obtain ⟨fs, hr, hrun, hended, hE⟩ := X.leaveW hS (by rw [eT]; exact hk) (v := some w) (fun h => by rw [hret] at h; cases h) hlk
  exact ⟨_, _, retOut X hx hret hn hi hd hr, hrun, hended, _, _, rfl, hQ, own_moreW hE hc hs⟩
theorem own_retAW (X : Stand p l e R (s.setVm vm0) m args below meth c T locs cells slots) (hS : s.Since vm0 k0) (hk : k0 ≤ h.size) (eT : T.heap = h) (hx : p.tables.exec = Jvm.exec) (hlk : meth.locks = false) {t : FieldType} (hret : meth.sig.returnType = some t) (ht : t.isReference = true) {pc : Nat} {Ls : Array Slot} {z : Addr} {rest : List Value}
    (hd : decode c.code pc = .ok (.areturn, 1)) (hc : cells ≤ kc) (hs : slots ≤ ks) (hQ : Q (some (.ref z)) T.heap locs) : own_Out p e below (ReturnedEndW s) T (mkF m pc Ls (.ref z :: rest)) Q kc ks :=
  own_retVW X hS hk eT hx hlk hret (by cases t <;> rfl) (Or.inr (Or.inr (Or.inr (Or.inr ⟨rfl, ht, rfl⟩)))) hd hc hs hQ
theorem own_retNW (X : Stand p l e R (s.setVm vm0) m args below meth c T locs cells slots) (hS : s.Since vm0 k0) (hk : k0 ≤ h.size) (eT : T.heap = h) (hx : p.tables.exec = Jvm.exec) (hlk : meth.locks = false) {t : FieldType} (hret : meth.sig.returnType = some t) (ht : t = .boolean ∨ t = .byte ∨ t = .char ∨ t = .short) {pc : Nat} {Ls : Array Slot} {z : Int32} {rest : List Value}
    (hd : decode c.code pc = .ok (.ireturn, 1)) (hc : cells ≤ kc) (hs : slots ≤ ks) (hQ : Q (some (.int (nar t z))) T.heap locs) : own_Out p e below (ReturnedEndW s) T (mkF m pc Ls (.int z :: rest)) Q kc ks := by
  obtain ⟨fs, hr, hrun, hended, hE⟩ := X.leaveW hS (by rw [eT]; exact hk) (v := some (.int (nar t z))) (fun h => by rw [hret] at h; cases h) hlk
  exact ⟨_, _, retN X hx hret ht hd hr, hrun, hended, _, _, rfl, hQ, own_moreW hE hc hs⟩
theorem own_ret0W (X : Stand p l e R (s.setVm vm0) m args below meth c T locs cells slots) (hS : s.Since vm0 k0) (hk : k0 ≤ h.size) (eT : T.heap = h) (hx : p.tables.exec = Jvm.exec) (hlk : meth.locks = false) (hret : meth.sig.returnType = none) {pc : Nat} {Ls : Array Slot}
    (hd : decode c.code pc = .ok (.return_, 1)) (hc : cells ≤ kc) (hs : slots ≤ ks) (hQ : Q none T.heap locs) : own_Out p e below (ReturnedEndW s) T (mkF m pc Ls []) Q kc ks := by
  obtain ⟨fs, hr, hrun, hended, hE⟩ := X.leaveW hS (by rw [eT]; exact hk) (v := none) (fun _ => rfl) hlk
  exact ⟨_, _, X.returnOut hx hret hd hr, hrun, hended, _, _, rfl, hQ, own_moreW hE hc hs⟩
/-! a String constant -/
theorem own_ldcS (X : Stand p l e R (s.setVm vm0) m args below meth c T locs cells slots) (hx : p.tables.exec = Jvm.exec) (hZ : Z.Warmed39 vm0) {own text : String} {index : Nat} (hown : vm0.findClass own = some m.cls) (hS : s.Since vm0 k0) (hk : k0 ≤ h.size) (w : (Jvm.Cond.stringLink own index text).before a0 Z = true) (wS : ∀ a ∈ Bundle.stringAtoms, a.before a0 Z = true)
    (eT : T.heap = h) (hg : g.method = m) (hd : decode c.code g.pc = .ok (.ldc index, 2)) {n : Nat} (hn : 4 * text.toList.length ≤ n) (hbig : n ≤ 536870912) (hc : cells + 2 ≤ R.cells) (hl : slots + (n + 4) ≤ R.slots)
    (k : ∀ (a : Addr) (T' : State) (h' : Heap) (k1 : Nat), Stand p l e R (s.setVm T'.vm) m args below meth c T' locs (cells + 2) (slots + (n + 4)) → T'.heap = h' → Ext h h' → Z.Warmed39 T'.vm → T'.vm.findClass own = some m.cls → s.Since T'.vm k1 → k1 ≤ h'.size → own_Out p e below En T' { g with pc := g.pc + 2, stack := .ref a :: g.stack } Q kc ks) : own_Out p e below En T g Q kc ks := by
  obtain ⟨a, T', h', k1, X', e', E', S', K', Z', o', st⟩ := ldcS X hx hZ hown w wS eT hS hk hg hd hn hbig hc hl
  exact own_to st (k a T' h' k1 X' e' E' Z' o' S' K')
/-! calls of a method that may resolve a String constant -/
theorem own_fold {vm1 : Vm} {n1 : Nat} {own : String} (hZ : Z.Warmed39 vm0) (hown : vm0.findClass own = some m.cls) (hS : s.Since vm0 k0) (h2 : (s.setVm vm0).Since vm1 n1) (hk : k0 ≤ n1) : Z.Warmed39 vm1 ∧ vm1.findClass own = some m.cls ∧ s.Since vm1 n1 :=
  ⟨State.Warmed39.trans (t := s.setVm vm0) hZ h2.1, by rw [h2.1.alike.findClass]; exact hown, hS.trans h2 hk⟩
theorem own_callVW (X : Stand p l e R (s.setVm vm0) m args below meth c T locs cells slots) (hx : p.tables.exec = Jvm.exec) (hZ : Z.Warmed39 vm0) {own C : String} (hown : vm0.findClass own = some m.cls) (hS : s.Since vm0 k0) (hk : k0 ≤ h.size) {index : Nat} {y : MethodName} {bytes : ByteArray} {maxL : Nat} {ret : Option FieldType} {rm : Room} {W : Nat} {Qc : Option Value → Heap → List Loc → Prop} {a : Addr} {argsL rest : List Value}
    (w1 : (Jvm.Cond.methodLink own index y).before a0 Z = true) (w5 : (Jvm.Cond.declares y).before a0 Z = true) (w6 : (Jvm.Cond.selects C y y).before a0 Z = true) (w2 : (Jvm.Cond.instanceMethod y).before a0 Z = true) (w3 : (Jvm.Cond.initialized y.cls).before a0 Z = true) (w4 : (Jvm.Cond.code y bytes maxL ret).before a0 Z = true) (hy : y.cls ≠ "java/lang/invoke/MethodHandle" ∧ y.cls ≠ "java/lang/invoke/VarHandle")
    (hM : own_CW l Z y bytes maxL ret rm (.ref a :: argsL).toArray h Qc) (hf : rm.frames + 1 ≤ R.frames) (hl : W + (maxL + 11) + rm.locals ≤ R.locals) (eT : T.heap = h) (E : Exa Z h a C) (hg : g.method = m) (hsize : g.locals.size = c.maxLocals) (hlen : ∀ sig, parseMethodDescriptor y.desc = some sig → argsL.length = sig.parameters.length)
    (hstack : g.stack = argsL.reverse ++ .ref a :: rest) (hW : 2 * g.monitorRoom + (rest.map fun v => v.category).sum ≤ W) (hd : decode c.code g.pc = .ok (.invokevirtual index, 3)) (hc : cells + rm.cells ≤ R.cells) (hs : slots + rm.slots ≤ R.slots)
    (k : ∀ (v : Option Value) (T' : State) (h' : Heap) (L : List Loc), Stand p l e R (s.setVm T'.vm) m args below meth c T' (locs ++ L) (cells + rm.cells) (slots + rm.slots) → T'.heap = h' → Qc v h' L → Z.Warmed39 T'.vm → T'.vm.findClass own = some m.cls → s.Since T'.vm h'.size → own_Out p e below En T' { g with pc := g.pc + 3, stack := v.toList ++ rest } Q kc ks) : own_Out p e below En T g Q kc ks := by
  obtain ⟨cq, kq, qa, qb, qc⟩ := isOf (s := s.setVm vm0) hZ eT E
  obtain ⟨v, _, ⟨T', L', k', n'⟩, -, X', S', gr, ⟨Lc, hQ, l1, l2, l3⟩, st⟩ := X.virtualBackS hx hown (mvT (s := s.setVm vm0) hZ w1) (mvT (s := s.setVm vm0) hZ w5) (notFace_of_selects (args := #[]) (mvT (s := s.setVm vm0) hZ w6)) (mvT (s := s.setVm vm0) hZ w6) (mvT (s := s.setVm vm0) hZ w2) hy (backOfS (W := W) (hM []) hZ w4 w3 hf hl) qa qc hg hsize (Steps.refl _) hlen hstack hW hd (fun _ _ => ⟨rfl, eT, hc, hs⟩)
  dsimp only [Pt.U, Pt.locs, Pt.cells, Pt.slots] at X' l1 l2 l3 st hQ S' gr
  subst l1 l2 l3
  obtain ⟨f1, f2, f3⟩ := own_fold hZ hown hS S' (Nat.le_trans hk (by rw [← eT]; exact gr))
  exact own_to (fun t k => st.trans k) (k v T' _ Lc X' rfl hQ f1 f2 f3)
/-! a constructor named through a nest mate -/
theorem own_callCN (X : Stand p l e R s m args below meth c T locs cells slots) (hx : p.tables.exec = Jvm.exec) (hZ : Z.Warmed39 s.vm) {own host : String} (hown : s.vm.findClass own = some m.cls) {index : Nat} {y : MethodName} {bytes : ByteArray} {maxL : Nat} {rm : Room} {W : Nat} {Qc : Option Value → Heap → List Loc → Prop} {a : Addr} {argsL rest : List Value}
    (hy1 : y.name = "<init>") (w1 : (Jvm.Cond.methodLinkNest own index y host).before a0 Z = true) (w2 : (Jvm.Cond.instanceMethod y).before a0 Z = true) (w3 : (Jvm.Cond.initialized y.cls).before a0 Z = true) (w4 : (Jvm.Cond.code y bytes maxL none).before a0 Z = true) (hy : y.cls ≠ "java/lang/invoke/MethodHandle" ∧ y.cls ≠ "java/lang/invoke/VarHandle")
    (hM : own_C l Z y bytes maxL none rm (.ref a :: argsL).toArray h Qc) (hf : rm.frames + 1 ≤ R.frames) (hl : W + (maxL + 11) + rm.locals ≤ R.locals) (eT : T.heap = h) (hg : g.method = m) (hsize : g.locals.size = c.maxLocals) (hlen : ∀ sig, parseMethodDescriptor y.desc = some sig → argsL.length = sig.parameters.length)
    (hstack : g.stack = argsL.reverse ++ .ref a :: rest) (hW : 2 * g.monitorRoom + (rest.map fun v => v.category).sum ≤ W) (hd : decode c.code g.pc = .ok (.invokespecial index, 3)) (hc : cells + rm.cells ≤ R.cells) (hs : slots + rm.slots ≤ R.slots)
    (k : ∀ (v : Option Value) (T' : State) (h' : Heap) (L : List Loc), Stand p l e R s m args below meth c T' (locs ++ L) (cells + rm.cells) (slots + rm.slots) → T'.heap = h' → Qc v h' L → own_Out p e below En T' { g with pc := g.pc + 3, stack := v.toList ++ rest } Q kc ks) : own_Out p e below En T g Q kc ks := by
  have w1' : (Jvm.Cond.methodLinkNest own index y host).before args s = true := (Cond.methodLinkNest_wide hZ w1 :)
  obtain ⟨v, _, ⟨T', L', k', n'⟩, -, X', ⟨Lc, hQ, l1, l2, l3⟩, st⟩ := X.specialBackNest hx hy1 hown w1' (mvT hZ w2) (mvT hZ w4) hy (backOf (W := W) (hM []) hZ w4 w3 hf hl) hg hsize (Steps.refl _) hlen hstack hW hd (fun _ _ => ⟨rfl, eT, hc, hs⟩)
  dsimp only [Pt.U, Pt.locs, Pt.cells, Pt.slots] at X' l1 l2 l3 st hQ
  subst l1 l2 l3
  exact own_to (fun t k => st.trans k) (k v T' _ Lc X' rfl hQ)
/-! a constructor whose entry has been resolved -/
theorem own_pool (e : Env) {U : State} {own : String} {cur : ClassId} {idx : Nat} {t : MethodName} {tm : MethodId} (hown : U.vm.findClass own = some cur) (href : (Jvm.Cond.methodRef own idx t).before args U = true) (n1 : U.methodNamed? t = some tm) :
    ∃ (dk : Class) (cf : ClassFile) (ci nt : Nat), U.vm.classes[cur]? = some dk ∧ dk.cf = some cf ∧ (cf.constantPool[idx]? = some (.methodref ci nt) ∨ cf.constantPool[idx]? = some (.interfaceMethodref ci nt)) ∧ U.vm.classReady cur ci tm.cls := by
  obtain ⟨m', c', ci, b, q1, q2, q3, q4, q5⟩ := Cond.methodRef_spec (e := e) hown href
  have hnames : U.names own idx (.method t.cls t.name t.desc) = true := by
    simp only [Cond.before, Cond.holds, Cond.value, hown, q1] at href
    simp only [beq_iff_eq, Option.some.injEq, Bool.and_eq_true] at href
    exact href.1.1
  obtain ⟨cp, hcp, hn⟩ := State.names_spec hnames
  obtain ⟨ci', nt, hentry, hnt, -⟩ := namesOf?_method hn
  obtain ⟨k, cf, hk, hcf, rfl⟩ := State.poolOf?_spec hown hcp
  obtain ⟨b', hask⟩ := memberRef_ask' (e := e) hk hcf hentry hnt
  rw [hask] at q4
  cases q4
  have hcc : tm.cls = c' := Option.some.inj ((findClass_of_methodNamed n1).symm.trans q3)
  exact ⟨k, cf, _, nt, hk, hcf, hentry, hcc ▸ q5⟩
theorem own_initRef {tb : Tables} [Ours tb] {U : State} {mm : MethodId} {cc : Code} (h : At U mm cc below) (hexec : tb.exec = Jvm.exec) {own : String} (hown : U.vm.findClass own = some mm.cls) {idx : Nat} {t : MethodName} (ht1 : t.name = "<init>") (hnot : t.cls ≠ "java/lang/invoke/MethodHandle" ∧ t.cls ≠ "java/lang/invoke/VarHandle")
    {bytes : ByteArray} {maxL : Nat} (href : (Jvm.Cond.methodRef own idx t).before args U = true) (hinst : (Jvm.Cond.instanceMethod t).before args U = true) (hcode : (Jvm.Cond.code t bytes maxL none).before args U = true) {f : JFrame} (hf : f.method = mm) {a : Addr} {argsL rest : List Value}
    (hlen : ∀ sig, parseMethodDescriptor t.desc = some sig → argsL.length = sig.parameters.length) (hstack : f.stack = argsL.reverse ++ .ref a :: rest) (hd : decode cc.code f.pc = .ok (.invokespecial idx, 3)) :
    ∃ tm, U.methodNamed? t = some tm ∧ ∀ target, (∀ acts, Steps tb e below (doInvoke e (U.setTop { f with stack := rest }) acts tm (.ref a :: argsL).toArray).1 target) → Steps tb e below (U.setTop f) target := by
  subst hf
  obtain ⟨tm, mt, n1, n2, n3, n4⟩ := Cond.instanceMethod_spec hinst
  obtain ⟨mt', cd, n2', -, -, -, -, -, -, hsig⟩ := Cond.code_spec n1 hcode
  cases n2.symm.trans n2'
  obtain ⟨kt, hkt, -⟩ := className_of_methodNamed n1
  obtain ⟨hname, hdesc⟩ := name_of_methodNamed n1 n2
  have hfm := State.methodFound?_of_named n1 hnot
  obtain ⟨m', c', ci, b, q1, q2, q3, q4, q5⟩ := Cond.methodRef_spec (e := e) hown href
  cases hfm.symm.trans q1
  refine ⟨tm, n1, fun target hrest => ?_⟩
  have hfound : lookupSpecial U.vm tm.cls "<init>" mt.desc = .method tm := by rw [hdesc, ← ht1]; exact lookupSpecial_of_named n1 n2 n3
  have hpool := own_pool e hown href n1
  jvm_step h [hexec, hd, invokespecial.wp_init (e := e) (s := U) (k := kt) (meth := mt) (m := tm) (a := a) (args := argsL) (rest := rest) (f := f) h.top hpool q2 hkt n2 (by rw [hname]; exact ht1) n3 n4 hfound (hlen _ hsig) hstack]
  exact hrest
theorem own_callCR (X : Stand p l e R s m args below meth c T locs cells slots) (hx : p.tables.exec = Jvm.exec) (hZ : Z.Warmed39 s.vm) {own : String} (hown : s.vm.findClass own = some m.cls) {index : Nat} {y : MethodName} {bytes : ByteArray} {maxL : Nat} {rm : Room} {W : Nat} {Qc : Option Value → Heap → List Loc → Prop} {a : Addr} {argsL rest : List Value}
    (hy1 : y.name = "<init>") (w1 : (Jvm.Cond.methodRef own index y).before a0 Z = true) (w2 : (Jvm.Cond.instanceMethod y).before a0 Z = true) (w3 : (Jvm.Cond.initialized y.cls).before a0 Z = true) (w4 : (Jvm.Cond.code y bytes maxL none).before a0 Z = true) (hy : y.cls ≠ "java/lang/invoke/MethodHandle" ∧ y.cls ≠ "java/lang/invoke/VarHandle")
    (hM : own_C l Z y bytes maxL none rm (.ref a :: argsL).toArray h Qc) (hf : rm.frames + 1 ≤ R.frames) (hl : W + (maxL + 11) + rm.locals ≤ R.locals) (eT : T.heap = h) (hg : g.method = m) (hsize : g.locals.size = c.maxLocals) (hlen : ∀ sig, parseMethodDescriptor y.desc = some sig → argsL.length = sig.parameters.length)
    (hstack : g.stack = argsL.reverse ++ .ref a :: rest) (hW : 2 * g.monitorRoom + (rest.map fun v => v.category).sum ≤ W) (hd : decode c.code g.pc = .ok (.invokespecial index, 3)) (hc : cells + rm.cells ≤ R.cells) (hs : slots + rm.slots ≤ R.slots)
    (k : ∀ (v : Option Value) (T' : State) (h' : Heap) (L : List Loc), Stand p l e R s m args below meth c T' (locs ++ L) (cells + rm.cells) (slots + rm.slots) → T'.heap = h' → Qc v h' L → own_Out p e below En T' { g with pc := g.pc + 3, stack := v.toList ++ rest } Q kc ks) : own_Out p e below En T g Q kc ks := by
  have hT : Z.Warmed39 T.vm := wtrans hZ X.warmed
  obtain ⟨mz, _, nz, -⟩ := Cond.instanceMethod_spec w2
  have w1' : (Jvm.Cond.methodRef own index y).before a0 T = true := (Cond.methodRef_warmed39 hT nz hy w1 :)
  have hownT : T.vm.findClass own = some m.cls := by rw [X.warmed.alike.findClass]; exact hown
  obtain ⟨mk, n1, hstep⟩ := own_initRef (e := e) X.here hx hownT hy1 hy w1' (mvT hT w2) (mvT hT w4) (f := g) hg hlen hstack hd
  have hK := backOf (s := s) (p := p) (e := e) (below := below) (args := args) (len := 3) (R := R) (W := W) (hM []) hZ w4 w3 hf hl
  obtain ⟨v, ⟨T', L', k', n'⟩, X', ⟨Lc, hQ, l1, l2, l3⟩, hsteps⟩ := hK m meth c ⟨T, locs, cells, slots⟩ { g with stack := rest } (.invokespecial index) mk (.ref a :: argsL).toArray X hg hsize hd hW n1 ⟨rfl, eT, hc, hs⟩
  dsimp only [Pt.U, Pt.locs, Pt.cells, Pt.slots] at X' l1 l2 l3 hsteps hQ
  subst l1 l2 l3
  exact own_to (fun t k => (hstep _ fun acts => by rw [doInvoke_state]; exact Steps.refl _).trans (hsteps.trans k)) (k v T' _ Lc X' rfl hQ)
end OwnKitW
theorem own_atoms : ∀ a ∈ Bundle.stringAtoms, a ∈ tables_1 := by decide +kernel
theorem d2_0 : decode prog_57_method_2_code 0 = .ok (.aload_n 0, 1) := by decide +kernel
theorem d2_1 : decode prog_57_method_2_code 1 = .ok (.invokespecial 7, 3) := by decide +kernel
theorem d2_4 : decode prog_57_method_2_code 4 = .ok (.aload_n 0, 1) := by decide +kernel
theorem d2_5 : decode prog_57_method_2_code 5 = .ok (.aload_n 1, 1) := by decide +kernel
theorem d2_6 : decode prog_57_method_2_code 6 = .ok (.putfield 12, 3) := by decide +kernel
theorem d2_9 : decode prog_57_method_2_code 9 = .ok (.aload_n 0, 1) := by decide +kernel
theorem d2_10 : decode prog_57_method_2_code 10 = .ok (.iload_n 2, 1) := by decide +kernel
theorem d2_11 : decode prog_57_method_2_code 11 = .ok (.putfield 16, 3) := by decide +kernel
theorem d2_14 : decode prog_57_method_2_code 14 = .ok (.aload_n 0, 1) := by decide +kernel
theorem d2_15 : decode prog_57_method_2_code 15 = .ok (.iload_n 3, 1) := by decide +kernel
theorem d2_16 : decode prog_57_method_2_code 16 = .ok (.putfield 20, 3) := by decide +kernel
theorem d2_19 : decode prog_57_method_2_code 19 = .ok (.return_, 1) := by decide +kernel
theorem pn_0 : plainName "com/example/pathwarden/pathwarden/util/DerReader" = true := by first | (simp [plainName, overriddenIn]; done) | decide +kernel
theorem ef_2 (m : MethodId) (o0 : Addr) (ab : Addr) (u2 : Int32) (u3 : Int32) : entryFrame m #[(.ref o0), (.ref ab), (.int u2), (.int u3)] 4 = mkF m 0 #[.val (.ref o0), .val (.ref ab), .val (.int u2), .val (.int u3)] [] := by first | (simp [entryFrame, mkF, argsToLocals, Value.category]; done) | rfl
def Q2 (Z : State) (o0 : Addr) (ab : Addr) (u2 : Int32) (u3 : Int32) (h0 : Heap) (n0 : Nat) (v : Option Value) (h : Heap) (L : List Loc) : Prop := v = none ∧ Fr n0 L ∧ Keep h0 h [o0] ∧ Fld Z h o0 "com/example/pathwarden/pathwarden/util/DerReader" "bytes" "[B" (.ref ab) ∧ Fld Z h o0 "com/example/pathwarden/pathwarden/util/DerReader" "position" "I" (.int u2) ∧ Fld Z h o0 "com/example/pathwarden/pathwarden/util/DerReader" "end" "I" (.int u3)
set_option maxRecDepth 65536 in
set_option maxHeartbeats 40000000 in
theorem rm2 (l : Launch) (Z : State) (a0 : Array Value) (hw : ∀ d ∈ tables_1, d.before a0 Z = true) (o0 : Addr) (ab : Addr) (u2 : Int32) (u3 : Int32) (h0 : Heap) (n0 : Nat) (Z0 : n0 ≤ h0.size) (E_o0 : Exa Z h0 o0 "com/example/pathwarden/pathwarden/util/DerReader") (F_o0_bytes : Fld Z h0 o0 "com/example/pathwarden/pathwarden/util/DerReader" "bytes" "[B" .null) (F_o0_position : Fld Z h0 o0 "com/example/pathwarden/pathwarden/util/DerReader" "position" "I" (.int (0 : Int32))) (F_o0_end : Fld Z h0 o0 "com/example/pathwarden/pathwarden/util/DerReader" "end" "I" (.int (0 : Int32))) (g_o0 : n0 ≤ o0) :
    own_C l Z (⟨"com/example/pathwarden/pathwarden/util/DerReader", "<init>", "([BII)V"⟩ : MethodName) prog_57_method_2_code 4 none ({ frames := 1, cells := 0, slots := 0, locals := 12 } : Room) #[(.ref o0), (.ref ab), (.int u2), (.int u3)] h0 (Q2 Z o0 ab u2 u3 h0 n0) := by
  refine own_met (plainFor_of_name pn_0) ?_
  intro p e s m below meth c s₁ hx hby hml hret hlk hown hnm hZ X0 e0
  refine own_cast (ef_2 m o0 ab u2 u3) ?_
  have N0 := Fr.nil n0
  have K := Keep.refl h0 [o0]
  show own_Out p e below _ s₁ (mkF m 0 #[.val (.ref o0), .val (.ref ab), .val (.int u2), .val (.int u3)] []) _ _ _
  refine own_to (fun t k => XS.aloadN X0.here hx rfl (hb hby d2_0) rfl rfl k) ?_
  show own_Out p e below _ s₁ (mkF m 1 #[.val (.ref o0), .val (.ref ab), .val (.int u2), .val (.int u3)] [(.ref o0)]) _ _ _
  obtain ⟨T1, X1, e1, st1⟩ := initO X0 hx hZ hown (hw _ (List.mem_of_getElem? (i := 10) rfl)) (hw _ (List.mem_of_getElem? (i := 11) rfl)) (hw _ (List.mem_of_getElem? (i := 12) rfl)) e0 (g := (mkF m 1 #[.val (.ref o0), .val (.ref ab), .val (.int u2), .val (.int u3)] [(.ref o0)])) rfl (by rw [hml]; rfl) rfl (hb hby d2_1) (by decide) (W := 0) (by show 2 * 0 + _ ≤ _; exact Nat.le_of_eq rfl) (by decide)
  refine own_to st1 ?_
  show own_Out p e below _ T1 (mkF m 4 #[.val (.ref o0), .val (.ref ab), .val (.int u2), .val (.int u3)] []) _ _ _
  refine own_to (fun t k => XS.aloadN X1.here hx rfl (hb hby d2_4) rfl rfl k) ?_
  show own_Out p e below _ T1 (mkF m 5 #[.val (.ref o0), .val (.ref ab), .val (.int u2), .val (.int u3)] [(.ref o0)]) _ _ _
  refine own_to (fun t k => XS.aloadN X1.here hx rfl (hb hby d2_5) rfl rfl k) ?_
  show own_Out p e below _ T1 (mkF m 6 #[.val (.ref o0), .val (.ref ab), .val (.int u2), .val (.int u3)] [(.ref ab), (.ref o0)]) _ _ _
  refine own_putF X1 hx hZ hown (hw _ (List.mem_of_getElem? (i := 13) rfl)) e1 F_o0_bytes E_o0 (Or.inr ⟨(hw _ (List.mem_of_getElem? (i := 14) rfl)), rfl, hnm⟩) (hw _ (List.mem_of_getElem? (i := 2) rfl)) (ty := (.array .byte)) (by decide) rfl rfl rfl rfl (hb hby d2_6) fun T2 hh2 X2 e2 W2 => ?_
  have E_o0 := E_o0.wr W2
  have F_o0_bytes := F_o0_bytes.same W2
  have F_o0_position := F_o0_position.other W2 (Or.inr (slot_ne (Or.inl (hw _ (List.mem_of_getElem? (i := 16) rfl))) (Or.inr (hw _ (List.mem_of_getElem? (i := 14) rfl))) (by decide) (t := .int) (t' := (.array .byte)) (by decide) (by decide)))
  have F_o0_end := F_o0_end.other W2 (Or.inr (slot_ne (Or.inr (hw _ (List.mem_of_getElem? (i := 18) rfl))) (Or.inr (hw _ (List.mem_of_getElem? (i := 14) rfl))) (by decide) (t := .int) (t' := (.array .byte)) (by decide) (by decide)))
  have K := K.wr W2 (Or.inl (by simp))
  have Z0 := Nat.le_trans Z0 (Nat.le_of_eq W2.size.symm)
  have N2 := own_fs (sl := Jvm.RoadKit.slotOf Z "com/example/pathwarden/pathwarden/util/DerReader" "bytes" "[B") N0 g_o0
  show own_Out p e below _ T2 (mkF m 9 #[.val (.ref o0), .val (.ref ab), .val (.int u2), .val (.int u3)] []) _ _ _
  refine own_to (fun t k => XS.aloadN X2.here hx rfl (hb hby d2_9) rfl rfl k) ?_
  show own_Out p e below _ T2 (mkF m 10 #[.val (.ref o0), .val (.ref ab), .val (.int u2), .val (.int u3)] [(.ref o0)]) _ _ _
  refine own_to (fun t k => XS.iloadN X2.here hx rfl (hb hby d2_10) rfl k) ?_
  show own_Out p e below _ T2 (mkF m 11 #[.val (.ref o0), .val (.ref ab), .val (.int u2), .val (.int u3)] [(.int u2), (.ref o0)]) _ _ _
  refine own_putF X2 hx hZ hown (hw _ (List.mem_of_getElem? (i := 15) rfl)) e2 F_o0_position E_o0 (Or.inl (hw _ (List.mem_of_getElem? (i := 16) rfl))) (hw _ (List.mem_of_getElem? (i := 2) rfl)) (ty := .int) (by decide) rfl rfl rfl rfl (hb hby d2_11) fun T3 hh3 X3 e3 W3 => ?_
  have E_o0 := E_o0.wr W3
  have F_o0_bytes := F_o0_bytes.other W3 (Or.inr (slot_ne (Or.inr (hw _ (List.mem_of_getElem? (i := 14) rfl))) (Or.inl (hw _ (List.mem_of_getElem? (i := 16) rfl))) (by decide) (t := (.array .byte)) (t' := .int) (by decide) (by decide)))
  have F_o0_position := F_o0_position.same W3
  have F_o0_end := F_o0_end.other W3 (Or.inr (slot_ne (Or.inr (hw _ (List.mem_of_getElem? (i := 18) rfl))) (Or.inl (hw _ (List.mem_of_getElem? (i := 16) rfl))) (by decide) (t := .int) (t' := .int) (by decide) (by decide)))
  have K := K.wr W3 (Or.inl (by simp))
  have Z0 := Nat.le_trans Z0 (Nat.le_of_eq W3.size.symm)
  have N3 := own_fs (sl := Jvm.RoadKit.slotOf Z "com/example/pathwarden/pathwarden/util/DerReader" "position" "I") N2 g_o0
  show own_Out p e below _ T3 (mkF m 14 #[.val (.ref o0), .val (.ref ab), .val (.int u2), .val (.int u3)] []) _ _ _
  refine own_to (fun t k => XS.aloadN X3.here hx rfl (hb hby d2_14) rfl rfl k) ?_
  show own_Out p e below _ T3 (mkF m 15 #[.val (.ref o0), .val (.ref ab), .val (.int u2), .val (.int u3)] [(.ref o0)]) _ _ _
  refine own_to (fun t k => XS.iloadN X3.here hx rfl (hb hby d2_15) rfl k) ?_
  show own_Out p e below _ T3 (mkF m 16 #[.val (.ref o0), .val (.ref ab), .val (.int u2), .val (.int u3)] [(.int u3), (.ref o0)]) _ _ _
  refine own_putF X3 hx hZ hown (hw _ (List.mem_of_getElem? (i := 17) rfl)) e3 F_o0_end E_o0 (Or.inr ⟨(hw _ (List.mem_of_getElem? (i := 18) rfl)), rfl, hnm⟩) (hw _ (List.mem_of_getElem? (i := 2) rfl)) (ty := .int) (by decide) rfl rfl rfl rfl (hb hby d2_16) fun T4 hh4 X4 e4 W4 => ?_
  have E_o0 := E_o0.wr W4
  have F_o0_bytes := F_o0_bytes.other W4 (Or.inr (slot_ne (Or.inr (hw _ (List.mem_of_getElem? (i := 14) rfl))) (Or.inr (hw _ (List.mem_of_getElem? (i := 18) rfl))) (by decide) (t := (.array .byte)) (t' := .int) (by decide) (by decide)))
  have F_o0_position := F_o0_position.other W4 (Or.inr (slot_ne (Or.inl (hw _ (List.mem_of_getElem? (i := 16) rfl))) (Or.inr (hw _ (List.mem_of_getElem? (i := 18) rfl))) (by decide) (t := .int) (t' := .int) (by decide) (by decide)))
  have F_o0_end := F_o0_end.same W4
  have K := K.wr W4 (Or.inl (by simp))
  have Z0 := Nat.le_trans Z0 (Nat.le_of_eq W4.size.symm)
  have N4 := own_fs (sl := Jvm.RoadKit.slotOf Z "com/example/pathwarden/pathwarden/util/DerReader" "end" "I") N3 g_o0
  show own_Out p e below _ T4 (mkF m 19 #[.val (.ref o0), .val (.ref ab), .val (.int u2), .val (.int u3)] []) _ _ _
  refine own_ret0 X4 hx hlk hret (hb hby d2_19) (by decide) (by decide) ?_
  rw [e4]
  exact ⟨rfl, N4, K, F_o0_bytes, F_o0_position, F_o0_end⟩
theorem d1_0 : decode prog_57_method_1_code 0 = .ok (.aload_n 0, 1) := by decide +kernel
theorem d1_1 : decode prog_57_method_1_code 1 = .ok (.aload_n 1, 1) := by decide +kernel
theorem d1_2 : decode prog_57_method_1_code 2 = .ok (.iconst 0, 1) := by decide +kernel
theorem d1_3 : decode prog_57_method_1_code 3 = .ok (.aload_n 1, 1) := by decide +kernel
theorem d1_4 : decode prog_57_method_1_code 4 = .ok (.arraylength, 1) := by decide +kernel
theorem d1_5 : decode prog_57_method_1_code 5 = .ok (.invokespecial 1, 3) := by decide +kernel
theorem d1_8 : decode prog_57_method_1_code 8 = .ok (.return_, 1) := by decide +kernel
theorem ef_1 (m : MethodId) (o0 : Addr) (ab : Addr) : entryFrame m #[(.ref o0), (.ref ab)] 2 = mkF m 0 #[.val (.ref o0), .val (.ref ab)] [] := by first | (simp [entryFrame, mkF, argsToLocals, Value.category]; done) | rfl
def Q1 (Z : State) (o0 : Addr) (ab : Addr) (N : Nat) (fb : Nat → Int32) (h0 : Heap) (n0 : Nat) (v : Option Value) (h : Heap) (L : List Loc) : Prop := v = none ∧ Fr n0 L ∧ Keep h0 h [o0] ∧ Fld Z h o0 "com/example/pathwarden/pathwarden/util/DerReader" "bytes" "[B" (.ref ab) ∧ Fld Z h o0 "com/example/pathwarden/pathwarden/util/DerReader" "position" "I" (.int (0 : Int32)) ∧ Fld Z h o0 "com/example/pathwarden/pathwarden/util/DerReader" "end" "I" (.int (Nat.toInt32 N))
theorem pd_0 : parseMethodDescriptor "([BII)V" = some ⟨[(.array .byte), .int, .int], none⟩ := by decide +kernel
set_option maxRecDepth 65536 in
set_option maxHeartbeats 40000000 in
theorem rm1 (l : Launch) (Z : State) (a0 : Array Value) (hw : ∀ d ∈ tables_1, d.before a0 Z = true) (o0 : Addr) (ab : Addr) (N : Nat) (fb : Nat → Int32) (h0 : Heap) (n0 : Nat) (Z0 : n0 ≤ h0.size) (E_o0 : Exa Z h0 o0 "com/example/pathwarden/pathwarden/util/DerReader") (F_o0_bytes : Fld Z h0 o0 "com/example/pathwarden/pathwarden/util/DerReader" "bytes" "[B" .null) (F_o0_position : Fld Z h0 o0 "com/example/pathwarden/pathwarden/util/DerReader" "position" "I" (.int (0 : Int32))) (F_o0_end : Fld Z h0 o0 "com/example/pathwarden/pathwarden/util/DerReader" "end" "I" (.int (0 : Int32))) (g_o0 : n0 ≤ o0) (A_ab : own_A Z h0 ab .byte N fb) (ne_ab_o0 : ab ≠ o0) :
    own_C l Z (⟨"com/example/pathwarden/pathwarden/util/DerReader", "<init>", "([B)V"⟩ : MethodName) prog_57_method_1_code 2 none ({ frames := 2, cells := 0, slots := 0, locals := 27 } : Room) #[(.ref o0), (.ref ab)] h0 (Q1 Z o0 ab N fb h0 n0) := by
  refine own_met (plainFor_of_name pn_0) ?_
  intro p e s m below meth c s₁ hx hby hml hret hlk hown hnm hZ X0 e0
  refine own_cast (ef_1 m o0 ab) ?_
  have N0 := Fr.nil n0
  have ne_o0_ab := Ne.symm ne_ab_o0
  have K := Keep.refl h0 [o0]
  show own_Out p e below _ s₁ (mkF m 0 #[.val (.ref o0), .val (.ref ab)] []) _ _ _
  refine own_to (fun t k => XS.aloadN X0.here hx rfl (hb hby d1_0) rfl rfl k) ?_
  show own_Out p e below _ s₁ (mkF m 1 #[.val (.ref o0), .val (.ref ab)] [(.ref o0)]) _ _ _
  refine own_to (fun t k => XS.aloadN X0.here hx rfl (hb hby d1_1) rfl rfl k) ?_
  show own_Out p e below _ s₁ (mkF m 2 #[.val (.ref o0), .val (.ref ab)] [(.ref ab), (.ref o0)]) _ _ _
  refine own_to (fun t k => XS.iconst X0.here hx rfl (hb hby d1_2) k) ?_
  show own_Out p e below _ s₁ (mkF m 3 #[.val (.ref o0), .val (.ref ab)] [(.int (0 : Int32)), (.ref ab), (.ref o0)]) _ _ _
  refine own_to (fun t k => XS.aloadN X0.here hx rfl (hb hby d1_3) rfl rfl k) ?_
  show own_Out p e below _ s₁ (mkF m 4 #[.val (.ref o0), .val (.ref ab)] [(.ref ab), (.int (0 : Int32)), (.ref ab), (.ref o0)]) _ _ _
  refine own_len X0 hx hZ e0 A_ab rfl rfl (hb hby d1_4) ?_
  show own_Out p e below _ s₁ (mkF m 5 #[.val (.ref o0), .val (.ref ab)] [(.int (Nat.toInt32 N)), (.int (0 : Int32)), (.ref ab), (.ref o0)]) _ _ _
  refine own_callC X0 hx hZ hown (a := o0) (argsL := [(.ref ab), (.int (0 : Int32)), (.int (Nat.toInt32 N))]) (rest := []) rfl (hw _ (List.mem_of_getElem? (i := 7) rfl)) (hw _ (List.mem_of_getElem? (i := 8) rfl)) (hw _ (List.mem_of_getElem? (i := 3) rfl)) (hw _ (List.mem_of_getElem? (i := 9) rfl)) (by decide) (rm2 l Z a0 hw o0 ab (0 : Int32) (Nat.toInt32 N) h0 n0 Z0 E_o0 F_o0_bytes F_o0_position F_o0_end g_o0) (by decide) (by decide) e0 rfl (by rw [hml]; rfl) (lenOf pd_0 rfl) rfl (W := 0) (by show 2 * 0 + _ ≤ _; exact Nat.le_of_eq rfl) (hb hby d1_5) (by decide) (by decide) fun v1 T1 hh1 L1 X1 e1 hQ1 => ?_
  obtain ⟨rfl, NL1, KK1, P1_0, P1_1, P1_2⟩ := hQ1
  have E_o0 := E_o0.keep KK1
  have A_ab := A_ab.keep KK1 (by simp [ne_ab_o0])
  have F_o0_bytes := P1_0
  have F_o0_position := P1_1
  have F_o0_end := P1_2
  have K := K.trans KK1 (by intro z hz; simp only [List.mem_cons, List.not_mem_nil, or_false] at hz; subst hz; exact Or.inl (by simp))
  have Z0 := Nat.le_trans Z0 KK1.1
  have N1 := Fr.app N0 NL1
  show own_Out p e below _ T1 (mkF m 8 #[.val (.ref o0), .val (.ref ab)] []) _ _ _
  refine own_ret0 X1 hx hlk hret (hb hby d1_8) (by decide) (by decide) ?_
  rw [e1]
  exact ⟨rfl, N1, K, F_o0_bytes, F_o0_position, F_o0_end⟩
theorem d5_0 : decode prog_57_method_3_code 0 = .ok (.aload_n 0, 1) := by decide +kernel
theorem d5_1 : decode prog_57_method_3_code 1 = .ok (.getfield 16, 3) := by decide +kernel
theorem d5_4 : decode prog_57_method_3_code 4 = .ok (.aload_n 0, 1) := by decide +kernel
theorem d5_5 : decode prog_57_method_3_code 5 = .ok (.getfield 20, 3) := by decide +kernel
theorem d5_8 : decode prog_57_method_3_code 8 = .ok (.if_icmp .ge 7, 3) := by decide +kernel
theorem d5_11 : decode prog_57_method_3_code 11 = .ok (.iconst 1, 1) := by decide +kernel
theorem d5_12 : decode prog_57_method_3_code 12 = .ok (.goto 4, 3) := by decide +kernel
theorem d5_15 : decode prog_57_method_3_code 15 = .ok (.iconst 0, 1) := by decide +kernel
theorem d5_16 : decode prog_57_method_3_code 16 = .ok (.ireturn, 1) := by decide +kernel
theorem ef_5 (m : MethodId) (o0 : Addr) : entryFrame m #[(.ref o0)] 1 = mkF m 0 #[.val (.ref o0)] [] := by first | (simp [entryFrame, mkF, argsToLocals, Value.category]; done) | rfl
def R5 (o0 : Addr) (fp : Int32) (fq : Int32) : Int32 := (if fp < fq then (1 : Int32) else (0 : Int32))
def Q5 (Z : State) (o0 : Addr) (fp : Int32) (fq : Int32) (h0 : Heap) (n0 : Nat) (v : Option Value) (h : Heap) (L : List Loc) : Prop := v = some (.int (R5 o0 fp fq)) ∧ Fr n0 L ∧ h = h0
set_option maxRecDepth 65536 in
set_option maxHeartbeats 40000000 in
theorem rm5 (l : Launch) (Z : State) (a0 : Array Value) (hw : ∀ d ∈ tables_1, d.before a0 Z = true) (o0 : Addr) (fp : Int32) (fq : Int32) (h0 : Heap) (n0 : Nat) (Z0 : n0 ≤ h0.size) (F_o0_position : Fld Z h0 o0 "com/example/pathwarden/pathwarden/util/DerReader" "position" "I" (.int fp)) (F_o0_end : Fld Z h0 o0 "com/example/pathwarden/pathwarden/util/DerReader" "end" "I" (.int fq)) :
    own_C l Z (⟨"com/example/pathwarden/pathwarden/util/DerReader", "hasNext", "()Z"⟩ : MethodName) prog_57_method_3_code 1 (some .boolean) ({ frames := 0, cells := 0, slots := 0, locals := 0 } : Room) #[(.ref o0)] h0 (Q5 Z o0 fp fq h0 n0) := by
  refine own_met (plainFor_of_name pn_0) ?_
  intro p e s m below meth c s₁ hx hby hml hret hlk hown hnm hZ X0 e0
  refine own_cast (ef_5 m o0) ?_
  have N0 := Fr.nil n0
  show own_Out p e below _ s₁ (mkF m 0 #[.val (.ref o0)] []) _ _ _
  refine own_to (fun t k => XS.aloadN X0.here hx rfl (hb hby d5_0) rfl rfl k) ?_
  show own_Out p e below _ s₁ (mkF m 1 #[.val (.ref o0)] [(.ref o0)]) _ _ _
  refine own_getF X0 hx hZ hown (hw _ (List.mem_of_getElem? (i := 15) rfl)) e0 F_o0_position rfl rfl (hb hby d5_1) fun T1 X1 e1 => ?_
  show own_Out p e below _ T1 (mkF m 4 #[.val (.ref o0)] [(.int fp)]) _ _ _
  refine own_to (fun t k => XS.aloadN X1.here hx rfl (hb hby d5_4) rfl rfl k) ?_
  show own_Out p e below _ T1 (mkF m 5 #[.val (.ref o0)] [(.ref o0), (.int fp)]) _ _ _
  refine own_getF X1 hx hZ hown (hw _ (List.mem_of_getElem? (i := 17) rfl)) e1 F_o0_end rfl rfl (hb hby d5_5) fun T2 X2 e2 => ?_
  show own_Out p e below _ T2 (mkF m 8 #[.val (.ref o0)] [(.int fq), (.int fp)]) _ _ _
  by_cases hc8 : fp < fq
  · refine own_to (fun t k => XS.icmpNo X2.here hx rfl (hb hby d5_8) rfl (tlt hc8).2.1 k) ?_
    show own_Out p e below _ T2 (mkF m 11 #[.val (.ref o0)] []) _ _ _
    refine own_to (fun t k => XS.iconst X2.here hx rfl (hb hby d5_11) k) ?_
    show own_Out p e below _ T2 (mkF m 12 #[.val (.ref o0)] [(.int (1 : Int32))]) _ _ _
    refine own_to (fun t k => XS.goto X2.here hx rfl (pc0 := 12) (pc' := 16) rfl (hb hby d5_12) (by decide) (by decide) k) ?_
    show own_Out p e below _ T2 (mkF m 16 #[.val (.ref o0)] [(.int (1 : Int32))]) _ _ _
    refine own_retV X2 hx hlk (w := .int (1 : Int32)) hret rfl (Or.inl ⟨rfl, by simp, _, rfl⟩) (hb hby d5_16) (by decide) (by decide) ?_
    rw [e2]
    exact ⟨(by unfold R5; rw [if_pos hc8]), N0, rfl⟩
  · refine own_to (fun t k => XS.icmpYes X2.here hx rfl (pc0 := 8) (pc' := 15) rfl (hb hby d5_8) rfl (flt hc8).2.1 (by decide) (by decide) k) ?_
    show own_Out p e below _ T2 (mkF m 15 #[.val (.ref o0)] []) _ _ _
    refine own_to (fun t k => XS.iconst X2.here hx rfl (hb hby d5_15) k) ?_
    show own_Out p e below _ T2 (mkF m 16 #[.val (.ref o0)] [(.int (0 : Int32))]) _ _ _
    refine own_retV X2 hx hlk (w := .int (0 : Int32)) hret rfl (Or.inl ⟨rfl, by simp, _, rfl⟩) (hb hby d5_16) (by decide) (by decide) ?_
    rw [e2]
    exact ⟨(by unfold R5; rw [if_neg hc8]), N0, rfl⟩
theorem own_hn1 (o : Addr) (a b : Int32) (h : a < b) : R5 o a b = 1 := by unfold R5; rw [if_pos h]
theorem own_hn0 (o : Addr) (a b : Int32) (h : ¬ a < b) : R5 o a b = 0 := by unfold R5; rw [if_neg h]
theorem own_hit {f : Nat → Int32} {j i : Nat} {x : Int32} (h : i = j) : own_upd f j x i = x := if_pos h
theorem own_miss {f : Nat → Int32} {j i : Nat} {x : Int32} (h : i ≠ j) : own_upd f j x i = f i := if_neg h
theorem own_n0 : (0 : Int32).toNatClampNeg = 0 := by decide
theorem own_n1 : (1 : Int32).toNatClampNeg = 1 := by decide
theorem own_n2 : (2 : Int32).toNatClampNeg = 2 := by decide
theorem own_n3 : (3 : Int32).toNatClampNeg = 3 := by decide
theorem own_n4 : (4 : Int32).toNatClampNeg = 4 := by decide
theorem own_n5 : (5 : Int32).toNatClampNeg = 5 := by decide
theorem own_by (x : Int32) : (nar .byte (x.toInt8.toInt32) &&& (255 : Int32)) = (x &&& (255 : Int32)) := by
  have h1 := c_i2b x
  have h2 := c_i2b x.toInt8.toInt32
  have h3 := c_mask x 255 8 (by decide) (by decide)
  have h4 := c_mask (nar .byte x.toInt8.toInt32) 255 8 (by decide) (by decide)
  apply Int32.toInt_inj.mp
  rw [h3, h4]
  show x.toInt8.toInt32.toInt8.toInt32.toInt % _ = _
  omega
theorem own_not {o : Addr} {a b : Int32} (h : ¬ R5 o a b = 0) : a < b := by
  by_cases q : a < b
  · exact q
  · exact absurd (own_hn0 o a b q) h
theorem d4_0 : decode prog_57_method_4_code 0 = .ok (.aload_n 0, 1) := by decide +kernel
theorem d4_1 : decode prog_57_method_4_code 1 = .ok (.invokevirtual 23, 3) := by decide +kernel
theorem d4_4 : decode prog_57_method_4_code 4 = .ok (.ifCond .eq 24, 3) := by decide +kernel
theorem d4_7 : decode prog_57_method_4_code 7 = .ok (.aload_n 0, 1) := by decide +kernel
theorem d4_8 : decode prog_57_method_4_code 8 = .ok (.getfield 12, 3) := by decide +kernel
theorem d4_11 : decode prog_57_method_4_code 11 = .ok (.aload_n 0, 1) := by decide +kernel
theorem d4_12 : decode prog_57_method_4_code 12 = .ok (.getfield 16, 3) := by decide +kernel
theorem d4_15 : decode prog_57_method_4_code 15 = .ok (.baload, 1) := by decide +kernel
theorem d4_16 : decode prog_57_method_4_code 16 = .ok (.sipush 255, 3) := by decide +kernel
theorem d4_19 : decode prog_57_method_4_code 19 = .ok (.iand, 1) := by decide +kernel
theorem d4_20 : decode prog_57_method_4_code 20 = .ok (.iload_n 1, 1) := by decide +kernel
theorem d4_21 : decode prog_57_method_4_code 21 = .ok (.if_icmp .ne 7, 3) := by decide +kernel
theorem d4_24 : decode prog_57_method_4_code 24 = .ok (.iconst 1, 1) := by decide +kernel
theorem d4_25 : decode prog_57_method_4_code 25 = .ok (.goto 4, 3) := by decide +kernel
theorem d4_28 : decode prog_57_method_4_code 28 = .ok (.iconst 0, 1) := by decide +kernel
theorem d4_29 : decode prog_57_method_4_code 29 = .ok (.ireturn, 1) := by decide +kernel
theorem ef_4 (m : MethodId) (o0 : Addr) (u1 : Int32) : entryFrame m #[(.ref o0), (.int u1)] 2 = mkF m 0 #[.val (.ref o0), .val (.int u1)] [] := by first | (simp [entryFrame, mkF, argsToLocals, Value.category]; done) | rfl
def R4 (o0 : Addr) (u1 : Int32) (fp : Int32) (fq : Int32) (ab : Addr) (N : Nat) (fb : Nat → Int32) : Int32 := (if (R5 o0 fp fq) = (0 : Int32) then (0 : Int32) else (if ((fb (fp).toNatClampNeg) &&& (255 : Int32)) = u1 then (1 : Int32) else (0 : Int32)))
def Q4 (Z : State) (o0 : Addr) (u1 : Int32) (fp : Int32) (fq : Int32) (ab : Addr) (N : Nat) (fb : Nat → Int32) (h0 : Heap) (n0 : Nat) (v : Option Value) (h : Heap) (L : List Loc) : Prop := v = some (.int (R4 o0 u1 fp fq ab N fb)) ∧ Fr n0 L ∧ h = h0
theorem pd_1 : parseMethodDescriptor "()Z" = some ⟨[], some .boolean⟩ := by decide +kernel
set_option maxRecDepth 65536 in
set_option maxHeartbeats 40000000 in
theorem rm4 (l : Launch) (Z : State) (a0 : Array Value) (hw : ∀ d ∈ tables_1, d.before a0 Z = true) (o0 : Addr) (u1 : Int32) (fp : Int32) (fq : Int32) (ab : Addr) (N : Nat) (fb : Nat → Int32) (h0 : Heap) (n0 : Nat) (Z0 : n0 ≤ h0.size) (E_o0 : Exa Z h0 o0 "com/example/pathwarden/pathwarden/util/DerReader") (F_o0_bytes : Fld Z h0 o0 "com/example/pathwarden/pathwarden/util/DerReader" "bytes" "[B" (.ref ab)) (F_o0_position : Fld Z h0 o0 "com/example/pathwarden/pathwarden/util/DerReader" "position" "I" (.int fp)) (F_o0_end : Fld Z h0 o0 "com/example/pathwarden/pathwarden/util/DerReader" "end" "I" (.int fq)) (A_ab : own_A Z h0 ab .byte N fb) (hin : fp < fq → ¬ fp < 0 ∧ fp.toNatClampNeg < N) :
    own_C l Z (⟨"com/example/pathwarden/pathwarden/util/DerReader", "nextIs", "(I)Z"⟩ : MethodName) prog_57_method_4_code 2 (some .boolean) ({ frames := 1, cells := 0, slots := 0, locals := 12 } : Room) #[(.ref o0), (.int u1)] h0 (Q4 Z o0 u1 fp fq ab N fb h0 n0) := by
  refine own_met (plainFor_of_name pn_0) ?_
  intro p e s m below meth c s₁ hx hby hml hret hlk hown hnm hZ X0 e0
  refine own_cast (ef_4 m o0 u1) ?_
  have N0 := Fr.nil n0
  show own_Out p e below _ s₁ (mkF m 0 #[.val (.ref o0), .val (.int u1)] []) _ _ _
  refine own_to (fun t k => XS.aloadN X0.here hx rfl (hb hby d4_0) rfl rfl k) ?_
  show own_Out p e below _ s₁ (mkF m 1 #[.val (.ref o0), .val (.int u1)] [(.ref o0)]) _ _ _
  refine own_callV X0 hx hZ hown (a := o0) (argsL := []) (rest := []) (hw _ (List.mem_of_getElem? (i := 24) rfl)) (hw _ (List.mem_of_getElem? (i := 25) rfl)) (hw _ (List.mem_of_getElem? (i := 27) rfl)) (hw _ (List.mem_of_getElem? (i := 26) rfl)) (hw _ (List.mem_of_getElem? (i := 3) rfl)) (hw _ (List.mem_of_getElem? (i := 28) rfl)) (by decide) (rm5 l Z a0 hw o0 fp fq h0 n0 Z0 F_o0_position F_o0_end) (by decide) (by decide) e0 E_o0 rfl (by rw [hml]; rfl) (lenOf pd_1 rfl) rfl (W := 0) (by show 2 * 0 + _ ≤ _; exact Nat.le_of_eq rfl) (hb hby d4_1) (by decide) (by decide) fun v1 T1 hh1 L1 X1 e1 hQ1 => ?_
  obtain ⟨rfl, NL1, he1⟩ := hQ1
  replace e1 := e1.trans he1
  have N1 := Fr.app N0 NL1
  show own_Out p e below _ T1 (mkF m 4 #[.val (.ref o0), .val (.int u1)] [(.int (R5 o0 fp fq))]) _ _ _
  by_cases hc4 : (R5 o0 fp fq) = (0 : Int32)
  · refine own_to (fun t k => XS.ifYes X1.here hx rfl (pc0 := 4) (pc' := 28) rfl (hb hby d4_4) rfl ((if0 _ _).trans (teq hc4).1) (by decide) (by decide) k) ?_
    show own_Out p e below _ T1 (mkF m 28 #[.val (.ref o0), .val (.int u1)] []) _ _ _
    refine own_to (fun t k => XS.iconst X1.here hx rfl (hb hby d4_28) k) ?_
    show own_Out p e below _ T1 (mkF m 29 #[.val (.ref o0), .val (.int u1)] [(.int (0 : Int32))]) _ _ _
    refine own_retV X1 hx hlk (w := .int (0 : Int32)) hret rfl (Or.inl ⟨rfl, by simp, _, rfl⟩) (hb hby d4_29) (by decide) (by decide) ?_
    rw [e1]
    exact ⟨(by unfold R4; rw [if_pos hc4]), N1, rfl⟩
  · refine own_to (fun t k => XS.ifNo X1.here hx rfl (hb hby d4_4) rfl ((if0 _ _).trans (feq hc4).1) k) ?_
    show own_Out p e below _ T1 (mkF m 7 #[.val (.ref o0), .val (.int u1)] []) _ _ _
    refine own_to (fun t k => XS.aloadN X1.here hx rfl (hb hby d4_7) rfl rfl k) ?_
    show own_Out p e below _ T1 (mkF m 8 #[.val (.ref o0), .val (.int u1)] [(.ref o0)]) _ _ _
    refine own_getF X1 hx hZ hown (hw _ (List.mem_of_getElem? (i := 13) rfl)) e1 F_o0_bytes rfl rfl (hb hby d4_8) fun T2 X2 e2 => ?_
    show own_Out p e below _ T2 (mkF m 11 #[.val (.ref o0), .val (.int u1)] [(.ref ab)]) _ _ _
    refine own_to (fun t k => XS.aloadN X2.here hx rfl (hb hby d4_11) rfl rfl k) ?_
    show own_Out p e below _ T2 (mkF m 12 #[.val (.ref o0), .val (.int u1)] [(.ref o0), (.ref ab)]) _ _ _
    refine own_getF X2 hx hZ hown (hw _ (List.mem_of_getElem? (i := 15) rfl)) e2 F_o0_position rfl rfl (hb hby d4_12) fun T3 X3 e3 => ?_
    show own_Out p e below _ T3 (mkF m 15 #[.val (.ref o0), .val (.int u1)] [(.int fp), (.ref ab)]) _ _ _
    refine own_ldB X3 hx hZ e3 A_ab (hin (own_not hc4)).1 (hin (own_not hc4)).2 rfl rfl (hb hby d4_15) fun w4 hw4 => ?_
    subst hw4
    show own_Out p e below _ T3 (mkF m 16 #[.val (.ref o0), .val (.int u1)] [(.int (fb (fp).toNatClampNeg))]) _ _ _
    refine own_to (fun t k => XS.sipush X3.here hx rfl (hb hby d4_16) k) ?_
    show own_Out p e below _ T3 (mkF m 19 #[.val (.ref o0), .val (.int u1)] [(.int (255 : Int32)), (.int (fb (fp).toNatClampNeg))]) _ _ _
    refine own_to (fun t k => XS.iand X3.here hx rfl (hb hby d4_19) rfl k) ?_
    show own_Out p e below _ T3 (mkF m 20 #[.val (.ref o0), .val (.int u1)] [(.int ((fb (fp).toNatClampNeg) &&& (255 : Int32)))]) _ _ _
    refine own_to (fun t k => XS.iloadN X3.here hx rfl (hb hby d4_20) rfl k) ?_
    show own_Out p e below _ T3 (mkF m 21 #[.val (.ref o0), .val (.int u1)] [(.int u1), (.int ((fb (fp).toNatClampNeg) &&& (255 : Int32)))]) _ _ _
    by_cases hc21 : ((fb (fp).toNatClampNeg) &&& (255 : Int32)) = u1
    · refine own_to (fun t k => XS.icmpNo X3.here hx rfl (hb hby d4_21) rfl (teq hc21).2 k) ?_
      show own_Out p e below _ T3 (mkF m 24 #[.val (.ref o0), .val (.int u1)] []) _ _ _
      refine own_to (fun t k => XS.iconst X3.here hx rfl (hb hby d4_24) k) ?_
      show own_Out p e below _ T3 (mkF m 25 #[.val (.ref o0), .val (.int u1)] [(.int (1 : Int32))]) _ _ _
      refine own_to (fun t k => XS.goto X3.here hx rfl (pc0 := 25) (pc' := 29) rfl (hb hby d4_25) (by decide) (by decide) k) ?_
      show own_Out p e below _ T3 (mkF m 29 #[.val (.ref o0), .val (.int u1)] [(.int (1 : Int32))]) _ _ _
      refine own_retV X3 hx hlk (w := .int (1 : Int32)) hret rfl (Or.inl ⟨rfl, by simp, _, rfl⟩) (hb hby d4_29) (by decide) (by decide) ?_
      rw [e3]
      exact ⟨(by unfold R4; rw [if_neg hc4, if_pos hc21]), N1, rfl⟩
    · refine own_to (fun t k => XS.icmpYes X3.here hx rfl (pc0 := 21) (pc' := 28) rfl (hb hby d4_21) rfl (feq hc21).2 (by decide) (by decide) k) ?_
      show own_Out p e below _ T3 (mkF m 28 #[.val (.ref o0), .val (.int u1)] []) _ _ _
      refine own_to (fun t k => XS.iconst X3.here hx rfl (hb hby d4_28) k) ?_
      show own_Out p e below _ T3 (mkF m 29 #[.val (.ref o0), .val (.int u1)] [(.int (0 : Int32))]) _ _ _
      refine own_retV X3 hx hlk (w := .int (0 : Int32)) hret rfl (Or.inl ⟨rfl, by simp, _, rfl⟩) (hb hby d4_29) (by decide) (by decide) ?_
      rw [e3]
      exact ⟨(by unfold R4; rw [if_neg hc4, if_neg hc21]), N1, rfl⟩
theorem own_ni (o : Addr) (u a b : Int32) (r : Addr) (N : Nat) (f : Nat → Int32) : (¬ a < b → R4 o u a b r N f = 0) ∧ (a < b → ((f (a).toNatClampNeg) &&& (255 : Int32)) = u → R4 o u a b r N f = 1) ∧ (a < b → ¬ ((f (a).toNatClampNeg) &&& (255 : Int32)) = u → R4 o u a b r N f = 0) := by
  refine ⟨fun h => ?_, fun h q => ?_, fun h q => ?_⟩
  · unfold R4
    rw [if_pos (own_hn0 o a b h)]
  · unfold R4
    rw [if_neg (by rw [own_hn1 o a b h]; decide), if_pos q]
  · unfold R4
    rw [if_neg (by rw [own_hn1 o a b h]; decide), if_neg q]
theorem d7_0 : decode prog_57_method_8_code 0 = .ok (.aload_n 0, 1) := by decide +kernel
theorem d7_1 : decode prog_57_method_8_code 1 = .ok (.invokevirtual 23, 3) := by decide +kernel
theorem d7_4 : decode prog_57_method_8_code 4 = .ok (.ifCond .ne 17, 3) := by decide +kernel
theorem d7_7 : decode prog_57_method_8_code 7 = .ok (.new 33, 3) := by decide +kernel
theorem d7_10 : decode prog_57_method_8_code 10 = .ok (.dup, 1) := by decide +kernel
theorem d7_11 : decode prog_57_method_8_code 11 = .ok (.aload_n 1, 1) := by decide +kernel
theorem d7_21 : decode prog_57_method_8_code 21 = .ok (.aload_n 0, 1) := by decide +kernel
theorem d7_22 : decode prog_57_method_8_code 22 = .ok (.getfield 12, 3) := by decide +kernel
theorem d7_25 : decode prog_57_method_8_code 25 = .ok (.aload_n 0, 1) := by decide +kernel
theorem d7_26 : decode prog_57_method_8_code 26 = .ok (.dup, 1) := by decide +kernel
theorem d7_27 : decode prog_57_method_8_code 27 = .ok (.getfield 16, 3) := by decide +kernel
theorem d7_30 : decode prog_57_method_8_code 30 = .ok (.dup_x1, 1) := by decide +kernel
theorem d7_31 : decode prog_57_method_8_code 31 = .ok (.iconst 1, 1) := by decide +kernel
theorem d7_32 : decode prog_57_method_8_code 32 = .ok (.iadd, 1) := by decide +kernel
theorem d7_33 : decode prog_57_method_8_code 33 = .ok (.putfield 16, 3) := by decide +kernel
theorem d7_36 : decode prog_57_method_8_code 36 = .ok (.baload, 1) := by decide +kernel
theorem d7_37 : decode prog_57_method_8_code 37 = .ok (.sipush 255, 3) := by decide +kernel
theorem d7_40 : decode prog_57_method_8_code 40 = .ok (.iand, 1) := by decide +kernel
theorem d7_41 : decode prog_57_method_8_code 41 = .ok (.ireturn, 1) := by decide +kernel
theorem ef_7 (m : MethodId) (o0 : Addr) (ar : Addr) : entryFrame m #[(.ref o0), (.ref ar)] 2 = mkF m 0 #[.val (.ref o0), .val (.ref ar)] [] := by first | (simp [entryFrame, mkF, argsToLocals, Value.category]; done) | rfl
def Q7 (Z : State) (o0 : Addr) (ar : Addr) (fp : Int32) (fq : Int32) (ab : Addr) (N : Nat) (fb : Nat → Int32) (tg : Int32) (h0 : Heap) (n0 : Nat) (v : Option Value) (h : Heap) (L : List Loc) : Prop := v = some (.int tg) ∧ Fr n0 L ∧ Keep h0 h [o0] ∧ Fld Z h o0 "com/example/pathwarden/pathwarden/util/DerReader" "bytes" "[B" (.ref ab) ∧ Fld Z h o0 "com/example/pathwarden/pathwarden/util/DerReader" "position" "I" (.int (fp + (1 : Int32))) ∧ Fld Z h o0 "com/example/pathwarden/pathwarden/util/DerReader" "end" "I" (.int fq)
set_option maxRecDepth 65536 in
set_option maxHeartbeats 40000000 in
theorem rm7 (l : Launch) (Z : State) (a0 : Array Value) (hw : ∀ d ∈ tables_1, d.before a0 Z = true) (o0 : Addr) (ar : Addr) (fp : Int32) (fq : Int32) (ab : Addr) (N : Nat) (fb : Nat → Int32) (tg : Int32) (h0 : Heap) (n0 : Nat) (Z0 : n0 ≤ h0.size) (E_o0 : Exa Z h0 o0 "com/example/pathwarden/pathwarden/util/DerReader") (F_o0_bytes : Fld Z h0 o0 "com/example/pathwarden/pathwarden/util/DerReader" "bytes" "[B" (.ref ab)) (F_o0_position : Fld Z h0 o0 "com/example/pathwarden/pathwarden/util/DerReader" "position" "I" (.int fp)) (F_o0_end : Fld Z h0 o0 "com/example/pathwarden/pathwarden/util/DerReader" "end" "I" (.int fq)) (A_ab : own_A Z h0 ab .byte N fb) (g_o0 : n0 ≤ o0) (ne_ab_o0 : ab ≠ o0) (hlt : fp < fq) (hin : ¬ fp < 0 ∧ fp.toNatClampNeg < N) (htg : tg = ((fb (fp).toNatClampNeg) &&& (255 : Int32))) :
    own_C l Z (⟨"com/example/pathwarden/pathwarden/util/DerReader", "octet", "(Ljava/lang/String;)I"⟩ : MethodName) prog_57_method_8_code 2 (some .int) ({ frames := 1, cells := 0, slots := 0, locals := 12 } : Room) #[(.ref o0), (.ref ar)] h0 (Q7 Z o0 ar fp fq ab N fb tg h0 n0) := by
  refine own_met (plainFor_of_name pn_0) ?_
  intro p e s m below meth c s₁ hx hby hml hret hlk hown hnm hZ X0 e0
  refine own_cast (ef_7 m o0 ar) ?_
  have N0 := Fr.nil n0
  have ne_o0_ab := Ne.symm ne_ab_o0
  have K := Keep.refl h0 [o0]
  show own_Out p e below _ s₁ (mkF m 0 #[.val (.ref o0), .val (.ref ar)] []) _ _ _
  refine own_to (fun t k => XS.aloadN X0.here hx rfl (hb hby d7_0) rfl rfl k) ?_
  show own_Out p e below _ s₁ (mkF m 1 #[.val (.ref o0), .val (.ref ar)] [(.ref o0)]) _ _ _
  refine own_callV X0 hx hZ hown (a := o0) (argsL := []) (rest := []) (hw _ (List.mem_of_getElem? (i := 24) rfl)) (hw _ (List.mem_of_getElem? (i := 25) rfl)) (hw _ (List.mem_of_getElem? (i := 27) rfl)) (hw _ (List.mem_of_getElem? (i := 26) rfl)) (hw _ (List.mem_of_getElem? (i := 3) rfl)) (hw _ (List.mem_of_getElem? (i := 28) rfl)) (by decide) (rm5 l Z a0 hw o0 fp fq h0 n0 Z0 F_o0_position F_o0_end) (by decide) (by decide) e0 E_o0 rfl (by rw [hml]; rfl) (lenOf pd_1 rfl) rfl (W := 0) (by show 2 * 0 + _ ≤ _; exact Nat.le_of_eq rfl) (hb hby d7_1) (by decide) (by decide) fun v1 T1 hh1 L1 X1 e1 hQ1 => ?_
  obtain ⟨rfl, NL1, he1⟩ := hQ1
  replace e1 := e1.trans he1
  have N1 := Fr.app N0 NL1
  show own_Out p e below _ T1 (mkF m 4 #[.val (.ref o0), .val (.ref ar)] [(.int (R5 o0 fp fq))]) _ _ _
  have hc4 : ¬ ((R5 o0 fp fq) = (0 : Int32)) := by rw [own_hn1 _ _ _ hlt]; decide
  refine own_to (fun t k => XS.ifYes X1.here hx rfl (pc0 := 4) (pc' := 21) rfl (hb hby d7_4) rfl ((if0 _ _).trans (feq hc4).2) (by decide) (by decide) k) ?_
  show own_Out p e below _ T1 (mkF m 21 #[.val (.ref o0), .val (.ref ar)] []) _ _ _
  refine own_to (fun t k => XS.aloadN X1.here hx rfl (hb hby d7_21) rfl rfl k) ?_
  show own_Out p e below _ T1 (mkF m 22 #[.val (.ref o0), .val (.ref ar)] [(.ref o0)]) _ _ _
  refine own_getF X1 hx hZ hown (hw _ (List.mem_of_getElem? (i := 13) rfl)) e1 F_o0_bytes rfl rfl (hb hby d7_22) fun T2 X2 e2 => ?_
  show own_Out p e below _ T2 (mkF m 25 #[.val (.ref o0), .val (.ref ar)] [(.ref ab)]) _ _ _
  refine own_to (fun t k => XS.aloadN X2.here hx rfl (hb hby d7_25) rfl rfl k) ?_
  show own_Out p e below _ T2 (mkF m 26 #[.val (.ref o0), .val (.ref ar)] [(.ref o0), (.ref ab)]) _ _ _
  refine own_to (fun t k => XS.dup X2.here hx rfl (hb hby d7_26) rfl rfl k) ?_
  show own_Out p e below _ T2 (mkF m 27 #[.val (.ref o0), .val (.ref ar)] [(.ref o0), (.ref o0), (.ref ab)]) _ _ _
  refine own_getF X2 hx hZ hown (hw _ (List.mem_of_getElem? (i := 15) rfl)) e2 F_o0_position rfl rfl (hb hby d7_27) fun T3 X3 e3 => ?_
  show own_Out p e below _ T3 (mkF m 30 #[.val (.ref o0), .val (.ref ar)] [(.int fp), (.ref o0), (.ref ab)]) _ _ _
  refine own_to (fun t k => XS.dupX1 X3.here hx rfl (hb hby d7_30) rfl rfl rfl k) ?_
  show own_Out p e below _ T3 (mkF m 31 #[.val (.ref o0), .val (.ref ar)] [(.int fp), (.ref o0), (.int fp), (.ref ab)]) _ _ _
  refine own_to (fun t k => XS.iconst X3.here hx rfl (hb hby d7_31) k) ?_
  show own_Out p e below _ T3 (mkF m 32 #[.val (.ref o0), .val (.ref ar)] [(.int (1 : Int32)), (.int fp), (.ref o0), (.int fp), (.ref ab)]) _ _ _
  refine own_to (fun t k => XS.iadd X3.here hx rfl (hb hby d7_32) rfl k) ?_
  show own_Out p e below _ T3 (mkF m 33 #[.val (.ref o0), .val (.ref ar)] [(.int (fp + (1 : Int32))), (.ref o0), (.int fp), (.ref ab)]) _ _ _
  refine own_putF X3 hx hZ hown (hw _ (List.mem_of_getElem? (i := 15) rfl)) e3 F_o0_position E_o0 (Or.inl (hw _ (List.mem_of_getElem? (i := 16) rfl))) (hw _ (List.mem_of_getElem? (i := 2) rfl)) (ty := .int) (by decide) rfl rfl rfl rfl (hb hby d7_33) fun T4 hh4 X4 e4 W4 => ?_
  have E_o0 := E_o0.wr W4
  have F_o0_bytes := F_o0_bytes.other W4 (Or.inr (slot_ne (Or.inr (hw _ (List.mem_of_getElem? (i := 14) rfl))) (Or.inl (hw _ (List.mem_of_getElem? (i := 16) rfl))) (by decide) (t := (.array .byte)) (t' := .int) (by decide) (by decide)))
  have F_o0_position := F_o0_position.same W4
  have F_o0_end := F_o0_end.other W4 (Or.inr (slot_ne (Or.inr (hw _ (List.mem_of_getElem? (i := 18) rfl))) (Or.inl (hw _ (List.mem_of_getElem? (i := 16) rfl))) (by decide) (t := .int) (t' := .int) (by decide) (by decide)))
  have A_ab := A_ab.other W4 ne_ab_o0
  have K := K.wr W4 (Or.inl (by simp))
  have Z0 := Nat.le_trans Z0 (Nat.le_of_eq W4.size.symm)
  have N4 := own_fs (sl := Jvm.RoadKit.slotOf Z "com/example/pathwarden/pathwarden/util/DerReader" "position" "I") N1 g_o0
  show own_Out p e below _ T4 (mkF m 36 #[.val (.ref o0), .val (.ref ar)] [(.int fp), (.ref ab)]) _ _ _
  refine own_ldB X4 hx hZ e4 A_ab hin.1 hin.2 rfl rfl (hb hby d7_36) fun w5 hw5 => ?_
  show own_Out p e below _ T4 (mkF m 37 #[.val (.ref o0), .val (.ref ar)] [(.int w5)]) _ _ _
  refine own_to (fun t k => XS.sipush X4.here hx rfl (hb hby d7_37) k) ?_
  show own_Out p e below _ T4 (mkF m 40 #[.val (.ref o0), .val (.ref ar)] [(.int (255 : Int32)), (.int w5)]) _ _ _
  refine own_to (fun t k => XS.iand X4.here hx rfl (hb hby d7_40) rfl k) ?_
  show own_Out p e below _ T4 (mkF m 41 #[.val (.ref o0), .val (.ref ar)] [(.int (w5 &&& (255 : Int32)))]) _ _ _
  refine own_retI X4 hx hlk hret (hb hby d7_41) (by decide) (by decide) ?_
  rw [e4]
  exact ⟨(by rw [htg, hw5]), N4, K, F_o0_bytes, F_o0_position, F_o0_end⟩
theorem d8_0 : decode prog_58_method_1_code 0 = .ok (.aload_n 0, 1) := by decide +kernel
theorem d8_1 : decode prog_58_method_1_code 1 = .ok (.invokespecial 3, 3) := by decide +kernel
theorem d8_4 : decode prog_58_method_1_code 4 = .ok (.aload_n 0, 1) := by decide +kernel
theorem d8_5 : decode prog_58_method_1_code 5 = .ok (.aload_n 1, 1) := by decide +kernel
theorem d8_6 : decode prog_58_method_1_code 6 = .ok (.putfield 9, 3) := by decide +kernel
theorem d8_9 : decode prog_58_method_1_code 9 = .ok (.aload_n 0, 1) := by decide +kernel
theorem d8_10 : decode prog_58_method_1_code 10 = .ok (.iload_n 2, 1) := by decide +kernel
theorem d8_11 : decode prog_58_method_1_code 11 = .ok (.putfield 15, 3) := by decide +kernel
theorem d8_14 : decode prog_58_method_1_code 14 = .ok (.aload_n 0, 1) := by decide +kernel
theorem d8_15 : decode prog_58_method_1_code 15 = .ok (.iload_n 3, 1) := by decide +kernel
theorem d8_16 : decode prog_58_method_1_code 16 = .ok (.putfield 19, 3) := by decide +kernel
theorem d8_19 : decode prog_58_method_1_code 19 = .ok (.aload_n 0, 1) := by decide +kernel
theorem d8_20 : decode prog_58_method_1_code 20 = .ok (.iload 4, 2) := by decide +kernel
theorem d8_22 : decode prog_58_method_1_code 22 = .ok (.putfield 22, 3) := by decide +kernel
theorem d8_25 : decode prog_58_method_1_code 25 = .ok (.aload_n 0, 1) := by decide +kernel
theorem d8_26 : decode prog_58_method_1_code 26 = .ok (.iload 5, 2) := by decide +kernel
theorem d8_28 : decode prog_58_method_1_code 28 = .ok (.putfield 25, 3) := by decide +kernel
theorem d8_31 : decode prog_58_method_1_code 31 = .ok (.return_, 1) := by decide +kernel
theorem pn_1 : plainName "com/example/pathwarden/pathwarden/util/DerReader$Element" = true := by first | (simp [plainName, overriddenIn]; done) | decide +kernel
theorem ef_8 (m : MethodId) (o0 : Addr) (ab : Addr) (u2 : Int32) (u3 : Int32) (u4 : Int32) (u5 : Int32) : entryFrame m #[(.ref o0), (.ref ab), (.int u2), (.int u3), (.int u4), (.int u5)] 6 = mkF m 0 #[.val (.ref o0), .val (.ref ab), .val (.int u2), .val (.int u3), .val (.int u4), .val (.int u5)] [] := by first | (simp [entryFrame, mkF, argsToLocals, Value.category]; done) | rfl
def Q8 (Z : State) (o0 : Addr) (ab : Addr) (u2 : Int32) (u3 : Int32) (u4 : Int32) (u5 : Int32) (h0 : Heap) (n0 : Nat) (v : Option Value) (h : Heap) (L : List Loc) : Prop := v = none ∧ Fr n0 L ∧ Keep h0 h [o0] ∧ Fld Z h o0 "com/example/pathwarden/pathwarden/util/DerReader$Element" "bytes" "[B" (.ref ab) ∧ Fld Z h o0 "com/example/pathwarden/pathwarden/util/DerReader$Element" "tag" "I" (.int u2) ∧ Fld Z h o0 "com/example/pathwarden/pathwarden/util/DerReader$Element" "start" "I" (.int u3) ∧ Fld Z h o0 "com/example/pathwarden/pathwarden/util/DerReader$Element" "contents" "I" (.int u4) ∧ Fld Z h o0 "com/example/pathwarden/pathwarden/util/DerReader$Element" "end" "I" (.int u5)
set_option maxRecDepth 65536 in
set_option maxHeartbeats 40000000 in
theorem rm8 (l : Launch) (Z : State) (a0 : Array Value) (hw : ∀ d ∈ tables_1, d.before a0 Z = true) (o0 : Addr) (ab : Addr) (u2 : Int32) (u3 : Int32) (u4 : Int32) (u5 : Int32) (h0 : Heap) (n0 : Nat) (Z0 : n0 ≤ h0.size) (E_o0 : Exa Z h0 o0 "com/example/pathwarden/pathwarden/util/DerReader$Element") (F_o0_bytes : Fld Z h0 o0 "com/example/pathwarden/pathwarden/util/DerReader$Element" "bytes" "[B" .null) (F_o0_tag : Fld Z h0 o0 "com/example/pathwarden/pathwarden/util/DerReader$Element" "tag" "I" (.int (0 : Int32))) (F_o0_start : Fld Z h0 o0 "com/example/pathwarden/pathwarden/util/DerReader$Element" "start" "I" (.int (0 : Int32))) (F_o0_contents : Fld Z h0 o0 "com/example/pathwarden/pathwarden/util/DerReader$Element" "contents" "I" (.int (0 : Int32))) (F_o0_end : Fld Z h0 o0 "com/example/pathwarden/pathwarden/util/DerReader$Element" "end" "I" (.int (0 : Int32))) (g_o0 : n0 ≤ o0) :
    own_C l Z (⟨"com/example/pathwarden/pathwarden/util/DerReader$Element", "<init>", "([BIIII)V"⟩ : MethodName) prog_58_method_1_code 6 none ({ frames := 1, cells := 0, slots := 0, locals := 12 } : Room) #[(.ref o0), (.ref ab), (.int u2), (.int u3), (.int u4), (.int u5)] h0 (Q8 Z o0 ab u2 u3 u4 u5 h0 n0) := by
  refine own_met (plainFor_of_name pn_1) ?_
  intro p e s m below meth c s₁ hx hby hml hret hlk hown hnm hZ X0 e0
  refine own_cast (ef_8 m o0 ab u2 u3 u4 u5) ?_
  have N0 := Fr.nil n0
  have K := Keep.refl h0 [o0]
  show own_Out p e below _ s₁ (mkF m 0 #[.val (.ref o0), .val (.ref ab), .val (.int u2), .val (.int u3), .val (.int u4), .val (.int u5)] []) _ _ _
  refine own_to (fun t k => XS.aloadN X0.here hx rfl (hb hby d8_0) rfl rfl k) ?_
  show own_Out p e below _ s₁ (mkF m 1 #[.val (.ref o0), .val (.ref ab), .val (.int u2), .val (.int u3), .val (.int u4), .val (.int u5)] [(.ref o0)]) _ _ _
  obtain ⟨T1, X1, e1, st1⟩ := initO X0 hx hZ hown (hw _ (List.mem_of_getElem? (i := 54) rfl)) (hw _ (List.mem_of_getElem? (i := 11) rfl)) (hw _ (List.mem_of_getElem? (i := 12) rfl)) e0 (g := (mkF m 1 #[.val (.ref o0), .val (.ref ab), .val (.int u2), .val (.int u3), .val (.int u4), .val (.int u5)] [(.ref o0)])) rfl (by rw [hml]; rfl) rfl (hb hby d8_1) (by decide) (W := 0) (by show 2 * 0 + _ ≤ _; exact Nat.le_of_eq rfl) (by decide)
  refine own_to st1 ?_
  show own_Out p e below _ T1 (mkF m 4 #[.val (.ref o0), .val (.ref ab), .val (.int u2), .val (.int u3), .val (.int u4), .val (.int u5)] []) _ _ _
  refine own_to (fun t k => XS.aloadN X1.here hx rfl (hb hby d8_4) rfl rfl k) ?_
  show own_Out p e below _ T1 (mkF m 5 #[.val (.ref o0), .val (.ref ab), .val (.int u2), .val (.int u3), .val (.int u4), .val (.int u5)] [(.ref o0)]) _ _ _
  refine own_to (fun t k => XS.aloadN X1.here hx rfl (hb hby d8_5) rfl rfl k) ?_
  show own_Out p e below _ T1 (mkF m 6 #[.val (.ref o0), .val (.ref ab), .val (.int u2), .val (.int u3), .val (.int u4), .val (.int u5)] [(.ref ab), (.ref o0)]) _ _ _
  refine own_putF X1 hx hZ hown (hw _ (List.mem_of_getElem? (i := 55) rfl)) e1 F_o0_bytes E_o0 (Or.inr ⟨(hw _ (List.mem_of_getElem? (i := 56) rfl)), rfl, hnm⟩) (hw _ (List.mem_of_getElem? (i := 49) rfl)) (ty := (.array .byte)) (by decide) rfl rfl rfl rfl (hb hby d8_6) fun T2 hh2 X2 e2 W2 => ?_
  have E_o0 := E_o0.wr W2
  have F_o0_bytes := F_o0_bytes.same W2
  have F_o0_tag := F_o0_tag.other W2 (Or.inr (slot_ne (Or.inr (hw _ (List.mem_of_getElem? (i := 58) rfl))) (Or.inr (hw _ (List.mem_of_getElem? (i := 56) rfl))) (by decide) (t := .int) (t' := (.array .byte)) (by decide) (by decide)))
  have F_o0_start := F_o0_start.other W2 (Or.inr (slot_ne (Or.inr (hw _ (List.mem_of_getElem? (i := 60) rfl))) (Or.inr (hw _ (List.mem_of_getElem? (i := 56) rfl))) (by decide) (t := .int) (t' := (.array .byte)) (by decide) (by decide)))
  have F_o0_contents := F_o0_contents.other W2 (Or.inr (slot_ne (Or.inr (hw _ (List.mem_of_getElem? (i := 62) rfl))) (Or.inr (hw _ (List.mem_of_getElem? (i := 56) rfl))) (by decide) (t := .int) (t' := (.array .byte)) (by decide) (by decide)))
  have F_o0_end := F_o0_end.other W2 (Or.inr (slot_ne (Or.inr (hw _ (List.mem_of_getElem? (i := 64) rfl))) (Or.inr (hw _ (List.mem_of_getElem? (i := 56) rfl))) (by decide) (t := .int) (t' := (.array .byte)) (by decide) (by decide)))
  have K := K.wr W2 (Or.inl (by simp))
  have Z0 := Nat.le_trans Z0 (Nat.le_of_eq W2.size.symm)
  have N2 := own_fs (sl := Jvm.RoadKit.slotOf Z "com/example/pathwarden/pathwarden/util/DerReader$Element" "bytes" "[B") N0 g_o0
  show own_Out p e below _ T2 (mkF m 9 #[.val (.ref o0), .val (.ref ab), .val (.int u2), .val (.int u3), .val (.int u4), .val (.int u5)] []) _ _ _
  refine own_to (fun t k => XS.aloadN X2.here hx rfl (hb hby d8_9) rfl rfl k) ?_
  show own_Out p e below _ T2 (mkF m 10 #[.val (.ref o0), .val (.ref ab), .val (.int u2), .val (.int u3), .val (.int u4), .val (.int u5)] [(.ref o0)]) _ _ _
  refine own_to (fun t k => XS.iloadN X2.here hx rfl (hb hby d8_10) rfl k) ?_
  show own_Out p e below _ T2 (mkF m 11 #[.val (.ref o0), .val (.ref ab), .val (.int u2), .val (.int u3), .val (.int u4), .val (.int u5)] [(.int u2), (.ref o0)]) _ _ _
  refine own_putF X2 hx hZ hown (hw _ (List.mem_of_getElem? (i := 57) rfl)) e2 F_o0_tag E_o0 (Or.inr ⟨(hw _ (List.mem_of_getElem? (i := 58) rfl)), rfl, hnm⟩) (hw _ (List.mem_of_getElem? (i := 49) rfl)) (ty := .int) (by decide) rfl rfl rfl rfl (hb hby d8_11) fun T3 hh3 X3 e3 W3 => ?_
  have E_o0 := E_o0.wr W3
  have F_o0_bytes := F_o0_bytes.other W3 (Or.inr (slot_ne (Or.inr (hw _ (List.mem_of_getElem? (i := 56) rfl))) (Or.inr (hw _ (List.mem_of_getElem? (i := 58) rfl))) (by decide) (t := (.array .byte)) (t' := .int) (by decide) (by decide)))
  have F_o0_tag := F_o0_tag.same W3
  have F_o0_start := F_o0_start.other W3 (Or.inr (slot_ne (Or.inr (hw _ (List.mem_of_getElem? (i := 60) rfl))) (Or.inr (hw _ (List.mem_of_getElem? (i := 58) rfl))) (by decide) (t := .int) (t' := .int) (by decide) (by decide)))
  have F_o0_contents := F_o0_contents.other W3 (Or.inr (slot_ne (Or.inr (hw _ (List.mem_of_getElem? (i := 62) rfl))) (Or.inr (hw _ (List.mem_of_getElem? (i := 58) rfl))) (by decide) (t := .int) (t' := .int) (by decide) (by decide)))
  have F_o0_end := F_o0_end.other W3 (Or.inr (slot_ne (Or.inr (hw _ (List.mem_of_getElem? (i := 64) rfl))) (Or.inr (hw _ (List.mem_of_getElem? (i := 58) rfl))) (by decide) (t := .int) (t' := .int) (by decide) (by decide)))
  have K := K.wr W3 (Or.inl (by simp))
  have Z0 := Nat.le_trans Z0 (Nat.le_of_eq W3.size.symm)
  have N3 := own_fs (sl := Jvm.RoadKit.slotOf Z "com/example/pathwarden/pathwarden/util/DerReader$Element" "tag" "I") N2 g_o0
  show own_Out p e below _ T3 (mkF m 14 #[.val (.ref o0), .val (.ref ab), .val (.int u2), .val (.int u3), .val (.int u4), .val (.int u5)] []) _ _ _
  refine own_to (fun t k => XS.aloadN X3.here hx rfl (hb hby d8_14) rfl rfl k) ?_
  show own_Out p e below _ T3 (mkF m 15 #[.val (.ref o0), .val (.ref ab), .val (.int u2), .val (.int u3), .val (.int u4), .val (.int u5)] [(.ref o0)]) _ _ _
  refine own_to (fun t k => XS.iloadN X3.here hx rfl (hb hby d8_15) rfl k) ?_
  show own_Out p e below _ T3 (mkF m 16 #[.val (.ref o0), .val (.ref ab), .val (.int u2), .val (.int u3), .val (.int u4), .val (.int u5)] [(.int u3), (.ref o0)]) _ _ _
  refine own_putF X3 hx hZ hown (hw _ (List.mem_of_getElem? (i := 59) rfl)) e3 F_o0_start E_o0 (Or.inr ⟨(hw _ (List.mem_of_getElem? (i := 60) rfl)), rfl, hnm⟩) (hw _ (List.mem_of_getElem? (i := 49) rfl)) (ty := .int) (by decide) rfl rfl rfl rfl (hb hby d8_16) fun T4 hh4 X4 e4 W4 => ?_
  have E_o0 := E_o0.wr W4
  have F_o0_bytes := F_o0_bytes.other W4 (Or.inr (slot_ne (Or.inr (hw _ (List.mem_of_getElem? (i := 56) rfl))) (Or.inr (hw _ (List.mem_of_getElem? (i := 60) rfl))) (by decide) (t := (.array .byte)) (t' := .int) (by decide) (by decide)))
  have F_o0_tag := F_o0_tag.other W4 (Or.inr (slot_ne (Or.inr (hw _ (List.mem_of_getElem? (i := 58) rfl))) (Or.inr (hw _ (List.mem_of_getElem? (i := 60) rfl))) (by decide) (t := .int) (t' := .int) (by decide) (by decide)))
  have F_o0_start := F_o0_start.same W4
  have F_o0_contents := F_o0_contents.other W4 (Or.inr (slot_ne (Or.inr (hw _ (List.mem_of_getElem? (i := 62) rfl))) (Or.inr (hw _ (List.mem_of_getElem? (i := 60) rfl))) (by decide) (t := .int) (t' := .int) (by decide) (by decide)))
  have F_o0_end := F_o0_end.other W4 (Or.inr (slot_ne (Or.inr (hw _ (List.mem_of_getElem? (i := 64) rfl))) (Or.inr (hw _ (List.mem_of_getElem? (i := 60) rfl))) (by decide) (t := .int) (t' := .int) (by decide) (by decide)))
  have K := K.wr W4 (Or.inl (by simp))
  have Z0 := Nat.le_trans Z0 (Nat.le_of_eq W4.size.symm)
  have N4 := own_fs (sl := Jvm.RoadKit.slotOf Z "com/example/pathwarden/pathwarden/util/DerReader$Element" "start" "I") N3 g_o0
  show own_Out p e below _ T4 (mkF m 19 #[.val (.ref o0), .val (.ref ab), .val (.int u2), .val (.int u3), .val (.int u4), .val (.int u5)] []) _ _ _
  refine own_to (fun t k => XS.aloadN X4.here hx rfl (hb hby d8_19) rfl rfl k) ?_
  show own_Out p e below _ T4 (mkF m 20 #[.val (.ref o0), .val (.ref ab), .val (.int u2), .val (.int u3), .val (.int u4), .val (.int u5)] [(.ref o0)]) _ _ _
  refine own_to (fun t k => XS.iload X4.here hx rfl (hb hby d8_20) rfl k) ?_
  show own_Out p e below _ T4 (mkF m 22 #[.val (.ref o0), .val (.ref ab), .val (.int u2), .val (.int u3), .val (.int u4), .val (.int u5)] [(.int u4), (.ref o0)]) _ _ _
  refine own_putF X4 hx hZ hown (hw _ (List.mem_of_getElem? (i := 61) rfl)) e4 F_o0_contents E_o0 (Or.inr ⟨(hw _ (List.mem_of_getElem? (i := 62) rfl)), rfl, hnm⟩) (hw _ (List.mem_of_getElem? (i := 49) rfl)) (ty := .int) (by decide) rfl rfl rfl rfl (hb hby d8_22) fun T5 hh5 X5 e5 W5 => ?_
  have E_o0 := E_o0.wr W5
  have F_o0_bytes := F_o0_bytes.other W5 (Or.inr (slot_ne (Or.inr (hw _ (List.mem_of_getElem? (i := 56) rfl))) (Or.inr (hw _ (List.mem_of_getElem? (i := 62) rfl))) (by decide) (t := (.array .byte)) (t' := .int) (by decide) (by decide)))
  have F_o0_tag := F_o0_tag.other W5 (Or.inr (slot_ne (Or.inr (hw _ (List.mem_of_getElem? (i := 58) rfl))) (Or.inr (hw _ (List.mem_of_getElem? (i := 62) rfl))) (by decide) (t := .int) (t' := .int) (by decide) (by decide)))
  have F_o0_start := F_o0_start.other W5 (Or.inr (slot_ne (Or.inr (hw _ (List.mem_of_getElem? (i := 60) rfl))) (Or.inr (hw _ (List.mem_of_getElem? (i := 62) rfl))) (by decide) (t := .int) (t' := .int) (by decide) (by decide)))
  have F_o0_contents := F_o0_contents.same W5
  have F_o0_end := F_o0_end.other W5 (Or.inr (slot_ne (Or.inr (hw _ (List.mem_of_getElem? (i := 64) rfl))) (Or.inr (hw _ (List.mem_of_getElem? (i := 62) rfl))) (by decide) (t := .int) (t' := .int) (by decide) (by decide)))
  have K := K.wr W5 (Or.inl (by simp))
  have Z0 := Nat.le_trans Z0 (Nat.le_of_eq W5.size.symm)
  have N5 := own_fs (sl := Jvm.RoadKit.slotOf Z "com/example/pathwarden/pathwarden/util/DerReader$Element" "contents" "I") N4 g_o0
  show own_Out p e below _ T5 (mkF m 25 #[.val (.ref o0), .val (.ref ab), .val (.int u2), .val (.int u3), .val (.int u4), .val (.int u5)] []) _ _ _
  refine own_to (fun t k => XS.aloadN X5.here hx rfl (hb hby d8_25) rfl rfl k) ?_
  show own_Out p e below _ T5 (mkF m 26 #[.val (.ref o0), .val (.ref ab), .val (.int u2), .val (.int u3), .val (.int u4), .val (.int u5)] [(.ref o0)]) _ _ _
  refine own_to (fun t k => XS.iload X5.here hx rfl (hb hby d8_26) rfl k) ?_
  show own_Out p e below _ T5 (mkF m 28 #[.val (.ref o0), .val (.ref ab), .val (.int u2), .val (.int u3), .val (.int u4), .val (.int u5)] [(.int u5), (.ref o0)]) _ _ _
  refine own_putF X5 hx hZ hown (hw _ (List.mem_of_getElem? (i := 63) rfl)) e5 F_o0_end E_o0 (Or.inr ⟨(hw _ (List.mem_of_getElem? (i := 64) rfl)), rfl, hnm⟩) (hw _ (List.mem_of_getElem? (i := 49) rfl)) (ty := .int) (by decide) rfl rfl rfl rfl (hb hby d8_28) fun T6 hh6 X6 e6 W6 => ?_
  have E_o0 := E_o0.wr W6
  have F_o0_bytes := F_o0_bytes.other W6 (Or.inr (slot_ne (Or.inr (hw _ (List.mem_of_getElem? (i := 56) rfl))) (Or.inr (hw _ (List.mem_of_getElem? (i := 64) rfl))) (by decide) (t := (.array .byte)) (t' := .int) (by decide) (by decide)))
  have F_o0_tag := F_o0_tag.other W6 (Or.inr (slot_ne (Or.inr (hw _ (List.mem_of_getElem? (i := 58) rfl))) (Or.inr (hw _ (List.mem_of_getElem? (i := 64) rfl))) (by decide) (t := .int) (t' := .int) (by decide) (by decide)))
  have F_o0_start := F_o0_start.other W6 (Or.inr (slot_ne (Or.inr (hw _ (List.mem_of_getElem? (i := 60) rfl))) (Or.inr (hw _ (List.mem_of_getElem? (i := 64) rfl))) (by decide) (t := .int) (t' := .int) (by decide) (by decide)))
  have F_o0_contents := F_o0_contents.other W6 (Or.inr (slot_ne (Or.inr (hw _ (List.mem_of_getElem? (i := 62) rfl))) (Or.inr (hw _ (List.mem_of_getElem? (i := 64) rfl))) (by decide) (t := .int) (t' := .int) (by decide) (by decide)))
  have F_o0_end := F_o0_end.same W6
  have K := K.wr W6 (Or.inl (by simp))
  have Z0 := Nat.le_trans Z0 (Nat.le_of_eq W6.size.symm)
  have N6 := own_fs (sl := Jvm.RoadKit.slotOf Z "com/example/pathwarden/pathwarden/util/DerReader$Element" "end" "I") N5 g_o0
  show own_Out p e below _ T6 (mkF m 31 #[.val (.ref o0), .val (.ref ab), .val (.int u2), .val (.int u3), .val (.int u4), .val (.int u5)] []) _ _ _
  refine own_ret0 X6 hx hlk hret (hb hby d8_31) (by decide) (by decide) ?_
  rw [e6]
  exact ⟨rfl, N6, K, F_o0_bytes, F_o0_tag, F_o0_start, F_o0_contents, F_o0_end⟩
theorem d6_0 : decode prog_57_method_5_code 0 = .ok (.aload_n 0, 1) := by decide +kernel
theorem d6_1 : decode prog_57_method_5_code 1 = .ok (.getfield 16, 3) := by decide +kernel
theorem d6_4 : decode prog_57_method_5_code 4 = .ok (.istore_n 1, 1) := by decide +kernel
theorem d6_5 : decode prog_57_method_5_code 5 = .ok (.aload_n 0, 1) := by decide +kernel
theorem d6_6 : decode prog_57_method_5_code 6 = .ok (.ldc 27, 2) := by decide +kernel
theorem d6_8 : decode prog_57_method_5_code 8 = .ok (.invokevirtual 29, 3) := by decide +kernel
theorem d6_11 : decode prog_57_method_5_code 11 = .ok (.istore_n 2, 1) := by decide +kernel
theorem d6_12 : decode prog_57_method_5_code 12 = .ok (.iload_n 2, 1) := by decide +kernel
theorem d6_13 : decode prog_57_method_5_code 13 = .ok (.bipush 31, 2) := by decide +kernel
theorem d6_15 : decode prog_57_method_5_code 15 = .ok (.iand, 1) := by decide +kernel
theorem d6_16 : decode prog_57_method_5_code 16 = .ok (.bipush 31, 2) := by decide +kernel
theorem d6_18 : decode prog_57_method_5_code 18 = .ok (.if_icmp .ne 13, 3) := by decide +kernel
theorem d6_21 : decode prog_57_method_5_code 21 = .ok (.new 33, 3) := by decide +kernel
theorem d6_24 : decode prog_57_method_5_code 24 = .ok (.dup, 1) := by decide +kernel
theorem d6_25 : decode prog_57_method_5_code 25 = .ok (.ldc 35, 2) := by decide +kernel
theorem d6_27 : decode prog_57_method_5_code 27 = .ok (.invokespecial 37, 3) := by decide +kernel
theorem d6_30 : decode prog_57_method_5_code 30 = .ok (.athrow, 1) := by decide +kernel
theorem d6_31 : decode prog_57_method_5_code 31 = .ok (.aload_n 0, 1) := by decide +kernel
theorem d6_32 : decode prog_57_method_5_code 32 = .ok (.ldc 40, 2) := by decide +kernel
theorem d6_34 : decode prog_57_method_5_code 34 = .ok (.invokevirtual 29, 3) := by decide +kernel
theorem d6_37 : decode prog_57_method_5_code 37 = .ok (.i2l, 1) := by decide +kernel
theorem d6_38 : decode prog_57_method_5_code 38 = .ok (.lstore_n 3, 1) := by decide +kernel
theorem d6_39 : decode prog_57_method_5_code 39 = .ok (.lload_n 3, 1) := by decide +kernel
theorem d6_40 : decode prog_57_method_5_code 40 = .ok (.ldc2_w 42, 3) := by decide +kernel
theorem d6_43 : decode prog_57_method_5_code 43 = .ok (.land, 1) := by decide +kernel
theorem d6_44 : decode prog_57_method_5_code 44 = .ok (.lconst 0, 1) := by decide +kernel
theorem d6_45 : decode prog_57_method_5_code 45 = .ok (.lcmp, 1) := by decide +kernel
theorem d6_46 : decode prog_57_method_5_code 46 = .ok (.ifCond .eq 73, 3) := by decide +kernel
theorem d6_49 : decode prog_57_method_5_code 49 = .ok (.lload_n 3, 1) := by decide +kernel
theorem d6_50 : decode prog_57_method_5_code 50 = .ok (.l2i, 1) := by decide +kernel
theorem d6_51 : decode prog_57_method_5_code 51 = .ok (.sipush (-129), 3) := by decide +kernel
theorem d6_54 : decode prog_57_method_5_code 54 = .ok (.iand, 1) := by decide +kernel
theorem d6_55 : decode prog_57_method_5_code 55 = .ok (.istore 5, 2) := by decide +kernel
theorem d6_57 : decode prog_57_method_5_code 57 = .ok (.iload 5, 2) := by decide +kernel
theorem d6_59 : decode prog_57_method_5_code 59 = .ok (.ifCond .ne 13, 3) := by decide +kernel
theorem d6_62 : decode prog_57_method_5_code 62 = .ok (.new 33, 3) := by decide +kernel
theorem d6_65 : decode prog_57_method_5_code 65 = .ok (.dup, 1) := by decide +kernel
theorem d6_66 : decode prog_57_method_5_code 66 = .ok (.ldc 44, 2) := by decide +kernel
theorem d6_68 : decode prog_57_method_5_code 68 = .ok (.invokespecial 37, 3) := by decide +kernel
theorem d6_71 : decode prog_57_method_5_code 71 = .ok (.athrow, 1) := by decide +kernel
theorem d6_72 : decode prog_57_method_5_code 72 = .ok (.iload 5, 2) := by decide +kernel
theorem d6_74 : decode prog_57_method_5_code 74 = .ok (.iconst 4, 1) := by decide +kernel
theorem d6_75 : decode prog_57_method_5_code 75 = .ok (.if_icmp .le 13, 3) := by decide +kernel
theorem d6_78 : decode prog_57_method_5_code 78 = .ok (.new 33, 3) := by decide +kernel
theorem d6_81 : decode prog_57_method_5_code 81 = .ok (.dup, 1) := by decide +kernel
theorem d6_82 : decode prog_57_method_5_code 82 = .ok (.ldc 48, 2) := by decide +kernel
theorem d6_84 : decode prog_57_method_5_code 84 = .ok (.invokespecial 37, 3) := by decide +kernel
theorem d6_87 : decode prog_57_method_5_code 87 = .ok (.athrow, 1) := by decide +kernel
theorem d6_88 : decode prog_57_method_5_code 88 = .ok (.lconst 0, 1) := by decide +kernel
theorem d6_89 : decode prog_57_method_5_code 89 = .ok (.lstore_n 3, 1) := by decide +kernel
theorem d6_90 : decode prog_57_method_5_code 90 = .ok (.iconst 0, 1) := by decide +kernel
theorem d6_91 : decode prog_57_method_5_code 91 = .ok (.istore 6, 2) := by decide +kernel
theorem d6_93 : decode prog_57_method_5_code 93 = .ok (.iload 6, 2) := by decide +kernel
theorem d6_95 : decode prog_57_method_5_code 95 = .ok (.iload 5, 2) := by decide +kernel
theorem d6_97 : decode prog_57_method_5_code 97 = .ok (.if_icmp .ge 22, 3) := by decide +kernel
theorem d6_100 : decode prog_57_method_5_code 100 = .ok (.lload_n 3, 1) := by decide +kernel
theorem d6_101 : decode prog_57_method_5_code 101 = .ok (.bipush 8, 2) := by decide +kernel
theorem d6_103 : decode prog_57_method_5_code 103 = .ok (.lshl, 1) := by decide +kernel
theorem d6_104 : decode prog_57_method_5_code 104 = .ok (.aload_n 0, 1) := by decide +kernel
theorem d6_105 : decode prog_57_method_5_code 105 = .ok (.ldc 52, 2) := by decide +kernel
theorem d6_107 : decode prog_57_method_5_code 107 = .ok (.invokevirtual 29, 3) := by decide +kernel
theorem d6_110 : decode prog_57_method_5_code 110 = .ok (.i2l, 1) := by decide +kernel
theorem d6_111 : decode prog_57_method_5_code 111 = .ok (.lor, 1) := by decide +kernel
theorem d6_112 : decode prog_57_method_5_code 112 = .ok (.lstore_n 3, 1) := by decide +kernel
theorem d6_113 : decode prog_57_method_5_code 113 = .ok (.iinc 6 1, 3) := by decide +kernel
theorem d6_116 : decode prog_57_method_5_code 116 = .ok (.goto (-23), 3) := by decide +kernel
theorem d6_119 : decode prog_57_method_5_code 119 = .ok (.lload_n 3, 1) := by decide +kernel
theorem d6_120 : decode prog_57_method_5_code 120 = .ok (.aload_n 0, 1) := by decide +kernel
theorem d6_121 : decode prog_57_method_5_code 121 = .ok (.getfield 20, 3) := by decide +kernel
theorem d6_124 : decode prog_57_method_5_code 124 = .ok (.aload_n 0, 1) := by decide +kernel
theorem d6_125 : decode prog_57_method_5_code 125 = .ok (.getfield 16, 3) := by decide +kernel
theorem d6_128 : decode prog_57_method_5_code 128 = .ok (.isub, 1) := by decide +kernel
theorem d6_129 : decode prog_57_method_5_code 129 = .ok (.i2l, 1) := by decide +kernel
theorem d6_130 : decode prog_57_method_5_code 130 = .ok (.lcmp, 1) := by decide +kernel
theorem d6_131 : decode prog_57_method_5_code 131 = .ok (.ifCond .le 17, 3) := by decide +kernel
theorem d6_134 : decode prog_57_method_5_code 134 = .ok (.new 33, 3) := by decide +kernel
theorem d6_137 : decode prog_57_method_5_code 137 = .ok (.dup, 1) := by decide +kernel
theorem d6_138 : decode prog_57_method_5_code 138 = .ok (.lload_n 3, 1) := by decide +kernel
theorem d6_148 : decode prog_57_method_5_code 148 = .ok (.aload_n 0, 1) := by decide +kernel
theorem d6_149 : decode prog_57_method_5_code 149 = .ok (.getfield 16, 3) := by decide +kernel
theorem d6_152 : decode prog_57_method_5_code 152 = .ok (.istore 5, 2) := by decide +kernel
theorem d6_154 : decode prog_57_method_5_code 154 = .ok (.aload_n 0, 1) := by decide +kernel
theorem d6_155 : decode prog_57_method_5_code 155 = .ok (.dup, 1) := by decide +kernel
theorem d6_156 : decode prog_57_method_5_code 156 = .ok (.getfield 16, 3) := by decide +kernel
theorem d6_159 : decode prog_57_method_5_code 159 = .ok (.lload_n 3, 1) := by decide +kernel
theorem d6_160 : decode prog_57_method_5_code 160 = .ok (.l2i, 1) := by decide +kernel
theorem d6_161 : decode prog_57_method_5_code 161 = .ok (.iadd, 1) := by decide +kernel
theorem d6_162 : decode prog_57_method_5_code 162 = .ok (.putfield 16, 3) := by decide +kernel
theorem d6_165 : decode prog_57_method_5_code 165 = .ok (.new 58, 3) := by decide +kernel
theorem d6_168 : decode prog_57_method_5_code 168 = .ok (.dup, 1) := by decide +kernel
theorem d6_169 : decode prog_57_method_5_code 169 = .ok (.aload_n 0, 1) := by decide +kernel
theorem d6_170 : decode prog_57_method_5_code 170 = .ok (.getfield 12, 3) := by decide +kernel
theorem d6_173 : decode prog_57_method_5_code 173 = .ok (.iload_n 2, 1) := by decide +kernel
theorem d6_174 : decode prog_57_method_5_code 174 = .ok (.iload_n 1, 1) := by decide +kernel
theorem d6_175 : decode prog_57_method_5_code 175 = .ok (.iload 5, 2) := by decide +kernel
theorem d6_177 : decode prog_57_method_5_code 177 = .ok (.aload_n 0, 1) := by decide +kernel
theorem d6_178 : decode prog_57_method_5_code 178 = .ok (.getfield 16, 3) := by decide +kernel
theorem d6_181 : decode prog_57_method_5_code 181 = .ok (.invokespecial 60, 3) := by decide +kernel
theorem d6_184 : decode prog_57_method_5_code 184 = .ok (.areturn, 1) := by decide +kernel
theorem ef_6 (m : MethodId) (o0 : Addr) : entryFrame m #[(.ref o0)] 7 = mkF m 0 #[.val (.ref o0), .unset, .unset, .unset, .unset, .unset, .unset] [] := by first | (simp [entryFrame, mkF, argsToLocals, Value.category]; done) | rfl
def Q6 (Z : State) (o0 : Addr) (fp : Int32) (fq : Int32) (ab : Addr) (N : Nat) (fb : Nat → Int32) (tg : Int32) (ln : Int32) (h0 : Heap) (n0 : Nat) (v : Option Value) (h : Heap) (L : List Loc) : Prop := Fr n0 L ∧ Keep h0 h [o0] ∧ ∃ el : Addr, v = some (.ref el) ∧ h0.size ≤ el ∧ Fld Z h o0 "com/example/pathwarden/pathwarden/util/DerReader" "bytes" "[B" (.ref ab) ∧ Fld Z h o0 "com/example/pathwarden/pathwarden/util/DerReader" "position" "I" (.int (((fp + (1 : Int32)) + (1 : Int32)) + ((ln.toInt64).toInt32))) ∧ Fld Z h o0 "com/example/pathwarden/pathwarden/util/DerReader" "end" "I" (.int fq) ∧ Exa Z h el "com/example/pathwarden/pathwarden/util/DerReader$Element" ∧ Fld Z h el "com/example/pathwarden/pathwarden/util/DerReader$Element" "bytes" "[B" (.ref ab) ∧ Fld Z h el "com/example/pathwarden/pathwarden/util/DerReader$Element" "tag" "I" (.int tg) ∧ Fld Z h el "com/example/pathwarden/pathwarden/util/DerReader$Element" "start" "I" (.int fp) ∧ Fld Z h el "com/example/pathwarden/pathwarden/util/DerReader$Element" "contents" "I" (.int ((fp + (1 : Int32)) + (1 : Int32))) ∧ Fld Z h el "com/example/pathwarden/pathwarden/util/DerReader$Element" "end" "I" (.int (((fp + (1 : Int32)) + (1 : Int32)) + ((ln.toInt64).toInt32)))
theorem pd_2 : parseMethodDescriptor "(Ljava/lang/String;)I" = some ⟨[(.object "java/lang/String")], some .int⟩ := by decide +kernel
theorem pd_3 : parseMethodDescriptor "([BIIII)V" = some ⟨[(.array .byte), .int, .int, .int, .int], none⟩ := by decide +kernel
set_option maxRecDepth 65536 in
set_option maxHeartbeats 40000000 in
theorem rm6 (l : Launch) (Z : State) (a0 : Array Value) (hw : ∀ d ∈ tables_1, d.before a0 Z = true) (o0 : Addr) (fp : Int32) (fq : Int32) (ab : Addr) (N : Nat) (fb : Nat → Int32) (tg : Int32) (ln : Int32) (h0 : Heap) (n0 : Nat) (Z0 : n0 ≤ h0.size) (E_o0 : Exa Z h0 o0 "com/example/pathwarden/pathwarden/util/DerReader") (F_o0_bytes : Fld Z h0 o0 "com/example/pathwarden/pathwarden/util/DerReader" "bytes" "[B" (.ref ab)) (F_o0_position : Fld Z h0 o0 "com/example/pathwarden/pathwarden/util/DerReader" "position" "I" (.int fp)) (F_o0_end : Fld Z h0 o0 "com/example/pathwarden/pathwarden/util/DerReader" "end" "I" (.int fq)) (A_ab : own_A Z h0 ab .byte N fb) (g_o0 : n0 ≤ o0) (ne_ab_o0 : ab ≠ o0) (h1 : fp < fq) (hi1 : ¬ fp < 0 ∧ fp.toNatClampNeg < N) (htg : tg = ((fb (fp).toNatClampNeg) &&& (255 : Int32))) (h2 : (fp + (1 : Int32)) < fq) (hi2 : ¬ (fp + (1 : Int32)) < 0 ∧ (fp + (1 : Int32)).toNatClampNeg < N) (hln : ln = ((fb ((fp + (1 : Int32))).toNatClampNeg) &&& (255 : Int32))) (ht : ¬ (tg &&& (31 : Int32)) = (31 : Int32)) (hl1 : ((ln.toInt64) &&& (128 : Int64)) = (0 : Int64)) (hl2 : ¬ ((fq - ((fp + (1 : Int32)) + (1 : Int32))).toInt64) < (ln.toInt64)) :
    own_CW l Z (⟨"com/example/pathwarden/pathwarden/util/DerReader", "next", "()Lcom/example/pathwarden/pathwarden/util/DerReader$Element;"⟩ : MethodName) prog_57_method_5_code 7 (some (.object "com/example/pathwarden/pathwarden/util/DerReader$Element")) ({ frames := 2, cells := 5, slots := 65, locals := 30 } : Room) #[(.ref o0)] h0 (Q6 Z o0 fp fq ab N fb tg ln h0 n0) := by
  refine own_metW (plainFor_of_name pn_0) ?_
  intro p e s m below meth c s₁ hx hby hml hret hlk hown hnm hZ X0 e0 hS hk
  refine own_cast (ef_6 m o0) ?_
  have N0 := Fr.nil n0
  have ne_o0_ab := Ne.symm ne_ab_o0
  have K := Keep.refl h0 [o0]
  show own_Out p e below _ s₁ (mkF m 0 #[.val (.ref o0), .unset, .unset, .unset, .unset, .unset, .unset] []) _ _ _
  refine own_to (fun t k => XS.aloadN X0.here hx rfl (hb hby d6_0) rfl rfl k) ?_
  show own_Out p e below _ s₁ (mkF m 1 #[.val (.ref o0), .unset, .unset, .unset, .unset, .unset, .unset] [(.ref o0)]) _ _ _
  refine own_getF X0 hx hZ hown (hw _ (List.mem_of_getElem? (i := 15) rfl)) e0 F_o0_position rfl rfl (hb hby d6_1) fun T1 X1 e1 => ?_
  show own_Out p e below _ T1 (mkF m 4 #[.val (.ref o0), .unset, .unset, .unset, .unset, .unset, .unset] [(.int fp)]) _ _ _
  refine own_to (fun t k => XS.istoreN X1.here hx rfl (hb hby d6_4) rfl (l' := #[.val (.ref o0), .val (.int fp), .unset, .unset, .unset, .unset, .unset]) rfl k) ?_
  show own_Out p e below _ T1 (mkF m 5 #[.val (.ref o0), .val (.int fp), .unset, .unset, .unset, .unset, .unset] []) _ _ _
  refine own_to (fun t k => XS.aloadN X1.here hx rfl (hb hby d6_5) rfl rfl k) ?_
  show own_Out p e below _ T1 (mkF m 6 #[.val (.ref o0), .val (.int fp), .unset, .unset, .unset, .unset, .unset] [(.ref o0)]) _ _ _
  refine own_ldcS X1 hx hZ hown hS hk (hw _ (List.mem_of_getElem? (i := 35) rfl)) (fun a ha => hw a (own_atoms a ha)) e1 rfl (hb hby d6_6) (n := 20) (by decide) (by decide) (by decide) (by decide) fun a2 T2 hh2 k2 X2 e2 E2 hZ hown hS hk => ?_
  have E_o0 := E_o0.ext E2
  have F_o0_bytes := F_o0_bytes.ext E2
  have F_o0_position := F_o0_position.ext E2
  have F_o0_end := F_o0_end.ext E2
  have A_ab := A_ab.ext E2
  have K := K.ext E2
  have Z0 := Nat.le_trans Z0 E2.1
  show own_Out p e below _ T2 (mkF m 8 #[.val (.ref o0), .val (.int fp), .unset, .unset, .unset, .unset, .unset] [(.ref a2), (.ref o0)]) _ _ _
  refine own_callP X2 hx hZ hown (a := o0) (argsL := [(.ref a2)]) (rest := []) (hw _ (List.mem_of_getElem? (i := 42) rfl)) (hw _ (List.mem_of_getElem? (i := 44) rfl)) (hw _ (List.mem_of_getElem? (i := 2) rfl)) (hw _ (List.mem_of_getElem? (i := 43) rfl)) (hw _ (List.mem_of_getElem? (i := 3) rfl)) (hw _ (List.mem_of_getElem? (i := 45) rfl)) (by decide) (rm7 l Z a0 hw o0 a2 fp fq ab N fb tg hh2 n0 Z0 E_o0 F_o0_bytes F_o0_position F_o0_end A_ab g_o0 ne_ab_o0 h1 hi1 htg) (by decide) (by decide) e2 E_o0 rfl (by rw [hml]; rfl) (lenOf pd_2 rfl) rfl (W := 0) (by show 2 * 0 + _ ≤ _; exact Nat.le_of_eq rfl) (hb hby d6_8) (by decide) (by decide) fun v3 T3 hh3 L3 X3 e3 hQ3 => ?_
  obtain ⟨rfl, NL3, KK3, P3_0, P3_1, P3_2⟩ := hQ3
  have E_o0 := E_o0.keep KK3
  have A_ab := A_ab.keep KK3 (by simp [ne_ab_o0])
  have F_o0_bytes := P3_0
  have F_o0_position := P3_1
  have F_o0_end := P3_2
  have K := K.trans KK3 (by intro z hz; simp only [List.mem_cons, List.not_mem_nil, or_false] at hz; subst hz; exact Or.inl (by simp))
  have Z0 := Nat.le_trans Z0 KK3.1
  have hk := Nat.le_trans hk KK3.1
  have N3 := Fr.app N0 NL3
  show own_Out p e below _ T3 (mkF m 11 #[.val (.ref o0), .val (.int fp), .unset, .unset, .unset, .unset, .unset] [(.int tg)]) _ _ _
  refine own_to (fun t k => XS.istoreN X3.here hx rfl (hb hby d6_11) rfl (l' := #[.val (.ref o0), .val (.int fp), .val (.int tg), .unset, .unset, .unset, .unset]) rfl k) ?_
  show own_Out p e below _ T3 (mkF m 12 #[.val (.ref o0), .val (.int fp), .val (.int tg), .unset, .unset, .unset, .unset] []) _ _ _
  refine own_to (fun t k => XS.iloadN X3.here hx rfl (hb hby d6_12) rfl k) ?_
  show own_Out p e below _ T3 (mkF m 13 #[.val (.ref o0), .val (.int fp), .val (.int tg), .unset, .unset, .unset, .unset] [(.int tg)]) _ _ _
  refine own_to (fun t k => XS.bipush X3.here hx rfl (hb hby d6_13) k) ?_
  show own_Out p e below _ T3 (mkF m 15 #[.val (.ref o0), .val (.int fp), .val (.int tg), .unset, .unset, .unset, .unset] [(.int (31 : Int32)), (.int tg)]) _ _ _
  refine own_to (fun t k => XS.iand X3.here hx rfl (hb hby d6_15) rfl k) ?_
  show own_Out p e below _ T3 (mkF m 16 #[.val (.ref o0), .val (.int fp), .val (.int tg), .unset, .unset, .unset, .unset] [(.int (tg &&& (31 : Int32)))]) _ _ _
  refine own_to (fun t k => XS.bipush X3.here hx rfl (hb hby d6_16) k) ?_
  show own_Out p e below _ T3 (mkF m 18 #[.val (.ref o0), .val (.int fp), .val (.int tg), .unset, .unset, .unset, .unset] [(.int (31 : Int32)), (.int (tg &&& (31 : Int32)))]) _ _ _
  have hc18 : ¬ ((tg &&& (31 : Int32)) = (31 : Int32)) := ht
  refine own_to (fun t k => XS.icmpYes X3.here hx rfl (pc0 := 18) (pc' := 31) rfl (hb hby d6_18) rfl (feq hc18).2 (by decide) (by decide) k) ?_
  show own_Out p e below _ T3 (mkF m 31 #[.val (.ref o0), .val (.int fp), .val (.int tg), .unset, .unset, .unset, .unset] []) _ _ _
  refine own_to (fun t k => XS.aloadN X3.here hx rfl (hb hby d6_31) rfl rfl k) ?_
  show own_Out p e below _ T3 (mkF m 32 #[.val (.ref o0), .val (.int fp), .val (.int tg), .unset, .unset, .unset, .unset] [(.ref o0)]) _ _ _
  refine own_ldcS X3 hx hZ hown hS hk (hw _ (List.mem_of_getElem? (i := 46) rfl)) (fun a ha => hw a (own_atoms a ha)) e3 rfl (hb hby d6_32) (n := 32) (by decide) (by decide) (by decide) (by decide) fun a4 T4 hh4 k4 X4 e4 E4 hZ hown hS hk => ?_
  have E_o0 := E_o0.ext E4
  have A_ab := A_ab.ext E4
  have F_o0_bytes := F_o0_bytes.ext E4
  have F_o0_position := F_o0_position.ext E4
  have F_o0_end := F_o0_end.ext E4
  have K := K.ext E4
  have Z0 := Nat.le_trans Z0 E4.1
  show own_Out p e below _ T4 (mkF m 34 #[.val (.ref o0), .val (.int fp), .val (.int tg), .unset, .unset, .unset, .unset] [(.ref a4), (.ref o0)]) _ _ _
  refine own_callP X4 hx hZ hown (a := o0) (argsL := [(.ref a4)]) (rest := []) (hw _ (List.mem_of_getElem? (i := 42) rfl)) (hw _ (List.mem_of_getElem? (i := 44) rfl)) (hw _ (List.mem_of_getElem? (i := 2) rfl)) (hw _ (List.mem_of_getElem? (i := 43) rfl)) (hw _ (List.mem_of_getElem? (i := 3) rfl)) (hw _ (List.mem_of_getElem? (i := 45) rfl)) (by decide) (rm7 l Z a0 hw o0 a4 (fp + (1 : Int32)) fq ab N fb ln hh4 n0 Z0 E_o0 F_o0_bytes F_o0_position F_o0_end A_ab g_o0 ne_ab_o0 h2 hi2 hln) (by decide) (by decide) e4 E_o0 rfl (by rw [hml]; rfl) (lenOf pd_2 rfl) rfl (W := 0) (by show 2 * 0 + _ ≤ _; exact Nat.le_of_eq rfl) (hb hby d6_34) (by decide) (by decide) fun v5 T5 hh5 L5 X5 e5 hQ5 => ?_
  obtain ⟨rfl, NL5, KK5, P5_0, P5_1, P5_2⟩ := hQ5
  have E_o0 := E_o0.keep KK5
  have A_ab := A_ab.keep KK5 (by simp [ne_ab_o0])
  have F_o0_bytes := P5_0
  have F_o0_position := P5_1
  have F_o0_end := P5_2
  have K := K.trans KK5 (by intro z hz; simp only [List.mem_cons, List.not_mem_nil, or_false] at hz; subst hz; exact Or.inl (by simp))
  have Z0 := Nat.le_trans Z0 KK5.1
  have hk := Nat.le_trans hk KK5.1
  have N5 := Fr.app N3 NL5
  show own_Out p e below _ T5 (mkF m 37 #[.val (.ref o0), .val (.int fp), .val (.int tg), .unset, .unset, .unset, .unset] [(.int ln)]) _ _ _
  refine own_to (fun t k => XS.i2l X5.here hx rfl (hb hby d6_37) rfl k) ?_
  show own_Out p e below _ T5 (mkF m 38 #[.val (.ref o0), .val (.int fp), .val (.int tg), .unset, .unset, .unset, .unset] [(.long (ln.toInt64))]) _ _ _
  refine own_to (fun t k => XS.lstoreN X5.here hx rfl (hb hby d6_38) rfl (l' := #[.val (.ref o0), .val (.int fp), .val (.int tg), .val (.long (ln.toInt64)), .second, .unset, .unset]) rfl k) ?_
  show own_Out p e below _ T5 (mkF m 39 #[.val (.ref o0), .val (.int fp), .val (.int tg), .val (.long (ln.toInt64)), .second, .unset, .unset] []) _ _ _
  refine own_to (fun t k => XS.lloadN X5.here hx rfl (hb hby d6_39) rfl k) ?_
  show own_Out p e below _ T5 (mkF m 40 #[.val (.ref o0), .val (.int fp), .val (.int tg), .val (.long (ln.toInt64)), .second, .unset, .unset] [(.long (ln.toInt64))]) _ _ _
  refine own_to (fun t k => X5.ldc2J hx hown (mvT hZ (hw _ (List.mem_of_getElem? (i := 47) rfl))) rfl (hb hby d6_40) k) ?_
  show own_Out p e below _ T5 (mkF m 43 #[.val (.ref o0), .val (.int fp), .val (.int tg), .val (.long (ln.toInt64)), .second, .unset, .unset] [(.long (128 : Int64)), (.long (ln.toInt64))]) _ _ _
  refine own_to (fun t k => XS.land X5.here hx rfl (hb hby d6_43) rfl k) ?_
  show own_Out p e below _ T5 (mkF m 44 #[.val (.ref o0), .val (.int fp), .val (.int tg), .val (.long (ln.toInt64)), .second, .unset, .unset] [(.long ((ln.toInt64) &&& (128 : Int64)))]) _ _ _
  refine own_to (fun t k => XS.lconst X5.here hx rfl (hb hby d6_44) k) ?_
  show own_Out p e below _ T5 (mkF m 45 #[.val (.ref o0), .val (.int fp), .val (.int tg), .val (.long (ln.toInt64)), .second, .unset, .unset] [(.long (0 : Int64)), (.long ((ln.toInt64) &&& (128 : Int64)))]) _ _ _
  refine own_to (fun t k => XS.lcmp X5.here hx rfl (hb hby d6_45) rfl k) ?_
  show own_Out p e below _ T5 (mkF m 46 #[.val (.ref o0), .val (.int fp), .val (.int tg), .val (.long (ln.toInt64)), .second, .unset, .unset] [(.int (lcmpW ((ln.toInt64) &&& (128 : Int64)) (0 : Int64)))]) _ _ _
  have hc46 : ((ln.toInt64) &&& (128 : Int64)) = (0 : Int64) := hl1
  refine own_to (fun t k => XS.ifYes X5.here hx rfl (pc0 := 46) (pc' := 119) rfl (hb hby d6_46) rfl ((if0 _ _).trans (teq ((lw_eq _ _).mpr hc46)).1) (by decide) (by decide) k) ?_
  show own_Out p e below _ T5 (mkF m 119 #[.val (.ref o0), .val (.int fp), .val (.int tg), .val (.long (ln.toInt64)), .second, .unset, .unset] []) _ _ _
  refine own_to (fun t k => XS.lloadN X5.here hx rfl (hb hby d6_119) rfl k) ?_
  show own_Out p e below _ T5 (mkF m 120 #[.val (.ref o0), .val (.int fp), .val (.int tg), .val (.long (ln.toInt64)), .second, .unset, .unset] [(.long (ln.toInt64))]) _ _ _
  refine own_to (fun t k => XS.aloadN X5.here hx rfl (hb hby d6_120) rfl rfl k) ?_
  show own_Out p e below _ T5 (mkF m 121 #[.val (.ref o0), .val (.int fp), .val (.int tg), .val (.long (ln.toInt64)), .second, .unset, .unset] [(.ref o0), (.long (ln.toInt64))]) _ _ _
  refine own_getF X5 hx hZ hown (hw _ (List.mem_of_getElem? (i := 17) rfl)) e5 F_o0_end rfl rfl (hb hby d6_121) fun T6 X6 e6 => ?_
  show own_Out p e below _ T6 (mkF m 124 #[.val (.ref o0), .val (.int fp), .val (.int tg), .val (.long (ln.toInt64)), .second, .unset, .unset] [(.int fq), (.long (ln.toInt64))]) _ _ _
  refine own_to (fun t k => XS.aloadN X6.here hx rfl (hb hby d6_124) rfl rfl k) ?_
  show own_Out p e below _ T6 (mkF m 125 #[.val (.ref o0), .val (.int fp), .val (.int tg), .val (.long (ln.toInt64)), .second, .unset, .unset] [(.ref o0), (.int fq), (.long (ln.toInt64))]) _ _ _
  refine own_getF X6 hx hZ hown (hw _ (List.mem_of_getElem? (i := 15) rfl)) e6 F_o0_position rfl rfl (hb hby d6_125) fun T7 X7 e7 => ?_
  show own_Out p e below _ T7 (mkF m 128 #[.val (.ref o0), .val (.int fp), .val (.int tg), .val (.long (ln.toInt64)), .second, .unset, .unset] [(.int ((fp + (1 : Int32)) + (1 : Int32))), (.int fq), (.long (ln.toInt64))]) _ _ _
  refine own_to (fun t k => XS.isub X7.here hx rfl (hb hby d6_128) rfl k) ?_
  show own_Out p e below _ T7 (mkF m 129 #[.val (.ref o0), .val (.int fp), .val (.int tg), .val (.long (ln.toInt64)), .second, .unset, .unset] [(.int (fq - ((fp + (1 : Int32)) + (1 : Int32)))), (.long (ln.toInt64))]) _ _ _
  refine own_to (fun t k => XS.i2l X7.here hx rfl (hb hby d6_129) rfl k) ?_
  show own_Out p e below _ T7 (mkF m 130 #[.val (.ref o0), .val (.int fp), .val (.int tg), .val (.long (ln.toInt64)), .second, .unset, .unset] [(.long ((fq - ((fp + (1 : Int32)) + (1 : Int32))).toInt64)), (.long (ln.toInt64))]) _ _ _
  refine own_to (fun t k => XS.lcmp X7.here hx rfl (hb hby d6_130) rfl k) ?_
  show own_Out p e below _ T7 (mkF m 131 #[.val (.ref o0), .val (.int fp), .val (.int tg), .val (.long (ln.toInt64)), .second, .unset, .unset] [(.int (lcmpW (ln.toInt64) ((fq - ((fp + (1 : Int32)) + (1 : Int32))).toInt64)))]) _ _ _
  have hc131 : ¬ (((fq - ((fp + (1 : Int32)) + (1 : Int32))).toInt64) < (ln.toInt64)) := hl2
  refine own_to (fun t k => XS.ifYes X7.here hx rfl (pc0 := 131) (pc' := 148) rfl (hb hby d6_131) rfl ((if0 _ _).trans (flt (fun q => hc131 ((lw_gt _ _).mp q))).2.2.2) (by decide) (by decide) k) ?_
  show own_Out p e below _ T7 (mkF m 148 #[.val (.ref o0), .val (.int fp), .val (.int tg), .val (.long (ln.toInt64)), .second, .unset, .unset] []) _ _ _
  refine own_to (fun t k => XS.aloadN X7.here hx rfl (hb hby d6_148) rfl rfl k) ?_
  show own_Out p e below _ T7 (mkF m 149 #[.val (.ref o0), .val (.int fp), .val (.int tg), .val (.long (ln.toInt64)), .second, .unset, .unset] [(.ref o0)]) _ _ _
  refine own_getF X7 hx hZ hown (hw _ (List.mem_of_getElem? (i := 15) rfl)) e7 F_o0_position rfl rfl (hb hby d6_149) fun T8 X8 e8 => ?_
  show own_Out p e below _ T8 (mkF m 152 #[.val (.ref o0), .val (.int fp), .val (.int tg), .val (.long (ln.toInt64)), .second, .unset, .unset] [(.int ((fp + (1 : Int32)) + (1 : Int32)))]) _ _ _
  refine own_to (fun t k => XS.istore X8.here hx rfl (hb hby d6_152) rfl (l' := #[.val (.ref o0), .val (.int fp), .val (.int tg), .val (.long (ln.toInt64)), .second, .val (.int ((fp + (1 : Int32)) + (1 : Int32))), .unset]) rfl k) ?_
  show own_Out p e below _ T8 (mkF m 154 #[.val (.ref o0), .val (.int fp), .val (.int tg), .val (.long (ln.toInt64)), .second, .val (.int ((fp + (1 : Int32)) + (1 : Int32))), .unset] []) _ _ _
  refine own_to (fun t k => XS.aloadN X8.here hx rfl (hb hby d6_154) rfl rfl k) ?_
  show own_Out p e below _ T8 (mkF m 155 #[.val (.ref o0), .val (.int fp), .val (.int tg), .val (.long (ln.toInt64)), .second, .val (.int ((fp + (1 : Int32)) + (1 : Int32))), .unset] [(.ref o0)]) _ _ _
  refine own_to (fun t k => XS.dup X8.here hx rfl (hb hby d6_155) rfl rfl k) ?_
  show own_Out p e below _ T8 (mkF m 156 #[.val (.ref o0), .val (.int fp), .val (.int tg), .val (.long (ln.toInt64)), .second, .val (.int ((fp + (1 : Int32)) + (1 : Int32))), .unset] [(.ref o0), (.ref o0)]) _ _ _
  refine own_getF X8 hx hZ hown (hw _ (List.mem_of_getElem? (i := 15) rfl)) e8 F_o0_position rfl rfl (hb hby d6_156) fun T9 X9 e9 => ?_
  show own_Out p e below _ T9 (mkF m 159 #[.val (.ref o0), .val (.int fp), .val (.int tg), .val (.long (ln.toInt64)), .second, .val (.int ((fp + (1 : Int32)) + (1 : Int32))), .unset] [(.int ((fp + (1 : Int32)) + (1 : Int32))), (.ref o0)]) _ _ _
  refine own_to (fun t k => XS.lloadN X9.here hx rfl (hb hby d6_159) rfl k) ?_
  show own_Out p e below _ T9 (mkF m 160 #[.val (.ref o0), .val (.int fp), .val (.int tg), .val (.long (ln.toInt64)), .second, .val (.int ((fp + (1 : Int32)) + (1 : Int32))), .unset] [(.long (ln.toInt64)), (.int ((fp + (1 : Int32)) + (1 : Int32))), (.ref o0)]) _ _ _
  refine own_to (fun t k => XS.l2i X9.here hx rfl (hb hby d6_160) rfl k) ?_
  show own_Out p e below _ T9 (mkF m 161 #[.val (.ref o0), .val (.int fp), .val (.int tg), .val (.long (ln.toInt64)), .second, .val (.int ((fp + (1 : Int32)) + (1 : Int32))), .unset] [(.int ((ln.toInt64).toInt32)), (.int ((fp + (1 : Int32)) + (1 : Int32))), (.ref o0)]) _ _ _
  refine own_to (fun t k => XS.iadd X9.here hx rfl (hb hby d6_161) rfl k) ?_
  show own_Out p e below _ T9 (mkF m 162 #[.val (.ref o0), .val (.int fp), .val (.int tg), .val (.long (ln.toInt64)), .second, .val (.int ((fp + (1 : Int32)) + (1 : Int32))), .unset] [(.int (((fp + (1 : Int32)) + (1 : Int32)) + ((ln.toInt64).toInt32))), (.ref o0)]) _ _ _
  refine own_putF X9 hx hZ hown (hw _ (List.mem_of_getElem? (i := 15) rfl)) e9 F_o0_position E_o0 (Or.inl (hw _ (List.mem_of_getElem? (i := 16) rfl))) (hw _ (List.mem_of_getElem? (i := 2) rfl)) (ty := .int) (by decide) rfl rfl rfl rfl (hb hby d6_162) fun T10 hh10 X10 e10 W10 => ?_
  have E_o0 := E_o0.wr W10
  have A_ab := A_ab.other W10 ne_ab_o0
  have F_o0_bytes := F_o0_bytes.other W10 (Or.inr (slot_ne (Or.inr (hw _ (List.mem_of_getElem? (i := 14) rfl))) (Or.inl (hw _ (List.mem_of_getElem? (i := 16) rfl))) (by decide) (t := (.array .byte)) (t' := .int) (by decide) (by decide)))
  have F_o0_position := F_o0_position.same W10
  have F_o0_end := F_o0_end.other W10 (Or.inr (slot_ne (Or.inr (hw _ (List.mem_of_getElem? (i := 18) rfl))) (Or.inl (hw _ (List.mem_of_getElem? (i := 16) rfl))) (by decide) (t := .int) (t' := .int) (by decide) (by decide)))
  have K := K.wr W10 (Or.inl (by simp))
  have Z0 := Nat.le_trans Z0 (Nat.le_of_eq W10.size.symm)
  have hk := Nat.le_trans hk (Nat.le_of_eq W10.size.symm)
  have N10 := own_fs (sl := Jvm.RoadKit.slotOf Z "com/example/pathwarden/pathwarden/util/DerReader" "position" "I") N5 g_o0
  show own_Out p e below _ T10 (mkF m 165 #[.val (.ref o0), .val (.int fp), .val (.int tg), .val (.long (ln.toInt64)), .second, .val (.int ((fp + (1 : Int32)) + (1 : Int32))), .unset] []) _ _ _
  refine own_new X10 hx hZ hown (hw _ (List.mem_of_getElem? (i := 48) rfl)) (hw _ (List.mem_of_getElem? (i := 49) rfl)) (hw _ (List.mem_of_getElem? (i := 50) rfl)) e10 rfl (hb hby d6_165) (by decide) (by decide) fun T11 hh11 ob11 gb11 X11 e11 E11 A11 D11 => ?_
  have ne_o0_ob11 : o0 ≠ ob11 := Nat.ne_of_lt (Nat.lt_of_lt_of_le E_o0.lt (Nat.le_of_eq gb11.symm))
  have ne_ob11_o0 := Ne.symm ne_o0_ob11
  have ne_ab_ob11 : ab ≠ ob11 := Nat.ne_of_lt (Nat.lt_of_lt_of_le A_ab.lt (Nat.le_of_eq gb11.symm))
  have ne_ob11_ab := Ne.symm ne_ab_ob11
  have g_ob11 : n0 ≤ ob11 := Nat.le_trans Z0 (Nat.le_of_eq gb11.symm)
  have sz_ob11 : h0.size ≤ ob11 := Nat.le_trans K.1 (Nat.le_of_eq gb11.symm)
  have E_o0 := E_o0.ext E11
  have A_ab := A_ab.ext E11
  have F_o0_bytes := F_o0_bytes.ext E11
  have F_o0_position := F_o0_position.ext E11
  have F_o0_end := F_o0_end.ext E11
  have K := K.ext E11
  have Z0 := Nat.le_trans Z0 E11.1
  have hk := Nat.le_trans hk E11.1
  have E_ob11 := A11
  have F_ob11_bytes : Fld Z hh11 ob11 "com/example/pathwarden/pathwarden/util/DerReader$Element" "bytes" "[B" .null := D11 (Or.inr (hw _ (List.mem_of_getElem? (i := 56) rfl))) (ty := (.array .byte)) (by decide)
  have F_ob11_tag : Fld Z hh11 ob11 "com/example/pathwarden/pathwarden/util/DerReader$Element" "tag" "I" (.int (0 : Int32)) := D11 (Or.inr (hw _ (List.mem_of_getElem? (i := 58) rfl))) (ty := .int) (by decide)
  have F_ob11_start : Fld Z hh11 ob11 "com/example/pathwarden/pathwarden/util/DerReader$Element" "start" "I" (.int (0 : Int32)) := D11 (Or.inr (hw _ (List.mem_of_getElem? (i := 60) rfl))) (ty := .int) (by decide)
  have F_ob11_contents : Fld Z hh11 ob11 "com/example/pathwarden/pathwarden/util/DerReader$Element" "contents" "I" (.int (0 : Int32)) := D11 (Or.inr (hw _ (List.mem_of_getElem? (i := 62) rfl))) (ty := .int) (by decide)
  have F_ob11_end : Fld Z hh11 ob11 "com/example/pathwarden/pathwarden/util/DerReader$Element" "end" "I" (.int (0 : Int32)) := D11 (Or.inr (hw _ (List.mem_of_getElem? (i := 64) rfl))) (ty := .int) (by decide)
  show own_Out p e below _ T11 (mkF m 168 #[.val (.ref o0), .val (.int fp), .val (.int tg), .val (.long (ln.toInt64)), .second, .val (.int ((fp + (1 : Int32)) + (1 : Int32))), .unset] [(.ref ob11)]) _ _ _
  refine own_to (fun t k => XS.dup X11.here hx rfl (hb hby d6_168) rfl rfl k) ?_
  show own_Out p e below _ T11 (mkF m 169 #[.val (.ref o0), .val (.int fp), .val (.int tg), .val (.long (ln.toInt64)), .second, .val (.int ((fp + (1 : Int32)) + (1 : Int32))), .unset] [(.ref ob11), (.ref ob11)]) _ _ _
  refine own_to (fun t k => XS.aloadN X11.here hx rfl (hb hby d6_169) rfl rfl k) ?_
  show own_Out p e below _ T11 (mkF m 170 #[.val (.ref o0), .val (.int fp), .val (.int tg), .val (.long (ln.toInt64)), .second, .val (.int ((fp + (1 : Int32)) + (1 : Int32))), .unset] [(.ref o0), (.ref ob11), (.ref ob11)]) _ _ _
  refine own_getF X11 hx hZ hown (hw _ (List.mem_of_getElem? (i := 13) rfl)) e11 F_o0_bytes rfl rfl (hb hby d6_170) fun T12 X12 e12 => ?_
  show own_Out p e below _ T12 (mkF m 173 #[.val (.ref o0), .val (.int fp), .val (.int tg), .val (.long (ln.toInt64)), .second, .val (.int ((fp + (1 : Int32)) + (1 : Int32))), .unset] [(.ref ab), (.ref ob11), (.ref ob11)]) _ _ _
  refine own_to (fun t k => XS.iloadN X12.here hx rfl (hb hby d6_173) rfl k) ?_
  show own_Out p e below _ T12 (mkF m 174 #[.val (.ref o0), .val (.int fp), .val (.int tg), .val (.long (ln.toInt64)), .second, .val (.int ((fp + (1 : Int32)) + (1 : Int32))), .unset] [(.int tg), (.ref ab), (.ref ob11), (.ref ob11)]) _ _ _
  refine own_to (fun t k => XS.iloadN X12.here hx rfl (hb hby d6_174) rfl k) ?_
  show own_Out p e below _ T12 (mkF m 175 #[.val (.ref o0), .val (.int fp), .val (.int tg), .val (.long (ln.toInt64)), .second, .val (.int ((fp + (1 : Int32)) + (1 : Int32))), .unset] [(.int fp), (.int tg), (.ref ab), (.ref ob11), (.ref ob11)]) _ _ _
  refine own_to (fun t k => XS.iload X12.here hx rfl (hb hby d6_175) rfl k) ?_
  show own_Out p e below _ T12 (mkF m 177 #[.val (.ref o0), .val (.int fp), .val (.int tg), .val (.long (ln.toInt64)), .second, .val (.int ((fp + (1 : Int32)) + (1 : Int32))), .unset] [(.int ((fp + (1 : Int32)) + (1 : Int32))), (.int fp), (.int tg), (.ref ab), (.ref ob11), (.ref ob11)]) _ _ _
  refine own_to (fun t k => XS.aloadN X12.here hx rfl (hb hby d6_177) rfl rfl k) ?_
  show own_Out p e below _ T12 (mkF m 178 #[.val (.ref o0), .val (.int fp), .val (.int tg), .val (.long (ln.toInt64)), .second, .val (.int ((fp + (1 : Int32)) + (1 : Int32))), .unset] [(.ref o0), (.int ((fp + (1 : Int32)) + (1 : Int32))), (.int fp), (.int tg), (.ref ab), (.ref ob11), (.ref ob11)]) _ _ _
  refine own_getF X12 hx hZ hown (hw _ (List.mem_of_getElem? (i := 15) rfl)) e12 F_o0_position rfl rfl (hb hby d6_178) fun T13 X13 e13 => ?_
  show own_Out p e below _ T13 (mkF m 181 #[.val (.ref o0), .val (.int fp), .val (.int tg), .val (.long (ln.toInt64)), .second, .val (.int ((fp + (1 : Int32)) + (1 : Int32))), .unset] [(.int (((fp + (1 : Int32)) + (1 : Int32)) + ((ln.toInt64).toInt32))), (.int ((fp + (1 : Int32)) + (1 : Int32))), (.int fp), (.int tg), (.ref ab), (.ref ob11), (.ref ob11)]) _ _ _
  refine own_callCR X13 hx hZ hown (a := ob11) (argsL := [(.ref ab), (.int tg), (.int fp), (.int ((fp + (1 : Int32)) + (1 : Int32))), (.int (((fp + (1 : Int32)) + (1 : Int32)) + ((ln.toInt64).toInt32)))]) (rest := [(.ref ob11)]) rfl (hw _ (List.mem_of_getElem? (i := 51) rfl)) (hw _ (List.mem_of_getElem? (i := 52) rfl)) (hw _ (List.mem_of_getElem? (i := 50) rfl)) (hw _ (List.mem_of_getElem? (i := 53) rfl)) (by decide) (rm8 l Z a0 hw ob11 ab tg fp ((fp + (1 : Int32)) + (1 : Int32)) (((fp + (1 : Int32)) + (1 : Int32)) + ((ln.toInt64).toInt32)) hh11 n0 Z0 E_ob11 F_ob11_bytes F_ob11_tag F_ob11_start F_ob11_contents F_ob11_end g_ob11) (by decide) (by decide) e13 rfl (by rw [hml]; rfl) (lenOf pd_3 rfl) rfl (W := 1) (by show 2 * 0 + _ ≤ _; exact Nat.le_of_eq rfl) (hb hby d6_181) (by decide) (by decide) fun v14 T14 hh14 L14 X14 e14 hQ14 => ?_
  obtain ⟨rfl, NL14, KK14, P14_0, P14_1, P14_2, P14_3, P14_4⟩ := hQ14
  have E_o0 := E_o0.keep KK14
  have A_ab := A_ab.keep KK14 (by simp [ne_ab_ob11])
  have F_o0_bytes := F_o0_bytes.keep KK14 (by simp [ne_o0_ob11])
  have F_o0_position := F_o0_position.keep KK14 (by simp [ne_o0_ob11])
  have F_o0_end := F_o0_end.keep KK14 (by simp [ne_o0_ob11])
  have E_ob11 := E_ob11.keep KK14
  have F_ob11_bytes := P14_0
  have F_ob11_tag := P14_1
  have F_ob11_start := P14_2
  have F_ob11_contents := P14_3
  have F_ob11_end := P14_4
  have K := K.trans KK14 (by intro z hz; simp only [List.mem_cons, List.not_mem_nil, or_false] at hz; subst hz; exact Or.inr sz_ob11)
  have Z0 := Nat.le_trans Z0 KK14.1
  have hk := Nat.le_trans hk KK14.1
  have N14 := Fr.app N10 NL14
  show own_Out p e below _ T14 (mkF m 184 #[.val (.ref o0), .val (.int fp), .val (.int tg), .val (.long (ln.toInt64)), .second, .val (.int ((fp + (1 : Int32)) + (1 : Int32))), .unset] [(.ref ob11)]) _ _ _
  refine own_retAW X14 hS hk e14 hx hlk hret rfl (hb hby d6_184) (by decide) (by decide) ?_
  rw [e14]
  exact ⟨N14, K, ob11, rfl, sz_ob11, F_o0_bytes, F_o0_position, F_o0_end, E_ob11, F_ob11_bytes, F_ob11_tag, F_ob11_start, F_ob11_contents, F_ob11_end⟩
theorem pn_2 : plainName "com/example/pathwarden/pathwarden/util/DerReaderNextIsPinLaw" = true := by first | (simp [plainName, overriddenIn]; done) | decide +kernel
theorem ef_0 (m : MethodId) (x0 : Int32) (x1 : Int32) (x2 : Int32) : entryFrame m #[(.int x0), (.int x1), (.int x2)] maxLocals = mkF m 0 #[.val (.int x0), .val (.int x1), .val (.int x2), .unset, .unset, .unset, .unset, .unset, .unset, .unset, .unset, .unset] [] := by first | (simp [entryFrame, mkF, argsToLocals, Value.category, maxLocals]; done) | rfl
def Q0 (Z : State) (x0 : Int32) (x1 : Int32) (x2 : Int32) (h0 : Heap) (n0 : Nat) (v : Option Value) (h : Heap) (L : List Loc) : Prop := v = some (.int (1 : Int32)) ∧ Fr n0 L
theorem pd_4 : parseMethodDescriptor "([B)V" = some ⟨[(.array .byte)], none⟩ := by decide +kernel
theorem pd_5 : parseMethodDescriptor "(I)Z" = some ⟨[.int], some .boolean⟩ := by decide +kernel
theorem pd_6 : parseMethodDescriptor "()Lcom/example/pathwarden/pathwarden/util/DerReader$Element;" = some ⟨[], some (.object "com/example/pathwarden/pathwarden/util/DerReader$Element")⟩ := by decide +kernel
set_option maxRecDepth 65536 in
set_option maxHeartbeats 40000000 in
theorem rm0 (l : Launch) (Z : State) (a0 : Array Value) (hw : ∀ d ∈ tables_1, d.before a0 Z = true) (x0 : Int32) (x1 : Int32) (x2 : Int32) (h0 : Heap) (n0 : Nat) (Z0 : n0 ≤ h0.size) :
    own_CW l Z x code maxLocals ret room_1 #[(.int x0), (.int x1), (.int x2)] h0 (Q0 Z x0 x1 x2 h0 n0) := by
  refine own_metW (plainFor_of_name pn_2) ?_
  intro p e s m below meth c s₁ hx hby hml hret hlk hown hnm hZ X0 e0 hS hk
  refine own_cast (ef_0 m x0 x1 x2) ?_
  have N0 := Fr.nil n0
  show own_Out p e below _ s₁ (mkF m 0 #[.val (.int x0), .val (.int x1), .val (.int x2), .unset, .unset, .unset, .unset, .unset, .unset, .unset, .unset, .unset] []) _ _ _
  refine own_to (fun t k => XS.iloadN X0.here hx rfl (hb hby at_0) rfl k) ?_
  show own_Out p e below _ s₁ (mkF m 1 #[.val (.int x0), .val (.int x1), .val (.int x2), .unset, .unset, .unset, .unset, .unset, .unset, .unset, .unset, .unset] [(.int x0)]) _ _ _
  refine own_to (fun t k => XS.iconst X0.here hx rfl (hb hby at_1) k) ?_
  show own_Out p e below _ s₁ (mkF m 2 #[.val (.int x0), .val (.int x1), .val (.int x2), .unset, .unset, .unset, .unset, .unset, .unset, .unset, .unset, .unset] [(.int (1 : Int32)), (.int x0)]) _ _ _
  refine own_to (fun t k => XS.iand X0.here hx rfl (hb hby at_2) rfl k) ?_
  show own_Out p e below _ s₁ (mkF m 3 #[.val (.int x0), .val (.int x1), .val (.int x2), .unset, .unset, .unset, .unset, .unset, .unset, .unset, .unset, .unset] [(.int (x0 &&& (1 : Int32)))]) _ _ _
  by_cases hc3 : (x0 &&& (1 : Int32)) = (0 : Int32)
  · refine own_to (fun t k => XS.ifYes X0.here hx rfl (pc0 := 3) (pc' := 10) rfl (hb hby at_3) rfl ((if0 _ _).trans (teq hc3).1) (by decide) (by decide) k) ?_
    show own_Out p e below _ s₁ (mkF m 10 #[.val (.int x0), .val (.int x1), .val (.int x2), .unset, .unset, .unset, .unset, .unset, .unset, .unset, .unset, .unset] []) _ _ _
    refine own_to (fun t k => XS.iconst X0.here hx rfl (hb hby at_10) k) ?_
    show own_Out p e below _ s₁ (mkF m 11 #[.val (.int x0), .val (.int x1), .val (.int x2), .unset, .unset, .unset, .unset, .unset, .unset, .unset, .unset, .unset] [(.int (0 : Int32))]) _ _ _
    refine own_to (fun t k => XS.istoreN X0.here hx rfl (hb hby at_11) rfl (l' := #[.val (.int x0), .val (.int x1), .val (.int x2), .val (.int (0 : Int32)), .unset, .unset, .unset, .unset, .unset, .unset, .unset, .unset]) rfl k) ?_
    show own_Out p e below _ s₁ (mkF m 12 #[.val (.int x0), .val (.int x1), .val (.int x2), .val (.int (0 : Int32)), .unset, .unset, .unset, .unset, .unset, .unset, .unset, .unset] []) _ _ _
    refine own_to (fun t k => XS.iloadN X0.here hx rfl (hb hby at_12) rfl k) ?_
    show own_Out p e below _ s₁ (mkF m 13 #[.val (.int x0), .val (.int x1), .val (.int x2), .val (.int (0 : Int32)), .unset, .unset, .unset, .unset, .unset, .unset, .unset, .unset] [(.int x0)]) _ _ _
    refine own_to (fun t k => XS.iconst X0.here hx rfl (hb hby at_13) k) ?_
    show own_Out p e below _ s₁ (mkF m 14 #[.val (.int x0), .val (.int x1), .val (.int x2), .val (.int (0 : Int32)), .unset, .unset, .unset, .unset, .unset, .unset, .unset, .unset] [(.int (2 : Int32)), (.int x0)]) _ _ _
    refine own_to (fun t k => XS.iand X0.here hx rfl (hb hby at_14) rfl k) ?_
    show own_Out p e below _ s₁ (mkF m 15 #[.val (.int x0), .val (.int x1), .val (.int x2), .val (.int (0 : Int32)), .unset, .unset, .unset, .unset, .unset, .unset, .unset, .unset] [(.int (x0 &&& (2 : Int32)))]) _ _ _
    by_cases hc15 : (x0 &&& (2 : Int32)) = (0 : Int32)
    · refine own_to (fun t k => XS.ifYes X0.here hx rfl (pc0 := 15) (pc' := 22) rfl (hb hby at_15) rfl ((if0 _ _).trans (teq hc15).1) (by decide) (by decide) k) ?_
      show own_Out p e below _ s₁ (mkF m 22 #[.val (.int x0), .val (.int x1), .val (.int x2), .val (.int (0 : Int32)), .unset, .unset, .unset, .unset, .unset, .unset, .unset, .unset] []) _ _ _
      refine own_to (fun t k => XS.iconst X0.here hx rfl (hb hby at_22) k) ?_
      show own_Out p e below _ s₁ (mkF m 23 #[.val (.int x0), .val (.int x1), .val (.int x2), .val (.int (0 : Int32)), .unset, .unset, .unset, .unset, .unset, .unset, .unset, .unset] [(.int (0 : Int32))]) _ _ _
      refine own_to (fun t k => XS.istore X0.here hx rfl (hb hby at_23) rfl (l' := #[.val (.int x0), .val (.int x1), .val (.int x2), .val (.int (0 : Int32)), .val (.int (0 : Int32)), .unset, .unset, .unset, .unset, .unset, .unset, .unset]) rfl k) ?_
      show own_Out p e below _ s₁ (mkF m 25 #[.val (.int x0), .val (.int x1), .val (.int x2), .val (.int (0 : Int32)), .val (.int (0 : Int32)), .unset, .unset, .unset, .unset, .unset, .unset, .unset] []) _ _ _
      refine own_to (fun t k => XS.iloadN X0.here hx rfl (hb hby at_25) rfl k) ?_
      show own_Out p e below _ s₁ (mkF m 26 #[.val (.int x0), .val (.int x1), .val (.int x2), .val (.int (0 : Int32)), .val (.int (0 : Int32)), .unset, .unset, .unset, .unset, .unset, .unset, .unset] [(.int x0)]) _ _ _
      refine own_to (fun t k => XS.iconst X0.here hx rfl (hb hby at_26) k) ?_
      show own_Out p e below _ s₁ (mkF m 27 #[.val (.int x0), .val (.int x1), .val (.int x2), .val (.int (0 : Int32)), .val (.int (0 : Int32)), .unset, .unset, .unset, .unset, .unset, .unset, .unset] [(.int (4 : Int32)), (.int x0)]) _ _ _
      refine own_to (fun t k => XS.iand X0.here hx rfl (hb hby at_27) rfl k) ?_
      show own_Out p e below _ s₁ (mkF m 28 #[.val (.int x0), .val (.int x1), .val (.int x2), .val (.int (0 : Int32)), .val (.int (0 : Int32)), .unset, .unset, .unset, .unset, .unset, .unset, .unset] [(.int (x0 &&& (4 : Int32)))]) _ _ _
      by_cases hc28 : (x0 &&& (4 : Int32)) = (0 : Int32)
      · refine own_to (fun t k => XS.ifYes X0.here hx rfl (pc0 := 28) (pc' := 35) rfl (hb hby at_28) rfl ((if0 _ _).trans (teq hc28).1) (by decide) (by decide) k) ?_
        show own_Out p e below _ s₁ (mkF m 35 #[.val (.int x0), .val (.int x1), .val (.int x2), .val (.int (0 : Int32)), .val (.int (0 : Int32)), .unset, .unset, .unset, .unset, .unset, .unset, .unset] []) _ _ _
        refine own_to (fun t k => XS.iconst X0.here hx rfl (hb hby at_35) k) ?_
        show own_Out p e below _ s₁ (mkF m 36 #[.val (.int x0), .val (.int x1), .val (.int x2), .val (.int (0 : Int32)), .val (.int (0 : Int32)), .unset, .unset, .unset, .unset, .unset, .unset, .unset] [(.int (0 : Int32))]) _ _ _
        refine own_to (fun t k => XS.istore X0.here hx rfl (hb hby at_36) rfl (l' := #[.val (.int x0), .val (.int x1), .val (.int x2), .val (.int (0 : Int32)), .val (.int (0 : Int32)), .val (.int (0 : Int32)), .unset, .unset, .unset, .unset, .unset, .unset]) rfl k) ?_
        show own_Out p e below _ s₁ (mkF m 38 #[.val (.int x0), .val (.int x1), .val (.int x2), .val (.int (0 : Int32)), .val (.int (0 : Int32)), .val (.int (0 : Int32)), .unset, .unset, .unset, .unset, .unset, .unset] []) _ _ _
        refine own_to (fun t k => XS.iloadN X0.here hx rfl (hb hby at_38) rfl k) ?_
        show own_Out p e below _ s₁ (mkF m 39 #[.val (.int x0), .val (.int x1), .val (.int x2), .val (.int (0 : Int32)), .val (.int (0 : Int32)), .val (.int (0 : Int32)), .unset, .unset, .unset, .unset, .unset, .unset] [(.int (0 : Int32))]) _ _ _
        have hc39 : (0 : Int32) = (0 : Int32) := by decide
        refine own_to (fun t k => XS.ifYes X0.here hx rfl (pc0 := 39) (pc' := 50) rfl (hb hby at_39) rfl ((if0 _ _).trans (teq hc39).1) (by decide) (by decide) k) ?_
        show own_Out p e below _ s₁ (mkF m 50 #[.val (.int x0), .val (.int x1), .val (.int x2), .val (.int (0 : Int32)), .val (.int (0 : Int32)), .val (.int (0 : Int32)), .unset, .unset, .unset, .unset, .unset, .unset] []) _ _ _
        refine own_to (fun t k => XS.iloadN X0.here hx rfl (hb hby at_50) rfl k) ?_
        show own_Out p e below _ s₁ (mkF m 51 #[.val (.int x0), .val (.int x1), .val (.int x2), .val (.int (0 : Int32)), .val (.int (0 : Int32)), .val (.int (0 : Int32)), .unset, .unset, .unset, .unset, .unset, .unset] [(.int x2)]) _ _ _
        refine own_to (fun t k => XS.istore X0.here hx rfl (hb hby at_51) rfl (l' := #[.val (.int x0), .val (.int x1), .val (.int x2), .val (.int (0 : Int32)), .val (.int (0 : Int32)), .val (.int (0 : Int32)), .val (.int x2), .unset, .unset, .unset, .unset, .unset]) rfl k) ?_
        show own_Out p e below _ s₁ (mkF m 53 #[.val (.int x0), .val (.int x1), .val (.int x2), .val (.int (0 : Int32)), .val (.int (0 : Int32)), .val (.int (0 : Int32)), .val (.int x2), .unset, .unset, .unset, .unset, .unset] []) _ _ _
        refine own_to (fun t k => XS.iload X0.here hx rfl (hb hby at_53) rfl k) ?_
        show own_Out p e below _ s₁ (mkF m 55 #[.val (.int x0), .val (.int x1), .val (.int x2), .val (.int (0 : Int32)), .val (.int (0 : Int32)), .val (.int (0 : Int32)), .val (.int x2), .unset, .unset, .unset, .unset, .unset] [(.int (0 : Int32))]) _ _ _
        have hc55 : (0 : Int32) = (0 : Int32) := by decide
        refine own_to (fun t k => XS.ifYes X0.here hx rfl (pc0 := 55) (pc' := 100) rfl (hb hby at_55) rfl ((if0 _ _).trans (teq hc55).1) (by decide) (by decide) k) ?_
        show own_Out p e below _ s₁ (mkF m 100 #[.val (.int x0), .val (.int x1), .val (.int x2), .val (.int (0 : Int32)), .val (.int (0 : Int32)), .val (.int (0 : Int32)), .val (.int x2), .unset, .unset, .unset, .unset, .unset] []) _ _ _
        refine own_to (fun t k => XS.iload X0.here hx rfl (hb hby at_100) rfl k) ?_
        show own_Out p e below _ s₁ (mkF m 102 #[.val (.int x0), .val (.int x1), .val (.int x2), .val (.int (0 : Int32)), .val (.int (0 : Int32)), .val (.int (0 : Int32)), .val (.int x2), .unset, .unset, .unset, .unset, .unset] [(.int (0 : Int32))]) _ _ _
        have hc102 : (0 : Int32) = (0 : Int32) := by decide
        refine own_to (fun t k => XS.ifYes X0.here hx rfl (pc0 := 102) (pc' := 118) rfl (hb hby at_102) rfl ((if0 _ _).trans (teq hc102).1) (by decide) (by decide) k) ?_
        show own_Out p e below _ s₁ (mkF m 118 #[.val (.int x0), .val (.int x1), .val (.int x2), .val (.int (0 : Int32)), .val (.int (0 : Int32)), .val (.int (0 : Int32)), .val (.int x2), .unset, .unset, .unset, .unset, .unset] []) _ _ _
        refine own_to (fun t k => XS.iconst X0.here hx rfl (hb hby at_118) k) ?_
        show own_Out p e below _ s₁ (mkF m 119 #[.val (.int x0), .val (.int x1), .val (.int x2), .val (.int (0 : Int32)), .val (.int (0 : Int32)), .val (.int (0 : Int32)), .val (.int x2), .unset, .unset, .unset, .unset, .unset] [(.int (0 : Int32))]) _ _ _
        refine own_newA X0 hx hZ (hw _ (List.mem_of_getElem? (i := 0) rfl)) rfl e0 rfl (hb hby at_119) rfl (by decide) (cap := 0) (by decide) (by decide) (by decide) (by decide) fun T1 hh1 ob1 gb1 X1 e1 E1 A1 => ?_
        have g_ob1 : n0 ≤ ob1 := Nat.le_trans Z0 (Nat.le_of_eq gb1.symm)
        have Z0 := Nat.le_trans Z0 E1.1
        have hk := Nat.le_trans hk E1.1
        have A_ob1 : own_A Z hh1 ob1 .byte 0 (fun _ => 0) := A1
        show own_Out p e below _ T1 (mkF m 121 #[.val (.int x0), .val (.int x1), .val (.int x2), .val (.int (0 : Int32)), .val (.int (0 : Int32)), .val (.int (0 : Int32)), .val (.int x2), .unset, .unset, .unset, .unset, .unset] [(.ref ob1)]) _ _ _
        refine own_to (fun t k => XS.astore X1.here hx rfl (hb hby at_121) rfl rfl (l' := #[.val (.int x0), .val (.int x1), .val (.int x2), .val (.int (0 : Int32)), .val (.int (0 : Int32)), .val (.int (0 : Int32)), .val (.int x2), .val (.ref ob1), .unset, .unset, .unset, .unset]) rfl k) ?_
        show own_Out p e below _ T1 (mkF m 123 #[.val (.int x0), .val (.int x1), .val (.int x2), .val (.int (0 : Int32)), .val (.int (0 : Int32)), .val (.int (0 : Int32)), .val (.int x2), .val (.ref ob1), .unset, .unset, .unset, .unset] []) _ _ _
        refine own_new X1 hx hZ hown (hw _ (List.mem_of_getElem? (i := 1) rfl)) (hw _ (List.mem_of_getElem? (i := 2) rfl)) (hw _ (List.mem_of_getElem? (i := 3) rfl)) e1 rfl (hb hby at_123) (by decide) (by decide) fun T2 hh2 ob2 gb2 X2 e2 E2 A2 D2 => ?_
        have ne_ob1_ob2 : ob1 ≠ ob2 := Nat.ne_of_lt (Nat.lt_of_lt_of_le A_ob1.lt (Nat.le_of_eq gb2.symm))
        have ne_ob2_ob1 := Ne.symm ne_ob1_ob2
        have g_ob2 : n0 ≤ ob2 := Nat.le_trans Z0 (Nat.le_of_eq gb2.symm)
        have A_ob1 := A_ob1.ext E2
        have Z0 := Nat.le_trans Z0 E2.1
        have hk := Nat.le_trans hk E2.1
        have E_ob2 := A2
        have F_ob2_bytes : Fld Z hh2 ob2 "com/example/pathwarden/pathwarden/util/DerReader" "bytes" "[B" .null := D2 (Or.inr (hw _ (List.mem_of_getElem? (i := 14) rfl))) (ty := (.array .byte)) (by decide)
        have F_ob2_position : Fld Z hh2 ob2 "com/example/pathwarden/pathwarden/util/DerReader" "position" "I" (.int (0 : Int32)) := D2 (Or.inl (hw _ (List.mem_of_getElem? (i := 16) rfl))) (ty := .int) (by decide)
        have F_ob2_end : Fld Z hh2 ob2 "com/example/pathwarden/pathwarden/util/DerReader" "end" "I" (.int (0 : Int32)) := D2 (Or.inr (hw _ (List.mem_of_getElem? (i := 18) rfl))) (ty := .int) (by decide)
        show own_Out p e below _ T2 (mkF m 126 #[.val (.int x0), .val (.int x1), .val (.int x2), .val (.int (0 : Int32)), .val (.int (0 : Int32)), .val (.int (0 : Int32)), .val (.int x2), .val (.ref ob1), .unset, .unset, .unset, .unset] [(.ref ob2)]) _ _ _
        refine own_to (fun t k => XS.dup X2.here hx rfl (hb hby at_126) rfl rfl k) ?_
        show own_Out p e below _ T2 (mkF m 127 #[.val (.int x0), .val (.int x1), .val (.int x2), .val (.int (0 : Int32)), .val (.int (0 : Int32)), .val (.int (0 : Int32)), .val (.int x2), .val (.ref ob1), .unset, .unset, .unset, .unset] [(.ref ob2), (.ref ob2)]) _ _ _
        refine own_to (fun t k => XS.aload X2.here hx rfl (hb hby at_127) rfl rfl k) ?_
        show own_Out p e below _ T2 (mkF m 129 #[.val (.int x0), .val (.int x1), .val (.int x2), .val (.int (0 : Int32)), .val (.int (0 : Int32)), .val (.int (0 : Int32)), .val (.int x2), .val (.ref ob1), .unset, .unset, .unset, .unset] [(.ref ob1), (.ref ob2), (.ref ob2)]) _ _ _
        refine own_callC X2 hx hZ hown (a := ob2) (argsL := [(.ref ob1)]) (rest := [(.ref ob2)]) rfl (hw _ (List.mem_of_getElem? (i := 4) rfl)) (hw _ (List.mem_of_getElem? (i := 5) rfl)) (hw _ (List.mem_of_getElem? (i := 3) rfl)) (hw _ (List.mem_of_getElem? (i := 6) rfl)) (by decide) (rm1 l Z a0 hw ob2 ob1 0 (fun _ => 0) hh2 n0 Z0 E_ob2 F_ob2_bytes F_ob2_position F_ob2_end g_ob2 A_ob1 ne_ob1_ob2) (by decide) (by decide) e2 rfl (by rw [hml]; rfl) (lenOf pd_4 rfl) rfl (W := 1) (by show 2 * 0 + _ ≤ _; exact Nat.le_of_eq rfl) (hb hby at_129) (by decide) (by decide) fun v3 T3 hh3 L3 X3 e3 hQ3 => ?_
        obtain ⟨rfl, NL3, KK3, P3_0, P3_1, P3_2⟩ := hQ3
        have A_ob1 := A_ob1.keep KK3 (by simp [ne_ob1_ob2])
        have E_ob2 := E_ob2.keep KK3
        have F_ob2_bytes := P3_0
        have F_ob2_position := P3_1
        have F_ob2_end := P3_2
        have Z0 := Nat.le_trans Z0 KK3.1
        have hk := Nat.le_trans hk KK3.1
        have N3 := Fr.app N0 NL3
        show own_Out p e below _ T3 (mkF m 132 #[.val (.int x0), .val (.int x1), .val (.int x2), .val (.int (0 : Int32)), .val (.int (0 : Int32)), .val (.int (0 : Int32)), .val (.int x2), .val (.ref ob1), .unset, .unset, .unset, .unset] [(.ref ob2)]) _ _ _
        rw [show (Nat.toInt32 0) = (0 : Int32) from by decide] at F_ob2_end
        refine own_to (fun t k => XS.astore X3.here hx rfl (hb hby at_132) rfl rfl (l' := #[.val (.int x0), .val (.int x1), .val (.int x2), .val (.int (0 : Int32)), .val (.int (0 : Int32)), .val (.int (0 : Int32)), .val (.int x2), .val (.ref ob1), .val (.ref ob2), .unset, .unset, .unset]) rfl k) ?_
        show own_Out p e below _ T3 (mkF m 134 #[.val (.int x0), .val (.int x1), .val (.int x2), .val (.int (0 : Int32)), .val (.int (0 : Int32)), .val (.int (0 : Int32)), .val (.int x2), .val (.ref ob1), .val (.ref ob2), .unset, .unset, .unset] []) _ _ _
        refine own_to (fun t k => XS.iload X3.here hx rfl (hb hby at_134) rfl k) ?_
        show own_Out p e below _ T3 (mkF m 136 #[.val (.int x0), .val (.int x1), .val (.int x2), .val (.int (0 : Int32)), .val (.int (0 : Int32)), .val (.int (0 : Int32)), .val (.int x2), .val (.ref ob1), .val (.ref ob2), .unset, .unset, .unset] [(.int (0 : Int32))]) _ _ _
        have hc136 : (0 : Int32) = (0 : Int32) := by decide
        refine own_to (fun t k => XS.ifYes X3.here hx rfl (pc0 := 136) (pc' := 145) rfl (hb hby at_136) rfl ((if0 _ _).trans (teq hc136).1) (by decide) (by decide) k) ?_
        show own_Out p e below _ T3 (mkF m 145 #[.val (.int x0), .val (.int x1), .val (.int x2), .val (.int (0 : Int32)), .val (.int (0 : Int32)), .val (.int (0 : Int32)), .val (.int x2), .val (.ref ob1), .val (.ref ob2), .unset, .unset, .unset] []) _ _ _
        refine own_to (fun t k => XS.iload X3.here hx rfl (hb hby at_145) rfl k) ?_
        show own_Out p e below _ T3 (mkF m 147 #[.val (.int x0), .val (.int x1), .val (.int x2), .val (.int (0 : Int32)), .val (.int (0 : Int32)), .val (.int (0 : Int32)), .val (.int x2), .val (.ref ob1), .val (.ref ob2), .unset, .unset, .unset] [(.int (0 : Int32))]) _ _ _
        have hc147 : (0 : Int32) = (0 : Int32) := by decide
        refine own_to (fun t k => XS.ifYes X3.here hx rfl (pc0 := 147) (pc' := 164) rfl (hb hby at_147) rfl ((if0 _ _).trans (teq hc147).1) (by decide) (by decide) k) ?_
        show own_Out p e below _ T3 (mkF m 164 #[.val (.int x0), .val (.int x1), .val (.int x2), .val (.int (0 : Int32)), .val (.int (0 : Int32)), .val (.int (0 : Int32)), .val (.int x2), .val (.ref ob1), .val (.ref ob2), .unset, .unset, .unset] []) _ _ _
        refine own_to (fun t k => XS.iconst X3.here hx rfl (hb hby at_164) k) ?_
        show own_Out p e below _ T3 (mkF m 165 #[.val (.int x0), .val (.int x1), .val (.int x2), .val (.int (0 : Int32)), .val (.int (0 : Int32)), .val (.int (0 : Int32)), .val (.int x2), .val (.ref ob1), .val (.ref ob2), .unset, .unset, .unset] [(.int (0 : Int32))]) _ _ _
        refine own_to (fun t k => XS.istore X3.here hx rfl (hb hby at_165) rfl (l' := #[.val (.int x0), .val (.int x1), .val (.int x2), .val (.int (0 : Int32)), .val (.int (0 : Int32)), .val (.int (0 : Int32)), .val (.int x2), .val (.ref ob1), .val (.ref ob2), .val (.int (0 : Int32)), .unset, .unset]) rfl k) ?_
        show own_Out p e below _ T3 (mkF m 167 #[.val (.int x0), .val (.int x1), .val (.int x2), .val (.int (0 : Int32)), .val (.int (0 : Int32)), .val (.int (0 : Int32)), .val (.int x2), .val (.ref ob1), .val (.ref ob2), .val (.int (0 : Int32)), .unset, .unset] []) _ _ _
        refine own_to (fun t k => XS.aload X3.here hx rfl (hb hby at_167) rfl rfl k) ?_
        show own_Out p e below _ T3 (mkF m 169 #[.val (.int x0), .val (.int x1), .val (.int x2), .val (.int (0 : Int32)), .val (.int (0 : Int32)), .val (.int (0 : Int32)), .val (.int x2), .val (.ref ob1), .val (.ref ob2), .val (.int (0 : Int32)), .unset, .unset] [(.ref ob2)]) _ _ _
        refine own_to (fun t k => XS.iload X3.here hx rfl (hb hby at_169) rfl k) ?_
        show own_Out p e below _ T3 (mkF m 171 #[.val (.int x0), .val (.int x1), .val (.int x2), .val (.int (0 : Int32)), .val (.int (0 : Int32)), .val (.int (0 : Int32)), .val (.int x2), .val (.ref ob1), .val (.ref ob2), .val (.int (0 : Int32)), .unset, .unset] [(.int x2), (.ref ob2)]) _ _ _
        refine own_callV X3 hx hZ hown (a := ob2) (argsL := [(.int x2)]) (rest := []) (hw _ (List.mem_of_getElem? (i := 19) rfl)) (hw _ (List.mem_of_getElem? (i := 20) rfl)) (hw _ (List.mem_of_getElem? (i := 22) rfl)) (hw _ (List.mem_of_getElem? (i := 21) rfl)) (hw _ (List.mem_of_getElem? (i := 3) rfl)) (hw _ (List.mem_of_getElem? (i := 23) rfl)) (by decide) (rm4 l Z a0 hw ob2 x2 (0 : Int32) (0 : Int32) ob1 0 (fun _ => 0) hh3 n0 Z0 E_ob2 F_ob2_bytes F_ob2_position F_ob2_end A_ob1 (by decide)) (by decide) (by decide) e3 E_ob2 rfl (by rw [hml]; rfl) (lenOf pd_5 rfl) rfl (W := 0) (by show 2 * 0 + _ ≤ _; exact Nat.le_of_eq rfl) (hb hby at_171) (by decide) (by decide) fun v4 T4 hh4 L4 X4 e4 hQ4 => ?_
        obtain ⟨rfl, NL4, he4⟩ := hQ4
        replace e4 := e4.trans he4
        have N4 := Fr.app N3 NL4
        show own_Out p e below _ T4 (mkF m 174 #[.val (.int x0), .val (.int x1), .val (.int x2), .val (.int (0 : Int32)), .val (.int (0 : Int32)), .val (.int (0 : Int32)), .val (.int x2), .val (.ref ob1), .val (.ref ob2), .val (.int (0 : Int32)), .unset, .unset] [(.int (R4 ob2 x2 (0 : Int32) (0 : Int32) ob1 0 (fun _ => 0)))]) _ _ _
        refine own_to (fun t k => XS.istore X4.here hx rfl (hb hby at_174) rfl (l' := #[.val (.int x0), .val (.int x1), .val (.int x2), .val (.int (0 : Int32)), .val (.int (0 : Int32)), .val (.int (0 : Int32)), .val (.int x2), .val (.ref ob1), .val (.ref ob2), .val (.int (0 : Int32)), .val (.int (R4 ob2 x2 (0 : Int32) (0 : Int32) ob1 0 (fun _ => 0))), .unset]) rfl k) ?_
        show own_Out p e below _ T4 (mkF m 176 #[.val (.int x0), .val (.int x1), .val (.int x2), .val (.int (0 : Int32)), .val (.int (0 : Int32)), .val (.int (0 : Int32)), .val (.int x2), .val (.ref ob1), .val (.ref ob2), .val (.int (0 : Int32)), .val (.int (R4 ob2 x2 (0 : Int32) (0 : Int32) ob1 0 (fun _ => 0))), .unset] []) _ _ _
        refine own_to (fun t k => XS.aload X4.here hx rfl (hb hby at_176) rfl rfl k) ?_
        show own_Out p e below _ T4 (mkF m 178 #[.val (.int x0), .val (.int x1), .val (.int x2), .val (.int (0 : Int32)), .val (.int (0 : Int32)), .val (.int (0 : Int32)), .val (.int x2), .val (.ref ob1), .val (.ref ob2), .val (.int (0 : Int32)), .val (.int (R4 ob2 x2 (0 : Int32) (0 : Int32) ob1 0 (fun _ => 0))), .unset] [(.ref ob2)]) _ _ _
        refine own_to (fun t k => XS.iload X4.here hx rfl (hb hby at_178) rfl k) ?_
        show own_Out p e below _ T4 (mkF m 180 #[.val (.int x0), .val (.int x1), .val (.int x2), .val (.int (0 : Int32)), .val (.int (0 : Int32)), .val (.int (0 : Int32)), .val (.int x2), .val (.ref ob1), .val (.ref ob2), .val (.int (0 : Int32)), .val (.int (R4 ob2 x2 (0 : Int32) (0 : Int32) ob1 0 (fun _ => 0))), .unset] [(.int x2), (.ref ob2)]) _ _ _
        refine own_callV X4 hx hZ hown (a := ob2) (argsL := [(.int x2)]) (rest := []) (hw _ (List.mem_of_getElem? (i := 19) rfl)) (hw _ (List.mem_of_getElem? (i := 20) rfl)) (hw _ (List.mem_of_getElem? (i := 22) rfl)) (hw _ (List.mem_of_getElem? (i := 21) rfl)) (hw _ (List.mem_of_getElem? (i := 3) rfl)) (hw _ (List.mem_of_getElem? (i := 23) rfl)) (by decide) (rm4 l Z a0 hw ob2 x2 (0 : Int32) (0 : Int32) ob1 0 (fun _ => 0) hh3 n0 Z0 E_ob2 F_ob2_bytes F_ob2_position F_ob2_end A_ob1 (by decide)) (by decide) (by decide) e4 E_ob2 rfl (by rw [hml]; rfl) (lenOf pd_5 rfl) rfl (W := 0) (by show 2 * 0 + _ ≤ _; exact Nat.le_of_eq rfl) (hb hby at_180) (by decide) (by decide) fun v5 T5 hh5 L5 X5 e5 hQ5 => ?_
        obtain ⟨rfl, NL5, he5⟩ := hQ5
        replace e5 := e5.trans he5
        have N5 := Fr.app N4 NL5
        show own_Out p e below _ T5 (mkF m 183 #[.val (.int x0), .val (.int x1), .val (.int x2), .val (.int (0 : Int32)), .val (.int (0 : Int32)), .val (.int (0 : Int32)), .val (.int x2), .val (.ref ob1), .val (.ref ob2), .val (.int (0 : Int32)), .val (.int (R4 ob2 x2 (0 : Int32) (0 : Int32) ob1 0 (fun _ => 0))), .unset] [(.int (R4 ob2 x2 (0 : Int32) (0 : Int32) ob1 0 (fun _ => 0)))]) _ _ _
        refine own_to (fun t k => XS.istore X5.here hx rfl (hb hby at_183) rfl (l' := #[.val (.int x0), .val (.int x1), .val (.int x2), .val (.int (0 : Int32)), .val (.int (0 : Int32)), .val (.int (0 : Int32)), .val (.int x2), .val (.ref ob1), .val (.ref ob2), .val (.int (0 : Int32)), .val (.int (R4 ob2 x2 (0 : Int32) (0 : Int32) ob1 0 (fun _ => 0))), .val (.int (R4 ob2 x2 (0 : Int32) (0 : Int32) ob1 0 (fun _ => 0)))]) rfl k) ?_
        show own_Out p e below _ T5 (mkF m 185 #[.val (.int x0), .val (.int x1), .val (.int x2), .val (.int (0 : Int32)), .val (.int (0 : Int32)), .val (.int (0 : Int32)), .val (.int x2), .val (.ref ob1), .val (.ref ob2), .val (.int (0 : Int32)), .val (.int (R4 ob2 x2 (0 : Int32) (0 : Int32) ob1 0 (fun _ => 0))), .val (.int (R4 ob2 x2 (0 : Int32) (0 : Int32) ob1 0 (fun _ => 0)))] []) _ _ _
        refine own_to (fun t k => XS.iload X5.here hx rfl (hb hby at_185) rfl k) ?_
        show own_Out p e below _ T5 (mkF m 187 #[.val (.int x0), .val (.int x1), .val (.int x2), .val (.int (0 : Int32)), .val (.int (0 : Int32)), .val (.int (0 : Int32)), .val (.int x2), .val (.ref ob1), .val (.ref ob2), .val (.int (0 : Int32)), .val (.int (R4 ob2 x2 (0 : Int32) (0 : Int32) ob1 0 (fun _ => 0))), .val (.int (R4 ob2 x2 (0 : Int32) (0 : Int32) ob1 0 (fun _ => 0)))] [(.int (R4 ob2 x2 (0 : Int32) (0 : Int32) ob1 0 (fun _ => 0)))]) _ _ _
        refine own_to (fun t k => XS.iload X5.here hx rfl (hb hby at_187) rfl k) ?_
        show own_Out p e below _ T5 (mkF m 189 #[.val (.int x0), .val (.int x1), .val (.int x2), .val (.int (0 : Int32)), .val (.int (0 : Int32)), .val (.int (0 : Int32)), .val (.int x2), .val (.ref ob1), .val (.ref ob2), .val (.int (0 : Int32)), .val (.int (R4 ob2 x2 (0 : Int32) (0 : Int32) ob1 0 (fun _ => 0))), .val (.int (R4 ob2 x2 (0 : Int32) (0 : Int32) ob1 0 (fun _ => 0)))] [(.int (0 : Int32)), (.int (R4 ob2 x2 (0 : Int32) (0 : Int32) ob1 0 (fun _ => 0)))]) _ _ _
        have hc189 : (R4 ob2 x2 (0 : Int32) (0 : Int32) ob1 0 (fun _ => 0)) = (0 : Int32) := (own_ni _ _ _ _ _ _ _).1 (by decide)
        refine own_to (fun t k => XS.icmpNo X5.here hx rfl (hb hby at_189) rfl (teq hc189).2 k) ?_
        show own_Out p e below _ T5 (mkF m 192 #[.val (.int x0), .val (.int x1), .val (.int x2), .val (.int (0 : Int32)), .val (.int (0 : Int32)), .val (.int (0 : Int32)), .val (.int x2), .val (.ref ob1), .val (.ref ob2), .val (.int (0 : Int32)), .val (.int (R4 ob2 x2 (0 : Int32) (0 : Int32) ob1 0 (fun _ => 0))), .val (.int (R4 ob2 x2 (0 : Int32) (0 : Int32) ob1 0 (fun _ => 0)))] []) _ _ _
        refine own_to (fun t k => XS.iload X5.here hx rfl (hb hby at_192) rfl k) ?_
        show own_Out p e below _ T5 (mkF m 194 #[.val (.int x0), .val (.int x1), .val (.int x2), .val (.int (0 : Int32)), .val (.int (0 : Int32)), .val (.int (0 : Int32)), .val (.int x2), .val (.ref ob1), .val (.ref ob2), .val (.int (0 : Int32)), .val (.int (R4 ob2 x2 (0 : Int32) (0 : Int32) ob1 0 (fun _ => 0))), .val (.int (R4 ob2 x2 (0 : Int32) (0 : Int32) ob1 0 (fun _ => 0)))] [(.int (R4 ob2 x2 (0 : Int32) (0 : Int32) ob1 0 (fun _ => 0)))]) _ _ _
        refine own_to (fun t k => XS.iload X5.here hx rfl (hb hby at_194) rfl k) ?_
        show own_Out p e below _ T5 (mkF m 196 #[.val (.int x0), .val (.int x1), .val (.int x2), .val (.int (0 : Int32)), .val (.int (0 : Int32)), .val (.int (0 : Int32)), .val (.int x2), .val (.ref ob1), .val (.ref ob2), .val (.int (0 : Int32)), .val (.int (R4 ob2 x2 (0 : Int32) (0 : Int32) ob1 0 (fun _ => 0))), .val (.int (R4 ob2 x2 (0 : Int32) (0 : Int32) ob1 0 (fun _ => 0)))] [(.int (0 : Int32)), (.int (R4 ob2 x2 (0 : Int32) (0 : Int32) ob1 0 (fun _ => 0)))]) _ _ _
        have hc196 : (R4 ob2 x2 (0 : Int32) (0 : Int32) ob1 0 (fun _ => 0)) = (0 : Int32) := (own_ni _ _ _ _ _ _ _).1 (by decide)
        refine own_to (fun t k => XS.icmpNo X5.here hx rfl (hb hby at_196) rfl (teq hc196).2 k) ?_
        show own_Out p e below _ T5 (mkF m 199 #[.val (.int x0), .val (.int x1), .val (.int x2), .val (.int (0 : Int32)), .val (.int (0 : Int32)), .val (.int (0 : Int32)), .val (.int x2), .val (.ref ob1), .val (.ref ob2), .val (.int (0 : Int32)), .val (.int (R4 ob2 x2 (0 : Int32) (0 : Int32) ob1 0 (fun _ => 0))), .val (.int (R4 ob2 x2 (0 : Int32) (0 : Int32) ob1 0 (fun _ => 0)))] []) _ _ _
        refine own_to (fun t k => XS.aload X5.here hx rfl (hb hby at_199) rfl rfl k) ?_
        show own_Out p e below _ T5 (mkF m 201 #[.val (.int x0), .val (.int x1), .val (.int x2), .val (.int (0 : Int32)), .val (.int (0 : Int32)), .val (.int (0 : Int32)), .val (.int x2), .val (.ref ob1), .val (.ref ob2), .val (.int (0 : Int32)), .val (.int (R4 ob2 x2 (0 : Int32) (0 : Int32) ob1 0 (fun _ => 0))), .val (.int (R4 ob2 x2 (0 : Int32) (0 : Int32) ob1 0 (fun _ => 0)))] [(.ref ob2)]) _ _ _
        refine own_callV X5 hx hZ hown (a := ob2) (argsL := []) (rest := []) (hw _ (List.mem_of_getElem? (i := 29) rfl)) (hw _ (List.mem_of_getElem? (i := 25) rfl)) (hw _ (List.mem_of_getElem? (i := 27) rfl)) (hw _ (List.mem_of_getElem? (i := 26) rfl)) (hw _ (List.mem_of_getElem? (i := 3) rfl)) (hw _ (List.mem_of_getElem? (i := 28) rfl)) (by decide) (rm5 l Z a0 hw ob2 (0 : Int32) (0 : Int32) hh3 n0 Z0 F_ob2_position F_ob2_end) (by decide) (by decide) e5 E_ob2 rfl (by rw [hml]; rfl) (lenOf pd_1 rfl) rfl (W := 0) (by show 2 * 0 + _ ≤ _; exact Nat.le_of_eq rfl) (hb hby at_201) (by decide) (by decide) fun v6 T6 hh6 L6 X6 e6 hQ6 => ?_
        obtain ⟨rfl, NL6, he6⟩ := hQ6
        replace e6 := e6.trans he6
        have N6 := Fr.app N5 NL6
        show own_Out p e below _ T6 (mkF m 204 #[.val (.int x0), .val (.int x1), .val (.int x2), .val (.int (0 : Int32)), .val (.int (0 : Int32)), .val (.int (0 : Int32)), .val (.int x2), .val (.ref ob1), .val (.ref ob2), .val (.int (0 : Int32)), .val (.int (R4 ob2 x2 (0 : Int32) (0 : Int32) ob1 0 (fun _ => 0))), .val (.int (R4 ob2 x2 (0 : Int32) (0 : Int32) ob1 0 (fun _ => 0)))] [(.int (R5 ob2 (0 : Int32) (0 : Int32)))]) _ _ _
        refine own_to (fun t k => XS.iload X6.here hx rfl (hb hby at_204) rfl k) ?_
        show own_Out p e below _ T6 (mkF m 206 #[.val (.int x0), .val (.int x1), .val (.int x2), .val (.int (0 : Int32)), .val (.int (0 : Int32)), .val (.int (0 : Int32)), .val (.int x2), .val (.ref ob1), .val (.ref ob2), .val (.int (0 : Int32)), .val (.int (R4 ob2 x2 (0 : Int32) (0 : Int32) ob1 0 (fun _ => 0))), .val (.int (R4 ob2 x2 (0 : Int32) (0 : Int32) ob1 0 (fun _ => 0)))] [(.int (0 : Int32)), (.int (R5 ob2 (0 : Int32) (0 : Int32)))]) _ _ _
        have hc206 : (R5 ob2 (0 : Int32) (0 : Int32)) = (0 : Int32) := own_hn0 _ _ _ (by decide)
        refine own_to (fun t k => XS.icmpNo X6.here hx rfl (hb hby at_206) rfl (teq hc206).2 k) ?_
        show own_Out p e below _ T6 (mkF m 209 #[.val (.int x0), .val (.int x1), .val (.int x2), .val (.int (0 : Int32)), .val (.int (0 : Int32)), .val (.int (0 : Int32)), .val (.int x2), .val (.ref ob1), .val (.ref ob2), .val (.int (0 : Int32)), .val (.int (R4 ob2 x2 (0 : Int32) (0 : Int32) ob1 0 (fun _ => 0))), .val (.int (R4 ob2 x2 (0 : Int32) (0 : Int32) ob1 0 (fun _ => 0)))] []) _ _ _
        refine own_to (fun t k => XS.iconst X6.here hx rfl (hb hby at_209) k) ?_
        show own_Out p e below _ T6 (mkF m 210 #[.val (.int x0), .val (.int x1), .val (.int x2), .val (.int (0 : Int32)), .val (.int (0 : Int32)), .val (.int (0 : Int32)), .val (.int x2), .val (.ref ob1), .val (.ref ob2), .val (.int (0 : Int32)), .val (.int (R4 ob2 x2 (0 : Int32) (0 : Int32) ob1 0 (fun _ => 0))), .val (.int (R4 ob2 x2 (0 : Int32) (0 : Int32) ob1 0 (fun _ => 0)))] [(.int (1 : Int32))]) _ _ _
        refine own_to (fun t k => XS.goto X6.here hx rfl (pc0 := 210) (pc' := 214) rfl (hb hby at_210) (by decide) (by decide) k) ?_
        show own_Out p e below _ T6 (mkF m 214 #[.val (.int x0), .val (.int x1), .val (.int x2), .val (.int (0 : Int32)), .val (.int (0 : Int32)), .val (.int (0 : Int32)), .val (.int x2), .val (.ref ob1), .val (.ref ob2), .val (.int (0 : Int32)), .val (.int (R4 ob2 x2 (0 : Int32) (0 : Int32) ob1 0 (fun _ => 0))), .val (.int (R4 ob2 x2 (0 : Int32) (0 : Int32) ob1 0 (fun _ => 0)))] [(.int (1 : Int32))]) _ _ _
        refine own_retVW X6 hS hk e6 hx hlk (w := .int (1 : Int32)) hret rfl (Or.inl ⟨rfl, by simp, _, rfl⟩) (hb hby at_214) (by decide) (by decide) ?_
        rw [e6]
        exact ⟨rfl, N6⟩
      · refine own_to (fun t k => XS.ifNo X0.here hx rfl (hb hby at_28) rfl ((if0 _ _).trans (feq hc28).1) k) ?_
        show own_Out p e below _ s₁ (mkF m 31 #[.val (.int x0), .val (.int x1), .val (.int x2), .val (.int (0 : Int32)), .val (.int (0 : Int32)), .unset, .unset, .unset, .unset, .unset, .unset, .unset] []) _ _ _
        refine own_to (fun t k => XS.iconst X0.here hx rfl (hb hby at_31) k) ?_
        show own_Out p e below _ s₁ (mkF m 32 #[.val (.int x0), .val (.int x1), .val (.int x2), .val (.int (0 : Int32)), .val (.int (0 : Int32)), .unset, .unset, .unset, .unset, .unset, .unset, .unset] [(.int (1 : Int32))]) _ _ _
        refine own_to (fun t k => XS.goto X0.here hx rfl (pc0 := 32) (pc' := 36) rfl (hb hby at_32) (by decide) (by decide) k) ?_
        show own_Out p e below _ s₁ (mkF m 36 #[.val (.int x0), .val (.int x1), .val (.int x2), .val (.int (0 : Int32)), .val (.int (0 : Int32)), .unset, .unset, .unset, .unset, .unset, .unset, .unset] [(.int (1 : Int32))]) _ _ _
        refine own_to (fun t k => XS.istore X0.here hx rfl (hb hby at_36) rfl (l' := #[.val (.int x0), .val (.int x1), .val (.int x2), .val (.int (0 : Int32)), .val (.int (0 : Int32)), .val (.int (1 : Int32)), .unset, .unset, .unset, .unset, .unset, .unset]) rfl k) ?_
        show own_Out p e below _ s₁ (mkF m 38 #[.val (.int x0), .val (.int x1), .val (.int x2), .val (.int (0 : Int32)), .val (.int (0 : Int32)), .val (.int (1 : Int32)), .unset, .unset, .unset, .unset, .unset, .unset] []) _ _ _
        refine own_to (fun t k => XS.iloadN X0.here hx rfl (hb hby at_38) rfl k) ?_
        show own_Out p e below _ s₁ (mkF m 39 #[.val (.int x0), .val (.int x1), .val (.int x2), .val (.int (0 : Int32)), .val (.int (0 : Int32)), .val (.int (1 : Int32)), .unset, .unset, .unset, .unset, .unset, .unset] [(.int (0 : Int32))]) _ _ _
        have hc39 : (0 : Int32) = (0 : Int32) := by decide
        refine own_to (fun t k => XS.ifYes X0.here hx rfl (pc0 := 39) (pc' := 50) rfl (hb hby at_39) rfl ((if0 _ _).trans (teq hc39).1) (by decide) (by decide) k) ?_
        show own_Out p e below _ s₁ (mkF m 50 #[.val (.int x0), .val (.int x1), .val (.int x2), .val (.int (0 : Int32)), .val (.int (0 : Int32)), .val (.int (1 : Int32)), .unset, .unset, .unset, .unset, .unset, .unset] []) _ _ _
        refine own_to (fun t k => XS.iloadN X0.here hx rfl (hb hby at_50) rfl k) ?_
        show own_Out p e below _ s₁ (mkF m 51 #[.val (.int x0), .val (.int x1), .val (.int x2), .val (.int (0 : Int32)), .val (.int (0 : Int32)), .val (.int (1 : Int32)), .unset, .unset, .unset, .unset, .unset, .unset] [(.int x2)]) _ _ _
        refine own_to (fun t k => XS.istore X0.here hx rfl (hb hby at_51) rfl (l' := #[.val (.int x0), .val (.int x1), .val (.int x2), .val (.int (0 : Int32)), .val (.int (0 : Int32)), .val (.int (1 : Int32)), .val (.int x2), .unset, .unset, .unset, .unset, .unset]) rfl k) ?_
        show own_Out p e below _ s₁ (mkF m 53 #[.val (.int x0), .val (.int x1), .val (.int x2), .val (.int (0 : Int32)), .val (.int (0 : Int32)), .val (.int (1 : Int32)), .val (.int x2), .unset, .unset, .unset, .unset, .unset] []) _ _ _
        refine own_to (fun t k => XS.iload X0.here hx rfl (hb hby at_53) rfl k) ?_
        show own_Out p e below _ s₁ (mkF m 55 #[.val (.int x0), .val (.int x1), .val (.int x2), .val (.int (0 : Int32)), .val (.int (0 : Int32)), .val (.int (1 : Int32)), .val (.int x2), .unset, .unset, .unset, .unset, .unset] [(.int (0 : Int32))]) _ _ _
        have hc55 : (0 : Int32) = (0 : Int32) := by decide
        refine own_to (fun t k => XS.ifYes X0.here hx rfl (pc0 := 55) (pc' := 100) rfl (hb hby at_55) rfl ((if0 _ _).trans (teq hc55).1) (by decide) (by decide) k) ?_
        show own_Out p e below _ s₁ (mkF m 100 #[.val (.int x0), .val (.int x1), .val (.int x2), .val (.int (0 : Int32)), .val (.int (0 : Int32)), .val (.int (1 : Int32)), .val (.int x2), .unset, .unset, .unset, .unset, .unset] []) _ _ _
        refine own_to (fun t k => XS.iload X0.here hx rfl (hb hby at_100) rfl k) ?_
        show own_Out p e below _ s₁ (mkF m 102 #[.val (.int x0), .val (.int x1), .val (.int x2), .val (.int (0 : Int32)), .val (.int (0 : Int32)), .val (.int (1 : Int32)), .val (.int x2), .unset, .unset, .unset, .unset, .unset] [(.int (1 : Int32))]) _ _ _
        have hc102 : ¬ ((1 : Int32) = (0 : Int32)) := by decide
        refine own_to (fun t k => XS.ifNo X0.here hx rfl (hb hby at_102) rfl ((if0 _ _).trans (feq hc102).1) k) ?_
        show own_Out p e below _ s₁ (mkF m 105 #[.val (.int x0), .val (.int x1), .val (.int x2), .val (.int (0 : Int32)), .val (.int (0 : Int32)), .val (.int (1 : Int32)), .val (.int x2), .unset, .unset, .unset, .unset, .unset] []) _ _ _
        refine own_to (fun t k => XS.iconst X0.here hx rfl (hb hby at_105) k) ?_
        show own_Out p e below _ s₁ (mkF m 106 #[.val (.int x0), .val (.int x1), .val (.int x2), .val (.int (0 : Int32)), .val (.int (0 : Int32)), .val (.int (1 : Int32)), .val (.int x2), .unset, .unset, .unset, .unset, .unset] [(.int (1 : Int32))]) _ _ _
        refine own_newA X0 hx hZ (hw _ (List.mem_of_getElem? (i := 0) rfl)) rfl e0 rfl (hb hby at_106) rfl (by decide) (cap := 1) (by decide) (by decide) (by decide) (by decide) fun T7 hh7 ob7 gb7 X7 e7 E7 A7 => ?_
        have g_ob7 : n0 ≤ ob7 := Nat.le_trans Z0 (Nat.le_of_eq gb7.symm)
        have Z0 := Nat.le_trans Z0 E7.1
        have hk := Nat.le_trans hk E7.1
        have A_ob7 : own_A Z hh7 ob7 .byte 1 (fun _ => 0) := A7
        show own_Out p e below _ T7 (mkF m 108 #[.val (.int x0), .val (.int x1), .val (.int x2), .val (.int (0 : Int32)), .val (.int (0 : Int32)), .val (.int (1 : Int32)), .val (.int x2), .unset, .unset, .unset, .unset, .unset] [(.ref ob7)]) _ _ _
        refine own_to (fun t k => XS.dup X7.here hx rfl (hb hby at_108) rfl rfl k) ?_
        show own_Out p e below _ T7 (mkF m 109 #[.val (.int x0), .val (.int x1), .val (.int x2), .val (.int (0 : Int32)), .val (.int (0 : Int32)), .val (.int (1 : Int32)), .val (.int x2), .unset, .unset, .unset, .unset, .unset] [(.ref ob7), (.ref ob7)]) _ _ _
        refine own_to (fun t k => XS.iconst X7.here hx rfl (hb hby at_109) k) ?_
        show own_Out p e below _ T7 (mkF m 110 #[.val (.int x0), .val (.int x1), .val (.int x2), .val (.int (0 : Int32)), .val (.int (0 : Int32)), .val (.int (1 : Int32)), .val (.int x2), .unset, .unset, .unset, .unset, .unset] [(.int (0 : Int32)), (.ref ob7), (.ref ob7)]) _ _ _
        refine own_to (fun t k => XS.iloadN X7.here hx rfl (hb hby at_110) rfl k) ?_
        show own_Out p e below _ T7 (mkF m 111 #[.val (.int x0), .val (.int x1), .val (.int x2), .val (.int (0 : Int32)), .val (.int (0 : Int32)), .val (.int (1 : Int32)), .val (.int x2), .unset, .unset, .unset, .unset, .unset] [(.int x1), (.int (0 : Int32)), (.ref ob7), (.ref ob7)]) _ _ _
        refine own_to (fun t k => XS.i2b X7.here hx rfl (hb hby at_111) rfl k) ?_
        show own_Out p e below _ T7 (mkF m 112 #[.val (.int x0), .val (.int x1), .val (.int x2), .val (.int (0 : Int32)), .val (.int (0 : Int32)), .val (.int (1 : Int32)), .val (.int x2), .unset, .unset, .unset, .unset, .unset] [(.int (x1.toInt8.toInt32)), (.int (0 : Int32)), (.ref ob7), (.ref ob7)]) _ _ _
        refine own_stB X7 hx hZ e7 A_ob7 (by decide) (by decide) rfl rfl (hb hby at_112) fun T8 hh8 X8 e8 W8 A8 => ?_
        have A_ob7 := A8
        have Z0 := Nat.le_trans Z0 (Nat.le_of_eq W8.size.symm)
        have hk := Nat.le_trans hk (Nat.le_of_eq W8.size.symm)
        have N8 := own_fs (sl := Int32.toNatClampNeg (0 : Int32)) N0 g_ob7
        show own_Out p e below _ T8 (mkF m 113 #[.val (.int x0), .val (.int x1), .val (.int x2), .val (.int (0 : Int32)), .val (.int (0 : Int32)), .val (.int (1 : Int32)), .val (.int x2), .unset, .unset, .unset, .unset, .unset] [(.ref ob7)]) _ _ _
        refine own_to (fun t k => XS.astore X8.here hx rfl (hb hby at_113) rfl rfl (l' := #[.val (.int x0), .val (.int x1), .val (.int x2), .val (.int (0 : Int32)), .val (.int (0 : Int32)), .val (.int (1 : Int32)), .val (.int x2), .val (.ref ob7), .unset, .unset, .unset, .unset]) rfl k) ?_
        show own_Out p e below _ T8 (mkF m 115 #[.val (.int x0), .val (.int x1), .val (.int x2), .val (.int (0 : Int32)), .val (.int (0 : Int32)), .val (.int (1 : Int32)), .val (.int x2), .val (.ref ob7), .unset, .unset, .unset, .unset] []) _ _ _
        refine own_to (fun t k => XS.goto X8.here hx rfl (pc0 := 115) (pc' := 123) rfl (hb hby at_115) (by decide) (by decide) k) ?_
        show own_Out p e below _ T8 (mkF m 123 #[.val (.int x0), .val (.int x1), .val (.int x2), .val (.int (0 : Int32)), .val (.int (0 : Int32)), .val (.int (1 : Int32)), .val (.int x2), .val (.ref ob7), .unset, .unset, .unset, .unset] []) _ _ _
        refine own_new X8 hx hZ hown (hw _ (List.mem_of_getElem? (i := 1) rfl)) (hw _ (List.mem_of_getElem? (i := 2) rfl)) (hw _ (List.mem_of_getElem? (i := 3) rfl)) e8 rfl (hb hby at_123) (by decide) (by decide) fun T9 hh9 ob9 gb9 X9 e9 E9 A9 D9 => ?_
        have ne_ob7_ob9 : ob7 ≠ ob9 := Nat.ne_of_lt (Nat.lt_of_lt_of_le A_ob7.lt (Nat.le_of_eq gb9.symm))
        have ne_ob9_ob7 := Ne.symm ne_ob7_ob9
        have g_ob9 : n0 ≤ ob9 := Nat.le_trans Z0 (Nat.le_of_eq gb9.symm)
        have A_ob7 := A_ob7.ext E9
        have Z0 := Nat.le_trans Z0 E9.1
        have hk := Nat.le_trans hk E9.1
        have E_ob9 := A9
        have F_ob9_bytes : Fld Z hh9 ob9 "com/example/pathwarden/pathwarden/util/DerReader" "bytes" "[B" .null := D9 (Or.inr (hw _ (List.mem_of_getElem? (i := 14) rfl))) (ty := (.array .byte)) (by decide)
        have F_ob9_position : Fld Z hh9 ob9 "com/example/pathwarden/pathwarden/util/DerReader" "position" "I" (.int (0 : Int32)) := D9 (Or.inl (hw _ (List.mem_of_getElem? (i := 16) rfl))) (ty := .int) (by decide)
        have F_ob9_end : Fld Z hh9 ob9 "com/example/pathwarden/pathwarden/util/DerReader" "end" "I" (.int (0 : Int32)) := D9 (Or.inr (hw _ (List.mem_of_getElem? (i := 18) rfl))) (ty := .int) (by decide)
        show own_Out p e below _ T9 (mkF m 126 #[.val (.int x0), .val (.int x1), .val (.int x2), .val (.int (0 : Int32)), .val (.int (0 : Int32)), .val (.int (1 : Int32)), .val (.int x2), .val (.ref ob7), .unset, .unset, .unset, .unset] [(.ref ob9)]) _ _ _
        refine own_to (fun t k => XS.dup X9.here hx rfl (hb hby at_126) rfl rfl k) ?_
        show own_Out p e below _ T9 (mkF m 127 #[.val (.int x0), .val (.int x1), .val (.int x2), .val (.int (0 : Int32)), .val (.int (0 : Int32)), .val (.int (1 : Int32)), .val (.int x2), .val (.ref ob7), .unset, .unset, .unset, .unset] [(.ref ob9), (.ref ob9)]) _ _ _
        refine own_to (fun t k => XS.aload X9.here hx rfl (hb hby at_127) rfl rfl k) ?_
        show own_Out p e below _ T9 (mkF m 129 #[.val (.int x0), .val (.int x1), .val (.int x2), .val (.int (0 : Int32)), .val (.int (0 : Int32)), .val (.int (1 : Int32)), .val (.int x2), .val (.ref ob7), .unset, .unset, .unset, .unset] [(.ref ob7), (.ref ob9), (.ref ob9)]) _ _ _
        refine own_callC X9 hx hZ hown (a := ob9) (argsL := [(.ref ob7)]) (rest := [(.ref ob9)]) rfl (hw _ (List.mem_of_getElem? (i := 4) rfl)) (hw _ (List.mem_of_getElem? (i := 5) rfl)) (hw _ (List.mem_of_getElem? (i := 3) rfl)) (hw _ (List.mem_of_getElem? (i := 6) rfl)) (by decide) (rm1 l Z a0 hw ob9 ob7 1 (own_upd (fun _ => 0) ((0 : Int32).toNatClampNeg) (nar .byte (x1.toInt8.toInt32))) hh9 n0 Z0 E_ob9 F_ob9_bytes F_ob9_position F_ob9_end g_ob9 A_ob7 ne_ob7_ob9) (by decide) (by decide) e9 rfl (by rw [hml]; rfl) (lenOf pd_4 rfl) rfl (W := 1) (by show 2 * 0 + _ ≤ _; exact Nat.le_of_eq rfl) (hb hby at_129) (by decide) (by decide) fun v10 T10 hh10 L10 X10 e10 hQ10 => ?_
        obtain ⟨rfl, NL10, KK10, P10_0, P10_1, P10_2⟩ := hQ10
        have A_ob7 := A_ob7.keep KK10 (by simp [ne_ob7_ob9])
        have E_ob9 := E_ob9.keep KK10
        have F_ob9_bytes := P10_0
        have F_ob9_position := P10_1
        have F_ob9_end := P10_2
        have Z0 := Nat.le_trans Z0 KK10.1
        have hk := Nat.le_trans hk KK10.1
        have N10 := Fr.app N8 NL10
        show own_Out p e below _ T10 (mkF m 132 #[.val (.int x0), .val (.int x1), .val (.int x2), .val (.int (0 : Int32)), .val (.int (0 : Int32)), .val (.int (1 : Int32)), .val (.int x2), .val (.ref ob7), .unset, .unset, .unset, .unset] [(.ref ob9)]) _ _ _
        rw [show (Nat.toInt32 1) = (1 : Int32) from by decide] at F_ob9_end
        refine own_to (fun t k => XS.astore X10.here hx rfl (hb hby at_132) rfl rfl (l' := #[.val (.int x0), .val (.int x1), .val (.int x2), .val (.int (0 : Int32)), .val (.int (0 : Int32)), .val (.int (1 : Int32)), .val (.int x2), .val (.ref ob7), .val (.ref ob9), .unset, .unset, .unset]) rfl k) ?_
        show own_Out p e below _ T10 (mkF m 134 #[.val (.int x0), .val (.int x1), .val (.int x2), .val (.int (0 : Int32)), .val (.int (0 : Int32)), .val (.int (1 : Int32)), .val (.int x2), .val (.ref ob7), .val (.ref ob9), .unset, .unset, .unset] []) _ _ _
        refine own_to (fun t k => XS.iload X10.here hx rfl (hb hby at_134) rfl k) ?_
        show own_Out p e below _ T10 (mkF m 136 #[.val (.int x0), .val (.int x1), .val (.int x2), .val (.int (0 : Int32)), .val (.int (0 : Int32)), .val (.int (1 : Int32)), .val (.int x2), .val (.ref ob7), .val (.ref ob9), .unset, .unset, .unset] [(.int (0 : Int32))]) _ _ _
        have hc136 : (0 : Int32) = (0 : Int32) := by decide
        refine own_to (fun t k => XS.ifYes X10.here hx rfl (pc0 := 136) (pc' := 145) rfl (hb hby at_136) rfl ((if0 _ _).trans (teq hc136).1) (by decide) (by decide) k) ?_
        show own_Out p e below _ T10 (mkF m 145 #[.val (.int x0), .val (.int x1), .val (.int x2), .val (.int (0 : Int32)), .val (.int (0 : Int32)), .val (.int (1 : Int32)), .val (.int x2), .val (.ref ob7), .val (.ref ob9), .unset, .unset, .unset] []) _ _ _
        refine own_to (fun t k => XS.iload X10.here hx rfl (hb hby at_145) rfl k) ?_
        show own_Out p e below _ T10 (mkF m 147 #[.val (.int x0), .val (.int x1), .val (.int x2), .val (.int (0 : Int32)), .val (.int (0 : Int32)), .val (.int (1 : Int32)), .val (.int x2), .val (.ref ob7), .val (.ref ob9), .unset, .unset, .unset] [(.int (1 : Int32))]) _ _ _
        have hc147 : ¬ ((1 : Int32) = (0 : Int32)) := by decide
        refine own_to (fun t k => XS.ifNo X10.here hx rfl (hb hby at_147) rfl ((if0 _ _).trans (feq hc147).1) k) ?_
        show own_Out p e below _ T10 (mkF m 150 #[.val (.int x0), .val (.int x1), .val (.int x2), .val (.int (0 : Int32)), .val (.int (0 : Int32)), .val (.int (1 : Int32)), .val (.int x2), .val (.ref ob7), .val (.ref ob9), .unset, .unset, .unset] []) _ _ _
        refine own_to (fun t k => XS.iloadN X10.here hx rfl (hb hby at_150) rfl k) ?_
        show own_Out p e below _ T10 (mkF m 151 #[.val (.int x0), .val (.int x1), .val (.int x2), .val (.int (0 : Int32)), .val (.int (0 : Int32)), .val (.int (1 : Int32)), .val (.int x2), .val (.ref ob7), .val (.ref ob9), .unset, .unset, .unset] [(.int x1)]) _ _ _
        refine own_to (fun t k => XS.sipush X10.here hx rfl (hb hby at_151) k) ?_
        show own_Out p e below _ T10 (mkF m 154 #[.val (.int x0), .val (.int x1), .val (.int x2), .val (.int (0 : Int32)), .val (.int (0 : Int32)), .val (.int (1 : Int32)), .val (.int x2), .val (.ref ob7), .val (.ref ob9), .unset, .unset, .unset] [(.int (255 : Int32)), (.int x1)]) _ _ _
        refine own_to (fun t k => XS.iand X10.here hx rfl (hb hby at_154) rfl k) ?_
        show own_Out p e below _ T10 (mkF m 155 #[.val (.int x0), .val (.int x1), .val (.int x2), .val (.int (0 : Int32)), .val (.int (0 : Int32)), .val (.int (1 : Int32)), .val (.int x2), .val (.ref ob7), .val (.ref ob9), .unset, .unset, .unset] [(.int (x1 &&& (255 : Int32)))]) _ _ _
        refine own_to (fun t k => XS.iload X10.here hx rfl (hb hby at_155) rfl k) ?_
        show own_Out p e below _ T10 (mkF m 157 #[.val (.int x0), .val (.int x1), .val (.int x2), .val (.int (0 : Int32)), .val (.int (0 : Int32)), .val (.int (1 : Int32)), .val (.int x2), .val (.ref ob7), .val (.ref ob9), .unset, .unset, .unset] [(.int x2), (.int (x1 &&& (255 : Int32)))]) _ _ _
        by_cases hc157 : (x1 &&& (255 : Int32)) = x2
        · refine own_to (fun t k => XS.icmpNo X10.here hx rfl (hb hby at_157) rfl (teq hc157).2 k) ?_
          show own_Out p e below _ T10 (mkF m 160 #[.val (.int x0), .val (.int x1), .val (.int x2), .val (.int (0 : Int32)), .val (.int (0 : Int32)), .val (.int (1 : Int32)), .val (.int x2), .val (.ref ob7), .val (.ref ob9), .unset, .unset, .unset] []) _ _ _
          refine own_to (fun t k => XS.iconst X10.here hx rfl (hb hby at_160) k) ?_
          show own_Out p e below _ T10 (mkF m 161 #[.val (.int x0), .val (.int x1), .val (.int x2), .val (.int (0 : Int32)), .val (.int (0 : Int32)), .val (.int (1 : Int32)), .val (.int x2), .val (.ref ob7), .val (.ref ob9), .unset, .unset, .unset] [(.int (1 : Int32))]) _ _ _
          refine own_to (fun t k => XS.goto X10.here hx rfl (pc0 := 161) (pc' := 165) rfl (hb hby at_161) (by decide) (by decide) k) ?_
          show own_Out p e below _ T10 (mkF m 165 #[.val (.int x0), .val (.int x1), .val (.int x2), .val (.int (0 : Int32)), .val (.int (0 : Int32)), .val (.int (1 : Int32)), .val (.int x2), .val (.ref ob7), .val (.ref ob9), .unset, .unset, .unset] [(.int (1 : Int32))]) _ _ _
          refine own_to (fun t k => XS.istore X10.here hx rfl (hb hby at_165) rfl (l' := #[.val (.int x0), .val (.int x1), .val (.int x2), .val (.int (0 : Int32)), .val (.int (0 : Int32)), .val (.int (1 : Int32)), .val (.int x2), .val (.ref ob7), .val (.ref ob9), .val (.int (1 : Int32)), .unset, .unset]) rfl k) ?_
          show own_Out p e below _ T10 (mkF m 167 #[.val (.int x0), .val (.int x1), .val (.int x2), .val (.int (0 : Int32)), .val (.int (0 : Int32)), .val (.int (1 : Int32)), .val (.int x2), .val (.ref ob7), .val (.ref ob9), .val (.int (1 : Int32)), .unset, .unset] []) _ _ _
          refine own_to (fun t k => XS.aload X10.here hx rfl (hb hby at_167) rfl rfl k) ?_
          show own_Out p e below _ T10 (mkF m 169 #[.val (.int x0), .val (.int x1), .val (.int x2), .val (.int (0 : Int32)), .val (.int (0 : Int32)), .val (.int (1 : Int32)), .val (.int x2), .val (.ref ob7), .val (.ref ob9), .val (.int (1 : Int32)), .unset, .unset] [(.ref ob9)]) _ _ _
          refine own_to (fun t k => XS.iload X10.here hx rfl (hb hby at_169) rfl k) ?_
          show own_Out p e below _ T10 (mkF m 171 #[.val (.int x0), .val (.int x1), .val (.int x2), .val (.int (0 : Int32)), .val (.int (0 : Int32)), .val (.int (1 : Int32)), .val (.int x2), .val (.ref ob7), .val (.ref ob9), .val (.int (1 : Int32)), .unset, .unset] [(.int x2), (.ref ob9)]) _ _ _
          refine own_callV X10 hx hZ hown (a := ob9) (argsL := [(.int x2)]) (rest := []) (hw _ (List.mem_of_getElem? (i := 19) rfl)) (hw _ (List.mem_of_getElem? (i := 20) rfl)) (hw _ (List.mem_of_getElem? (i := 22) rfl)) (hw _ (List.mem_of_getElem? (i := 21) rfl)) (hw _ (List.mem_of_getElem? (i := 3) rfl)) (hw _ (List.mem_of_getElem? (i := 23) rfl)) (by decide) (rm4 l Z a0 hw ob9 x2 (0 : Int32) (1 : Int32) ob7 1 (own_upd (fun _ => 0) ((0 : Int32).toNatClampNeg) (nar .byte (x1.toInt8.toInt32))) hh10 n0 Z0 E_ob9 F_ob9_bytes F_ob9_position F_ob9_end A_ob7 (by decide)) (by decide) (by decide) e10 E_ob9 rfl (by rw [hml]; rfl) (lenOf pd_5 rfl) rfl (W := 0) (by show 2 * 0 + _ ≤ _; exact Nat.le_of_eq rfl) (hb hby at_171) (by decide) (by decide) fun v11 T11 hh11 L11 X11 e11 hQ11 => ?_
          obtain ⟨rfl, NL11, he11⟩ := hQ11
          replace e11 := e11.trans he11
          have N11 := Fr.app N10 NL11
          show own_Out p e below _ T11 (mkF m 174 #[.val (.int x0), .val (.int x1), .val (.int x2), .val (.int (0 : Int32)), .val (.int (0 : Int32)), .val (.int (1 : Int32)), .val (.int x2), .val (.ref ob7), .val (.ref ob9), .val (.int (1 : Int32)), .unset, .unset] [(.int (R4 ob9 x2 (0 : Int32) (1 : Int32) ob7 1 (own_upd (fun _ => 0) ((0 : Int32).toNatClampNeg) (nar .byte (x1.toInt8.toInt32)))))]) _ _ _
          refine own_to (fun t k => XS.istore X11.here hx rfl (hb hby at_174) rfl (l' := #[.val (.int x0), .val (.int x1), .val (.int x2), .val (.int (0 : Int32)), .val (.int (0 : Int32)), .val (.int (1 : Int32)), .val (.int x2), .val (.ref ob7), .val (.ref ob9), .val (.int (1 : Int32)), .val (.int (R4 ob9 x2 (0 : Int32) (1 : Int32) ob7 1 (own_upd (fun _ => 0) ((0 : Int32).toNatClampNeg) (nar .byte (x1.toInt8.toInt32))))), .unset]) rfl k) ?_
          show own_Out p e below _ T11 (mkF m 176 #[.val (.int x0), .val (.int x1), .val (.int x2), .val (.int (0 : Int32)), .val (.int (0 : Int32)), .val (.int (1 : Int32)), .val (.int x2), .val (.ref ob7), .val (.ref ob9), .val (.int (1 : Int32)), .val (.int (R4 ob9 x2 (0 : Int32) (1 : Int32) ob7 1 (own_upd (fun _ => 0) ((0 : Int32).toNatClampNeg) (nar .byte (x1.toInt8.toInt32))))), .unset] []) _ _ _
          refine own_to (fun t k => XS.aload X11.here hx rfl (hb hby at_176) rfl rfl k) ?_
          show own_Out p e below _ T11 (mkF m 178 #[.val (.int x0), .val (.int x1), .val (.int x2), .val (.int (0 : Int32)), .val (.int (0 : Int32)), .val (.int (1 : Int32)), .val (.int x2), .val (.ref ob7), .val (.ref ob9), .val (.int (1 : Int32)), .val (.int (R4 ob9 x2 (0 : Int32) (1 : Int32) ob7 1 (own_upd (fun _ => 0) ((0 : Int32).toNatClampNeg) (nar .byte (x1.toInt8.toInt32))))), .unset] [(.ref ob9)]) _ _ _
          refine own_to (fun t k => XS.iload X11.here hx rfl (hb hby at_178) rfl k) ?_
          show own_Out p e below _ T11 (mkF m 180 #[.val (.int x0), .val (.int x1), .val (.int x2), .val (.int (0 : Int32)), .val (.int (0 : Int32)), .val (.int (1 : Int32)), .val (.int x2), .val (.ref ob7), .val (.ref ob9), .val (.int (1 : Int32)), .val (.int (R4 ob9 x2 (0 : Int32) (1 : Int32) ob7 1 (own_upd (fun _ => 0) ((0 : Int32).toNatClampNeg) (nar .byte (x1.toInt8.toInt32))))), .unset] [(.int x2), (.ref ob9)]) _ _ _
          refine own_callV X11 hx hZ hown (a := ob9) (argsL := [(.int x2)]) (rest := []) (hw _ (List.mem_of_getElem? (i := 19) rfl)) (hw _ (List.mem_of_getElem? (i := 20) rfl)) (hw _ (List.mem_of_getElem? (i := 22) rfl)) (hw _ (List.mem_of_getElem? (i := 21) rfl)) (hw _ (List.mem_of_getElem? (i := 3) rfl)) (hw _ (List.mem_of_getElem? (i := 23) rfl)) (by decide) (rm4 l Z a0 hw ob9 x2 (0 : Int32) (1 : Int32) ob7 1 (own_upd (fun _ => 0) ((0 : Int32).toNatClampNeg) (nar .byte (x1.toInt8.toInt32))) hh10 n0 Z0 E_ob9 F_ob9_bytes F_ob9_position F_ob9_end A_ob7 (by decide)) (by decide) (by decide) e11 E_ob9 rfl (by rw [hml]; rfl) (lenOf pd_5 rfl) rfl (W := 0) (by show 2 * 0 + _ ≤ _; exact Nat.le_of_eq rfl) (hb hby at_180) (by decide) (by decide) fun v12 T12 hh12 L12 X12 e12 hQ12 => ?_
          obtain ⟨rfl, NL12, he12⟩ := hQ12
          replace e12 := e12.trans he12
          have N12 := Fr.app N11 NL12
          show own_Out p e below _ T12 (mkF m 183 #[.val (.int x0), .val (.int x1), .val (.int x2), .val (.int (0 : Int32)), .val (.int (0 : Int32)), .val (.int (1 : Int32)), .val (.int x2), .val (.ref ob7), .val (.ref ob9), .val (.int (1 : Int32)), .val (.int (R4 ob9 x2 (0 : Int32) (1 : Int32) ob7 1 (own_upd (fun _ => 0) ((0 : Int32).toNatClampNeg) (nar .byte (x1.toInt8.toInt32))))), .unset] [(.int (R4 ob9 x2 (0 : Int32) (1 : Int32) ob7 1 (own_upd (fun _ => 0) ((0 : Int32).toNatClampNeg) (nar .byte (x1.toInt8.toInt32)))))]) _ _ _
          refine own_to (fun t k => XS.istore X12.here hx rfl (hb hby at_183) rfl (l' := #[.val (.int x0), .val (.int x1), .val (.int x2), .val (.int (0 : Int32)), .val (.int (0 : Int32)), .val (.int (1 : Int32)), .val (.int x2), .val (.ref ob7), .val (.ref ob9), .val (.int (1 : Int32)), .val (.int (R4 ob9 x2 (0 : Int32) (1 : Int32) ob7 1 (own_upd (fun _ => 0) ((0 : Int32).toNatClampNeg) (nar .byte (x1.toInt8.toInt32))))), .val (.int (R4 ob9 x2 (0 : Int32) (1 : Int32) ob7 1 (own_upd (fun _ => 0) ((0 : Int32).toNatClampNeg) (nar .byte (x1.toInt8.toInt32)))))]) rfl k) ?_
          show own_Out p e below _ T12 (mkF m 185 #[.val (.int x0), .val (.int x1), .val (.int x2), .val (.int (0 : Int32)), .val (.int (0 : Int32)), .val (.int (1 : Int32)), .val (.int x2), .val (.ref ob7), .val (.ref ob9), .val (.int (1 : Int32)), .val (.int (R4 ob9 x2 (0 : Int32) (1 : Int32) ob7 1 (own_upd (fun _ => 0) ((0 : Int32).toNatClampNeg) (nar .byte (x1.toInt8.toInt32))))), .val (.int (R4 ob9 x2 (0 : Int32) (1 : Int32) ob7 1 (own_upd (fun _ => 0) ((0 : Int32).toNatClampNeg) (nar .byte (x1.toInt8.toInt32)))))] []) _ _ _
          refine own_to (fun t k => XS.iload X12.here hx rfl (hb hby at_185) rfl k) ?_
          show own_Out p e below _ T12 (mkF m 187 #[.val (.int x0), .val (.int x1), .val (.int x2), .val (.int (0 : Int32)), .val (.int (0 : Int32)), .val (.int (1 : Int32)), .val (.int x2), .val (.ref ob7), .val (.ref ob9), .val (.int (1 : Int32)), .val (.int (R4 ob9 x2 (0 : Int32) (1 : Int32) ob7 1 (own_upd (fun _ => 0) ((0 : Int32).toNatClampNeg) (nar .byte (x1.toInt8.toInt32))))), .val (.int (R4 ob9 x2 (0 : Int32) (1 : Int32) ob7 1 (own_upd (fun _ => 0) ((0 : Int32).toNatClampNeg) (nar .byte (x1.toInt8.toInt32)))))] [(.int (R4 ob9 x2 (0 : Int32) (1 : Int32) ob7 1 (own_upd (fun _ => 0) ((0 : Int32).toNatClampNeg) (nar .byte (x1.toInt8.toInt32)))))]) _ _ _
          refine own_to (fun t k => XS.iload X12.here hx rfl (hb hby at_187) rfl k) ?_
          show own_Out p e below _ T12 (mkF m 189 #[.val (.int x0), .val (.int x1), .val (.int x2), .val (.int (0 : Int32)), .val (.int (0 : Int32)), .val (.int (1 : Int32)), .val (.int x2), .val (.ref ob7), .val (.ref ob9), .val (.int (1 : Int32)), .val (.int (R4 ob9 x2 (0 : Int32) (1 : Int32) ob7 1 (own_upd (fun _ => 0) ((0 : Int32).toNatClampNeg) (nar .byte (x1.toInt8.toInt32))))), .val (.int (R4 ob9 x2 (0 : Int32) (1 : Int32) ob7 1 (own_upd (fun _ => 0) ((0 : Int32).toNatClampNeg) (nar .byte (x1.toInt8.toInt32)))))] [(.int (1 : Int32)), (.int (R4 ob9 x2 (0 : Int32) (1 : Int32) ob7 1 (own_upd (fun _ => 0) ((0 : Int32).toNatClampNeg) (nar .byte (x1.toInt8.toInt32)))))]) _ _ _
          have hc189 : (R4 ob9 x2 (0 : Int32) (1 : Int32) ob7 1 (own_upd (fun _ => 0) ((0 : Int32).toNatClampNeg) (nar .byte (x1.toInt8.toInt32)))) = (1 : Int32) := (own_ni _ _ _ _ _ _ _).2.1 (by decide) (((congrArg (fun z => z &&& (255 : Int32)) (own_hit (by decide))).trans (own_by x1)).trans hc157)
          refine own_to (fun t k => XS.icmpNo X12.here hx rfl (hb hby at_189) rfl (teq hc189).2 k) ?_
          show own_Out p e below _ T12 (mkF m 192 #[.val (.int x0), .val (.int x1), .val (.int x2), .val (.int (0 : Int32)), .val (.int (0 : Int32)), .val (.int (1 : Int32)), .val (.int x2), .val (.ref ob7), .val (.ref ob9), .val (.int (1 : Int32)), .val (.int (R4 ob9 x2 (0 : Int32) (1 : Int32) ob7 1 (own_upd (fun _ => 0) ((0 : Int32).toNatClampNeg) (nar .byte (x1.toInt8.toInt32))))), .val (.int (R4 ob9 x2 (0 : Int32) (1 : Int32) ob7 1 (own_upd (fun _ => 0) ((0 : Int32).toNatClampNeg) (nar .byte (x1.toInt8.toInt32)))))] []) _ _ _
          refine own_to (fun t k => XS.iload X12.here hx rfl (hb hby at_192) rfl k) ?_
          show own_Out p e below _ T12 (mkF m 194 #[.val (.int x0), .val (.int x1), .val (.int x2), .val (.int (0 : Int32)), .val (.int (0 : Int32)), .val (.int (1 : Int32)), .val (.int x2), .val (.ref ob7), .val (.ref ob9), .val (.int (1 : Int32)), .val (.int (R4 ob9 x2 (0 : Int32) (1 : Int32) ob7 1 (own_upd (fun _ => 0) ((0 : Int32).toNatClampNeg) (nar .byte (x1.toInt8.toInt32))))), .val (.int (R4 ob9 x2 (0 : Int32) (1 : Int32) ob7 1 (own_upd (fun _ => 0) ((0 : Int32).toNatClampNeg) (nar .byte (x1.toInt8.toInt32)))))] [(.int (R4 ob9 x2 (0 : Int32) (1 : Int32) ob7 1 (own_upd (fun _ => 0) ((0 : Int32).toNatClampNeg) (nar .byte (x1.toInt8.toInt32)))))]) _ _ _
          refine own_to (fun t k => XS.iload X12.here hx rfl (hb hby at_194) rfl k) ?_
          show own_Out p e below _ T12 (mkF m 196 #[.val (.int x0), .val (.int x1), .val (.int x2), .val (.int (0 : Int32)), .val (.int (0 : Int32)), .val (.int (1 : Int32)), .val (.int x2), .val (.ref ob7), .val (.ref ob9), .val (.int (1 : Int32)), .val (.int (R4 ob9 x2 (0 : Int32) (1 : Int32) ob7 1 (own_upd (fun _ => 0) ((0 : Int32).toNatClampNeg) (nar .byte (x1.toInt8.toInt32))))), .val (.int (R4 ob9 x2 (0 : Int32) (1 : Int32) ob7 1 (own_upd (fun _ => 0) ((0 : Int32).toNatClampNeg) (nar .byte (x1.toInt8.toInt32)))))] [(.int (1 : Int32)), (.int (R4 ob9 x2 (0 : Int32) (1 : Int32) ob7 1 (own_upd (fun _ => 0) ((0 : Int32).toNatClampNeg) (nar .byte (x1.toInt8.toInt32)))))]) _ _ _
          have hc196 : (R4 ob9 x2 (0 : Int32) (1 : Int32) ob7 1 (own_upd (fun _ => 0) ((0 : Int32).toNatClampNeg) (nar .byte (x1.toInt8.toInt32)))) = (1 : Int32) := (own_ni _ _ _ _ _ _ _).2.1 (by decide) (((congrArg (fun z => z &&& (255 : Int32)) (own_hit (by decide))).trans (own_by x1)).trans hc157)
          refine own_to (fun t k => XS.icmpNo X12.here hx rfl (hb hby at_196) rfl (teq hc196).2 k) ?_
          show own_Out p e below _ T12 (mkF m 199 #[.val (.int x0), .val (.int x1), .val (.int x2), .val (.int (0 : Int32)), .val (.int (0 : Int32)), .val (.int (1 : Int32)), .val (.int x2), .val (.ref ob7), .val (.ref ob9), .val (.int (1 : Int32)), .val (.int (R4 ob9 x2 (0 : Int32) (1 : Int32) ob7 1 (own_upd (fun _ => 0) ((0 : Int32).toNatClampNeg) (nar .byte (x1.toInt8.toInt32))))), .val (.int (R4 ob9 x2 (0 : Int32) (1 : Int32) ob7 1 (own_upd (fun _ => 0) ((0 : Int32).toNatClampNeg) (nar .byte (x1.toInt8.toInt32)))))] []) _ _ _
          refine own_to (fun t k => XS.aload X12.here hx rfl (hb hby at_199) rfl rfl k) ?_
          show own_Out p e below _ T12 (mkF m 201 #[.val (.int x0), .val (.int x1), .val (.int x2), .val (.int (0 : Int32)), .val (.int (0 : Int32)), .val (.int (1 : Int32)), .val (.int x2), .val (.ref ob7), .val (.ref ob9), .val (.int (1 : Int32)), .val (.int (R4 ob9 x2 (0 : Int32) (1 : Int32) ob7 1 (own_upd (fun _ => 0) ((0 : Int32).toNatClampNeg) (nar .byte (x1.toInt8.toInt32))))), .val (.int (R4 ob9 x2 (0 : Int32) (1 : Int32) ob7 1 (own_upd (fun _ => 0) ((0 : Int32).toNatClampNeg) (nar .byte (x1.toInt8.toInt32)))))] [(.ref ob9)]) _ _ _
          refine own_callV X12 hx hZ hown (a := ob9) (argsL := []) (rest := []) (hw _ (List.mem_of_getElem? (i := 29) rfl)) (hw _ (List.mem_of_getElem? (i := 25) rfl)) (hw _ (List.mem_of_getElem? (i := 27) rfl)) (hw _ (List.mem_of_getElem? (i := 26) rfl)) (hw _ (List.mem_of_getElem? (i := 3) rfl)) (hw _ (List.mem_of_getElem? (i := 28) rfl)) (by decide) (rm5 l Z a0 hw ob9 (0 : Int32) (1 : Int32) hh10 n0 Z0 F_ob9_position F_ob9_end) (by decide) (by decide) e12 E_ob9 rfl (by rw [hml]; rfl) (lenOf pd_1 rfl) rfl (W := 0) (by show 2 * 0 + _ ≤ _; exact Nat.le_of_eq rfl) (hb hby at_201) (by decide) (by decide) fun v13 T13 hh13 L13 X13 e13 hQ13 => ?_
          obtain ⟨rfl, NL13, he13⟩ := hQ13
          replace e13 := e13.trans he13
          have N13 := Fr.app N12 NL13
          show own_Out p e below _ T13 (mkF m 204 #[.val (.int x0), .val (.int x1), .val (.int x2), .val (.int (0 : Int32)), .val (.int (0 : Int32)), .val (.int (1 : Int32)), .val (.int x2), .val (.ref ob7), .val (.ref ob9), .val (.int (1 : Int32)), .val (.int (R4 ob9 x2 (0 : Int32) (1 : Int32) ob7 1 (own_upd (fun _ => 0) ((0 : Int32).toNatClampNeg) (nar .byte (x1.toInt8.toInt32))))), .val (.int (R4 ob9 x2 (0 : Int32) (1 : Int32) ob7 1 (own_upd (fun _ => 0) ((0 : Int32).toNatClampNeg) (nar .byte (x1.toInt8.toInt32)))))] [(.int (R5 ob9 (0 : Int32) (1 : Int32)))]) _ _ _
          refine own_to (fun t k => XS.iload X13.here hx rfl (hb hby at_204) rfl k) ?_
          show own_Out p e below _ T13 (mkF m 206 #[.val (.int x0), .val (.int x1), .val (.int x2), .val (.int (0 : Int32)), .val (.int (0 : Int32)), .val (.int (1 : Int32)), .val (.int x2), .val (.ref ob7), .val (.ref ob9), .val (.int (1 : Int32)), .val (.int (R4 ob9 x2 (0 : Int32) (1 : Int32) ob7 1 (own_upd (fun _ => 0) ((0 : Int32).toNatClampNeg) (nar .byte (x1.toInt8.toInt32))))), .val (.int (R4 ob9 x2 (0 : Int32) (1 : Int32) ob7 1 (own_upd (fun _ => 0) ((0 : Int32).toNatClampNeg) (nar .byte (x1.toInt8.toInt32)))))] [(.int (1 : Int32)), (.int (R5 ob9 (0 : Int32) (1 : Int32)))]) _ _ _
          have hc206 : (R5 ob9 (0 : Int32) (1 : Int32)) = (1 : Int32) := own_hn1 _ _ _ (by decide)
          refine own_to (fun t k => XS.icmpNo X13.here hx rfl (hb hby at_206) rfl (teq hc206).2 k) ?_
          show own_Out p e below _ T13 (mkF m 209 #[.val (.int x0), .val (.int x1), .val (.int x2), .val (.int (0 : Int32)), .val (.int (0 : Int32)), .val (.int (1 : Int32)), .val (.int x2), .val (.ref ob7), .val (.ref ob9), .val (.int (1 : Int32)), .val (.int (R4 ob9 x2 (0 : Int32) (1 : Int32) ob7 1 (own_upd (fun _ => 0) ((0 : Int32).toNatClampNeg) (nar .byte (x1.toInt8.toInt32))))), .val (.int (R4 ob9 x2 (0 : Int32) (1 : Int32) ob7 1 (own_upd (fun _ => 0) ((0 : Int32).toNatClampNeg) (nar .byte (x1.toInt8.toInt32)))))] []) _ _ _
          refine own_to (fun t k => XS.iconst X13.here hx rfl (hb hby at_209) k) ?_
          show own_Out p e below _ T13 (mkF m 210 #[.val (.int x0), .val (.int x1), .val (.int x2), .val (.int (0 : Int32)), .val (.int (0 : Int32)), .val (.int (1 : Int32)), .val (.int x2), .val (.ref ob7), .val (.ref ob9), .val (.int (1 : Int32)), .val (.int (R4 ob9 x2 (0 : Int32) (1 : Int32) ob7 1 (own_upd (fun _ => 0) ((0 : Int32).toNatClampNeg) (nar .byte (x1.toInt8.toInt32))))), .val (.int (R4 ob9 x2 (0 : Int32) (1 : Int32) ob7 1 (own_upd (fun _ => 0) ((0 : Int32).toNatClampNeg) (nar .byte (x1.toInt8.toInt32)))))] [(.int (1 : Int32))]) _ _ _
          refine own_to (fun t k => XS.goto X13.here hx rfl (pc0 := 210) (pc' := 214) rfl (hb hby at_210) (by decide) (by decide) k) ?_
          show own_Out p e below _ T13 (mkF m 214 #[.val (.int x0), .val (.int x1), .val (.int x2), .val (.int (0 : Int32)), .val (.int (0 : Int32)), .val (.int (1 : Int32)), .val (.int x2), .val (.ref ob7), .val (.ref ob9), .val (.int (1 : Int32)), .val (.int (R4 ob9 x2 (0 : Int32) (1 : Int32) ob7 1 (own_upd (fun _ => 0) ((0 : Int32).toNatClampNeg) (nar .byte (x1.toInt8.toInt32))))), .val (.int (R4 ob9 x2 (0 : Int32) (1 : Int32) ob7 1 (own_upd (fun _ => 0) ((0 : Int32).toNatClampNeg) (nar .byte (x1.toInt8.toInt32)))))] [(.int (1 : Int32))]) _ _ _
          refine own_retVW X13 hS hk e13 hx hlk (w := .int (1 : Int32)) hret rfl (Or.inl ⟨rfl, by simp, _, rfl⟩) (hb hby at_214) (by decide) (by decide) ?_
          rw [e13]
          exact ⟨rfl, N13⟩
        · refine own_to (fun t k => XS.icmpYes X10.here hx rfl (pc0 := 157) (pc' := 164) rfl (hb hby at_157) rfl (feq hc157).2 (by decide) (by decide) k) ?_
          show own_Out p e below _ T10 (mkF m 164 #[.val (.int x0), .val (.int x1), .val (.int x2), .val (.int (0 : Int32)), .val (.int (0 : Int32)), .val (.int (1 : Int32)), .val (.int x2), .val (.ref ob7), .val (.ref ob9), .unset, .unset, .unset] []) _ _ _
          refine own_to (fun t k => XS.iconst X10.here hx rfl (hb hby at_164) k) ?_
          show own_Out p e below _ T10 (mkF m 165 #[.val (.int x0), .val (.int x1), .val (.int x2), .val (.int (0 : Int32)), .val (.int (0 : Int32)), .val (.int (1 : Int32)), .val (.int x2), .val (.ref ob7), .val (.ref ob9), .unset, .unset, .unset] [(.int (0 : Int32))]) _ _ _
          refine own_to (fun t k => XS.istore X10.here hx rfl (hb hby at_165) rfl (l' := #[.val (.int x0), .val (.int x1), .val (.int x2), .val (.int (0 : Int32)), .val (.int (0 : Int32)), .val (.int (1 : Int32)), .val (.int x2), .val (.ref ob7), .val (.ref ob9), .val (.int (0 : Int32)), .unset, .unset]) rfl k) ?_
          show own_Out p e below _ T10 (mkF m 167 #[.val (.int x0), .val (.int x1), .val (.int x2), .val (.int (0 : Int32)), .val (.int (0 : Int32)), .val (.int (1 : Int32)), .val (.int x2), .val (.ref ob7), .val (.ref ob9), .val (.int (0 : Int32)), .unset, .unset] []) _ _ _
          refine own_to (fun t k => XS.aload X10.here hx rfl (hb hby at_167) rfl rfl k) ?_
          show own_Out p e below _ T10 (mkF m 169 #[.val (.int x0), .val (.int x1), .val (.int x2), .val (.int (0 : Int32)), .val (.int (0 : Int32)), .val (.int (1 : Int32)), .val (.int x2), .val (.ref ob7), .val (.ref ob9), .val (.int (0 : Int32)), .unset, .unset] [(.ref ob9)]) _ _ _
          refine own_to (fun t k => XS.iload X10.here hx rfl (hb hby at_169) rfl k) ?_
          show own_Out p e below _ T10 (mkF m 171 #[.val (.int x0), .val (.int x1), .val (.int x2), .val (.int (0 : Int32)), .val (.int (0 : Int32)), .val (.int (1 : Int32)), .val (.int x2), .val (.ref ob7), .val (.ref ob9), .val (.int (0 : Int32)), .unset, .unset] [(.int x2), (.ref ob9)]) _ _ _
          refine own_callV X10 hx hZ hown (a := ob9) (argsL := [(.int x2)]) (rest := []) (hw _ (List.mem_of_getElem? (i := 19) rfl)) (hw _ (List.mem_of_getElem? (i := 20) rfl)) (hw _ (List.mem_of_getElem? (i := 22) rfl)) (hw _ (List.mem_of_getElem? (i := 21) rfl)) (hw _ (List.mem_of_getElem? (i := 3) rfl)) (hw _ (List.mem_of_getElem? (i := 23) rfl)) (by decide) (rm4 l Z a0 hw ob9 x2 (0 : Int32) (1 : Int32) ob7 1 (own_upd (fun _ => 0) ((0 : Int32).toNatClampNeg) (nar .byte (x1.toInt8.toInt32))) hh10 n0 Z0 E_ob9 F_ob9_bytes F_ob9_position F_ob9_end A_ob7 (by decide)) (by decide) (by decide) e10 E_ob9 rfl (by rw [hml]; rfl) (lenOf pd_5 rfl) rfl (W := 0) (by show 2 * 0 + _ ≤ _; exact Nat.le_of_eq rfl) (hb hby at_171) (by decide) (by decide) fun v14 T14 hh14 L14 X14 e14 hQ14 => ?_
          obtain ⟨rfl, NL14, he14⟩ := hQ14
          replace e14 := e14.trans he14
          have N14 := Fr.app N10 NL14
          show own_Out p e below _ T14 (mkF m 174 #[.val (.int x0), .val (.int x1), .val (.int x2), .val (.int (0 : Int32)), .val (.int (0 : Int32)), .val (.int (1 : Int32)), .val (.int x2), .val (.ref ob7), .val (.ref ob9), .val (.int (0 : Int32)), .unset, .unset] [(.int (R4 ob9 x2 (0 : Int32) (1 : Int32) ob7 1 (own_upd (fun _ => 0) ((0 : Int32).toNatClampNeg) (nar .byte (x1.toInt8.toInt32)))))]) _ _ _
          refine own_to (fun t k => XS.istore X14.here hx rfl (hb hby at_174) rfl (l' := #[.val (.int x0), .val (.int x1), .val (.int x2), .val (.int (0 : Int32)), .val (.int (0 : Int32)), .val (.int (1 : Int32)), .val (.int x2), .val (.ref ob7), .val (.ref ob9), .val (.int (0 : Int32)), .val (.int (R4 ob9 x2 (0 : Int32) (1 : Int32) ob7 1 (own_upd (fun _ => 0) ((0 : Int32).toNatClampNeg) (nar .byte (x1.toInt8.toInt32))))), .unset]) rfl k) ?_
          show own_Out p e below _ T14 (mkF m 176 #[.val (.int x0), .val (.int x1), .val (.int x2), .val (.int (0 : Int32)), .val (.int (0 : Int32)), .val (.int (1 : Int32)), .val (.int x2), .val (.ref ob7), .val (.ref ob9), .val (.int (0 : Int32)), .val (.int (R4 ob9 x2 (0 : Int32) (1 : Int32) ob7 1 (own_upd (fun _ => 0) ((0 : Int32).toNatClampNeg) (nar .byte (x1.toInt8.toInt32))))), .unset] []) _ _ _
          refine own_to (fun t k => XS.aload X14.here hx rfl (hb hby at_176) rfl rfl k) ?_
          show own_Out p e below _ T14 (mkF m 178 #[.val (.int x0), .val (.int x1), .val (.int x2), .val (.int (0 : Int32)), .val (.int (0 : Int32)), .val (.int (1 : Int32)), .val (.int x2), .val (.ref ob7), .val (.ref ob9), .val (.int (0 : Int32)), .val (.int (R4 ob9 x2 (0 : Int32) (1 : Int32) ob7 1 (own_upd (fun _ => 0) ((0 : Int32).toNatClampNeg) (nar .byte (x1.toInt8.toInt32))))), .unset] [(.ref ob9)]) _ _ _
          refine own_to (fun t k => XS.iload X14.here hx rfl (hb hby at_178) rfl k) ?_
          show own_Out p e below _ T14 (mkF m 180 #[.val (.int x0), .val (.int x1), .val (.int x2), .val (.int (0 : Int32)), .val (.int (0 : Int32)), .val (.int (1 : Int32)), .val (.int x2), .val (.ref ob7), .val (.ref ob9), .val (.int (0 : Int32)), .val (.int (R4 ob9 x2 (0 : Int32) (1 : Int32) ob7 1 (own_upd (fun _ => 0) ((0 : Int32).toNatClampNeg) (nar .byte (x1.toInt8.toInt32))))), .unset] [(.int x2), (.ref ob9)]) _ _ _
          refine own_callV X14 hx hZ hown (a := ob9) (argsL := [(.int x2)]) (rest := []) (hw _ (List.mem_of_getElem? (i := 19) rfl)) (hw _ (List.mem_of_getElem? (i := 20) rfl)) (hw _ (List.mem_of_getElem? (i := 22) rfl)) (hw _ (List.mem_of_getElem? (i := 21) rfl)) (hw _ (List.mem_of_getElem? (i := 3) rfl)) (hw _ (List.mem_of_getElem? (i := 23) rfl)) (by decide) (rm4 l Z a0 hw ob9 x2 (0 : Int32) (1 : Int32) ob7 1 (own_upd (fun _ => 0) ((0 : Int32).toNatClampNeg) (nar .byte (x1.toInt8.toInt32))) hh10 n0 Z0 E_ob9 F_ob9_bytes F_ob9_position F_ob9_end A_ob7 (by decide)) (by decide) (by decide) e14 E_ob9 rfl (by rw [hml]; rfl) (lenOf pd_5 rfl) rfl (W := 0) (by show 2 * 0 + _ ≤ _; exact Nat.le_of_eq rfl) (hb hby at_180) (by decide) (by decide) fun v15 T15 hh15 L15 X15 e15 hQ15 => ?_
          obtain ⟨rfl, NL15, he15⟩ := hQ15
          replace e15 := e15.trans he15
          have N15 := Fr.app N14 NL15
          show own_Out p e below _ T15 (mkF m 183 #[.val (.int x0), .val (.int x1), .val (.int x2), .val (.int (0 : Int32)), .val (.int (0 : Int32)), .val (.int (1 : Int32)), .val (.int x2), .val (.ref ob7), .val (.ref ob9), .val (.int (0 : Int32)), .val (.int (R4 ob9 x2 (0 : Int32) (1 : Int32) ob7 1 (own_upd (fun _ => 0) ((0 : Int32).toNatClampNeg) (nar .byte (x1.toInt8.toInt32))))), .unset] [(.int (R4 ob9 x2 (0 : Int32) (1 : Int32) ob7 1 (own_upd (fun _ => 0) ((0 : Int32).toNatClampNeg) (nar .byte (x1.toInt8.toInt32)))))]) _ _ _
          refine own_to (fun t k => XS.istore X15.here hx rfl (hb hby at_183) rfl (l' := #[.val (.int x0), .val (.int x1), .val (.int x2), .val (.int (0 : Int32)), .val (.int (0 : Int32)), .val (.int (1 : Int32)), .val (.int x2), .val (.ref ob7), .val (.ref ob9), .val (.int (0 : Int32)), .val (.int (R4 ob9 x2 (0 : Int32) (1 : Int32) ob7 1 (own_upd (fun _ => 0) ((0 : Int32).toNatClampNeg) (nar .byte (x1.toInt8.toInt32))))), .val (.int (R4 ob9 x2 (0 : Int32) (1 : Int32) ob7 1 (own_upd (fun _ => 0) ((0 : Int32).toNatClampNeg) (nar .byte (x1.toInt8.toInt32)))))]) rfl k) ?_
          show own_Out p e below _ T15 (mkF m 185 #[.val (.int x0), .val (.int x1), .val (.int x2), .val (.int (0 : Int32)), .val (.int (0 : Int32)), .val (.int (1 : Int32)), .val (.int x2), .val (.ref ob7), .val (.ref ob9), .val (.int (0 : Int32)), .val (.int (R4 ob9 x2 (0 : Int32) (1 : Int32) ob7 1 (own_upd (fun _ => 0) ((0 : Int32).toNatClampNeg) (nar .byte (x1.toInt8.toInt32))))), .val (.int (R4 ob9 x2 (0 : Int32) (1 : Int32) ob7 1 (own_upd (fun _ => 0) ((0 : Int32).toNatClampNeg) (nar .byte (x1.toInt8.toInt32)))))] []) _ _ _
          refine own_to (fun t k => XS.iload X15.here hx rfl (hb hby at_185) rfl k) ?_
          show own_Out p e below _ T15 (mkF m 187 #[.val (.int x0), .val (.int x1), .val (.int x2), .val (.int (0 : Int32)), .val (.int (0 : Int32)), .val (.int (1 : Int32)), .val (.int x2), .val (.ref ob7), .val (.ref ob9), .val (.int (0 : Int32)), .val (.int (R4 ob9 x2 (0 : Int32) (1 : Int32) ob7 1 (own_upd (fun _ => 0) ((0 : Int32).toNatClampNeg) (nar .byte (x1.toInt8.toInt32))))), .val (.int (R4 ob9 x2 (0 : Int32) (1 : Int32) ob7 1 (own_upd (fun _ => 0) ((0 : Int32).toNatClampNeg) (nar .byte (x1.toInt8.toInt32)))))] [(.int (R4 ob9 x2 (0 : Int32) (1 : Int32) ob7 1 (own_upd (fun _ => 0) ((0 : Int32).toNatClampNeg) (nar .byte (x1.toInt8.toInt32)))))]) _ _ _
          refine own_to (fun t k => XS.iload X15.here hx rfl (hb hby at_187) rfl k) ?_
          show own_Out p e below _ T15 (mkF m 189 #[.val (.int x0), .val (.int x1), .val (.int x2), .val (.int (0 : Int32)), .val (.int (0 : Int32)), .val (.int (1 : Int32)), .val (.int x2), .val (.ref ob7), .val (.ref ob9), .val (.int (0 : Int32)), .val (.int (R4 ob9 x2 (0 : Int32) (1 : Int32) ob7 1 (own_upd (fun _ => 0) ((0 : Int32).toNatClampNeg) (nar .byte (x1.toInt8.toInt32))))), .val (.int (R4 ob9 x2 (0 : Int32) (1 : Int32) ob7 1 (own_upd (fun _ => 0) ((0 : Int32).toNatClampNeg) (nar .byte (x1.toInt8.toInt32)))))] [(.int (0 : Int32)), (.int (R4 ob9 x2 (0 : Int32) (1 : Int32) ob7 1 (own_upd (fun _ => 0) ((0 : Int32).toNatClampNeg) (nar .byte (x1.toInt8.toInt32)))))]) _ _ _
          have hc189 : (R4 ob9 x2 (0 : Int32) (1 : Int32) ob7 1 (own_upd (fun _ => 0) ((0 : Int32).toNatClampNeg) (nar .byte (x1.toInt8.toInt32)))) = (0 : Int32) := (own_ni _ _ _ _ _ _ _).2.2 (by decide) (fun q => hc157 (((congrArg (fun z => z &&& (255 : Int32)) (own_hit (by decide))).trans (own_by x1)).symm.trans q))
          refine own_to (fun t k => XS.icmpNo X15.here hx rfl (hb hby at_189) rfl (teq hc189).2 k) ?_
          show own_Out p e below _ T15 (mkF m 192 #[.val (.int x0), .val (.int x1), .val (.int x2), .val (.int (0 : Int32)), .val (.int (0 : Int32)), .val (.int (1 : Int32)), .val (.int x2), .val (.ref ob7), .val (.ref ob9), .val (.int (0 : Int32)), .val (.int (R4 ob9 x2 (0 : Int32) (1 : Int32) ob7 1 (own_upd (fun _ => 0) ((0 : Int32).toNatClampNeg) (nar .byte (x1.toInt8.toInt32))))), .val (.int (R4 ob9 x2 (0 : Int32) (1 : Int32) ob7 1 (own_upd (fun _ => 0) ((0 : Int32).toNatClampNeg) (nar .byte (x1.toInt8.toInt32)))))] []) _ _ _
          refine own_to (fun t k => XS.iload X15.here hx rfl (hb hby at_192) rfl k) ?_
          show own_Out p e below _ T15 (mkF m 194 #[.val (.int x0), .val (.int x1), .val (.int x2), .val (.int (0 : Int32)), .val (.int (0 : Int32)), .val (.int (1 : Int32)), .val (.int x2), .val (.ref ob7), .val (.ref ob9), .val (.int (0 : Int32)), .val (.int (R4 ob9 x2 (0 : Int32) (1 : Int32) ob7 1 (own_upd (fun _ => 0) ((0 : Int32).toNatClampNeg) (nar .byte (x1.toInt8.toInt32))))), .val (.int (R4 ob9 x2 (0 : Int32) (1 : Int32) ob7 1 (own_upd (fun _ => 0) ((0 : Int32).toNatClampNeg) (nar .byte (x1.toInt8.toInt32)))))] [(.int (R4 ob9 x2 (0 : Int32) (1 : Int32) ob7 1 (own_upd (fun _ => 0) ((0 : Int32).toNatClampNeg) (nar .byte (x1.toInt8.toInt32)))))]) _ _ _
          refine own_to (fun t k => XS.iload X15.here hx rfl (hb hby at_194) rfl k) ?_
          show own_Out p e below _ T15 (mkF m 196 #[.val (.int x0), .val (.int x1), .val (.int x2), .val (.int (0 : Int32)), .val (.int (0 : Int32)), .val (.int (1 : Int32)), .val (.int x2), .val (.ref ob7), .val (.ref ob9), .val (.int (0 : Int32)), .val (.int (R4 ob9 x2 (0 : Int32) (1 : Int32) ob7 1 (own_upd (fun _ => 0) ((0 : Int32).toNatClampNeg) (nar .byte (x1.toInt8.toInt32))))), .val (.int (R4 ob9 x2 (0 : Int32) (1 : Int32) ob7 1 (own_upd (fun _ => 0) ((0 : Int32).toNatClampNeg) (nar .byte (x1.toInt8.toInt32)))))] [(.int (0 : Int32)), (.int (R4 ob9 x2 (0 : Int32) (1 : Int32) ob7 1 (own_upd (fun _ => 0) ((0 : Int32).toNatClampNeg) (nar .byte (x1.toInt8.toInt32)))))]) _ _ _
          have hc196 : (R4 ob9 x2 (0 : Int32) (1 : Int32) ob7 1 (own_upd (fun _ => 0) ((0 : Int32).toNatClampNeg) (nar .byte (x1.toInt8.toInt32)))) = (0 : Int32) := (own_ni _ _ _ _ _ _ _).2.2 (by decide) (fun q => hc157 (((congrArg (fun z => z &&& (255 : Int32)) (own_hit (by decide))).trans (own_by x1)).symm.trans q))
          refine own_to (fun t k => XS.icmpNo X15.here hx rfl (hb hby at_196) rfl (teq hc196).2 k) ?_
          show own_Out p e below _ T15 (mkF m 199 #[.val (.int x0), .val (.int x1), .val (.int x2), .val (.int (0 : Int32)), .val (.int (0 : Int32)), .val (.int (1 : Int32)), .val (.int x2), .val (.ref ob7), .val (.ref ob9), .val (.int (0 : Int32)), .val (.int (R4 ob9 x2 (0 : Int32) (1 : Int32) ob7 1 (own_upd (fun _ => 0) ((0 : Int32).toNatClampNeg) (nar .byte (x1.toInt8.toInt32))))), .val (.int (R4 ob9 x2 (0 : Int32) (1 : Int32) ob7 1 (own_upd (fun _ => 0) ((0 : Int32).toNatClampNeg) (nar .byte (x1.toInt8.toInt32)))))] []) _ _ _
          refine own_to (fun t k => XS.aload X15.here hx rfl (hb hby at_199) rfl rfl k) ?_
          show own_Out p e below _ T15 (mkF m 201 #[.val (.int x0), .val (.int x1), .val (.int x2), .val (.int (0 : Int32)), .val (.int (0 : Int32)), .val (.int (1 : Int32)), .val (.int x2), .val (.ref ob7), .val (.ref ob9), .val (.int (0 : Int32)), .val (.int (R4 ob9 x2 (0 : Int32) (1 : Int32) ob7 1 (own_upd (fun _ => 0) ((0 : Int32).toNatClampNeg) (nar .byte (x1.toInt8.toInt32))))), .val (.int (R4 ob9 x2 (0 : Int32) (1 : Int32) ob7 1 (own_upd (fun _ => 0) ((0 : Int32).toNatClampNeg) (nar .byte (x1.toInt8.toInt32)))))] [(.ref ob9)]) _ _ _
          refine own_callV X15 hx hZ hown (a := ob9) (argsL := []) (rest := []) (hw _ (List.mem_of_getElem? (i := 29) rfl)) (hw _ (List.mem_of_getElem? (i := 25) rfl)) (hw _ (List.mem_of_getElem? (i := 27) rfl)) (hw _ (List.mem_of_getElem? (i := 26) rfl)) (hw _ (List.mem_of_getElem? (i := 3) rfl)) (hw _ (List.mem_of_getElem? (i := 28) rfl)) (by decide) (rm5 l Z a0 hw ob9 (0 : Int32) (1 : Int32) hh10 n0 Z0 F_ob9_position F_ob9_end) (by decide) (by decide) e15 E_ob9 rfl (by rw [hml]; rfl) (lenOf pd_1 rfl) rfl (W := 0) (by show 2 * 0 + _ ≤ _; exact Nat.le_of_eq rfl) (hb hby at_201) (by decide) (by decide) fun v16 T16 hh16 L16 X16 e16 hQ16 => ?_
          obtain ⟨rfl, NL16, he16⟩ := hQ16
          replace e16 := e16.trans he16
          have N16 := Fr.app N15 NL16
          show own_Out p e below _ T16 (mkF m 204 #[.val (.int x0), .val (.int x1), .val (.int x2), .val (.int (0 : Int32)), .val (.int (0 : Int32)), .val (.int (1 : Int32)), .val (.int x2), .val (.ref ob7), .val (.ref ob9), .val (.int (0 : Int32)), .val (.int (R4 ob9 x2 (0 : Int32) (1 : Int32) ob7 1 (own_upd (fun _ => 0) ((0 : Int32).toNatClampNeg) (nar .byte (x1.toInt8.toInt32))))), .val (.int (R4 ob9 x2 (0 : Int32) (1 : Int32) ob7 1 (own_upd (fun _ => 0) ((0 : Int32).toNatClampNeg) (nar .byte (x1.toInt8.toInt32)))))] [(.int (R5 ob9 (0 : Int32) (1 : Int32)))]) _ _ _
          refine own_to (fun t k => XS.iload X16.here hx rfl (hb hby at_204) rfl k) ?_
          show own_Out p e below _ T16 (mkF m 206 #[.val (.int x0), .val (.int x1), .val (.int x2), .val (.int (0 : Int32)), .val (.int (0 : Int32)), .val (.int (1 : Int32)), .val (.int x2), .val (.ref ob7), .val (.ref ob9), .val (.int (0 : Int32)), .val (.int (R4 ob9 x2 (0 : Int32) (1 : Int32) ob7 1 (own_upd (fun _ => 0) ((0 : Int32).toNatClampNeg) (nar .byte (x1.toInt8.toInt32))))), .val (.int (R4 ob9 x2 (0 : Int32) (1 : Int32) ob7 1 (own_upd (fun _ => 0) ((0 : Int32).toNatClampNeg) (nar .byte (x1.toInt8.toInt32)))))] [(.int (1 : Int32)), (.int (R5 ob9 (0 : Int32) (1 : Int32)))]) _ _ _
          have hc206 : (R5 ob9 (0 : Int32) (1 : Int32)) = (1 : Int32) := own_hn1 _ _ _ (by decide)
          refine own_to (fun t k => XS.icmpNo X16.here hx rfl (hb hby at_206) rfl (teq hc206).2 k) ?_
          show own_Out p e below _ T16 (mkF m 209 #[.val (.int x0), .val (.int x1), .val (.int x2), .val (.int (0 : Int32)), .val (.int (0 : Int32)), .val (.int (1 : Int32)), .val (.int x2), .val (.ref ob7), .val (.ref ob9), .val (.int (0 : Int32)), .val (.int (R4 ob9 x2 (0 : Int32) (1 : Int32) ob7 1 (own_upd (fun _ => 0) ((0 : Int32).toNatClampNeg) (nar .byte (x1.toInt8.toInt32))))), .val (.int (R4 ob9 x2 (0 : Int32) (1 : Int32) ob7 1 (own_upd (fun _ => 0) ((0 : Int32).toNatClampNeg) (nar .byte (x1.toInt8.toInt32)))))] []) _ _ _
          refine own_to (fun t k => XS.iconst X16.here hx rfl (hb hby at_209) k) ?_
          show own_Out p e below _ T16 (mkF m 210 #[.val (.int x0), .val (.int x1), .val (.int x2), .val (.int (0 : Int32)), .val (.int (0 : Int32)), .val (.int (1 : Int32)), .val (.int x2), .val (.ref ob7), .val (.ref ob9), .val (.int (0 : Int32)), .val (.int (R4 ob9 x2 (0 : Int32) (1 : Int32) ob7 1 (own_upd (fun _ => 0) ((0 : Int32).toNatClampNeg) (nar .byte (x1.toInt8.toInt32))))), .val (.int (R4 ob9 x2 (0 : Int32) (1 : Int32) ob7 1 (own_upd (fun _ => 0) ((0 : Int32).toNatClampNeg) (nar .byte (x1.toInt8.toInt32)))))] [(.int (1 : Int32))]) _ _ _
          refine own_to (fun t k => XS.goto X16.here hx rfl (pc0 := 210) (pc' := 214) rfl (hb hby at_210) (by decide) (by decide) k) ?_
          show own_Out p e below _ T16 (mkF m 214 #[.val (.int x0), .val (.int x1), .val (.int x2), .val (.int (0 : Int32)), .val (.int (0 : Int32)), .val (.int (1 : Int32)), .val (.int x2), .val (.ref ob7), .val (.ref ob9), .val (.int (0 : Int32)), .val (.int (R4 ob9 x2 (0 : Int32) (1 : Int32) ob7 1 (own_upd (fun _ => 0) ((0 : Int32).toNatClampNeg) (nar .byte (x1.toInt8.toInt32))))), .val (.int (R4 ob9 x2 (0 : Int32) (1 : Int32) ob7 1 (own_upd (fun _ => 0) ((0 : Int32).toNatClampNeg) (nar .byte (x1.toInt8.toInt32)))))] [(.int (1 : Int32))]) _ _ _
          refine own_retVW X16 hS hk e16 hx hlk (w := .int (1 : Int32)) hret rfl (Or.inl ⟨rfl, by simp, _, rfl⟩) (hb hby at_214) (by decide) (by decide) ?_
          rw [e16]
          exact ⟨rfl, N16⟩
    · refine own_to (fun t k => XS.ifNo X0.here hx rfl (hb hby at_15) rfl ((if0 _ _).trans (feq hc15).1) k) ?_
      show own_Out p e below _ s₁ (mkF m 18 #[.val (.int x0), .val (.int x1), .val (.int x2), .val (.int (0 : Int32)), .unset, .unset, .unset, .unset, .unset, .unset, .unset, .unset] []) _ _ _
      refine own_to (fun t k => XS.iconst X0.here hx rfl (hb hby at_18) k) ?_
      show own_Out p e below _ s₁ (mkF m 19 #[.val (.int x0), .val (.int x1), .val (.int x2), .val (.int (0 : Int32)), .unset, .unset, .unset, .unset, .unset, .unset, .unset, .unset] [(.int (1 : Int32))]) _ _ _
      refine own_to (fun t k => XS.goto X0.here hx rfl (pc0 := 19) (pc' := 23) rfl (hb hby at_19) (by decide) (by decide) k) ?_
      show own_Out p e below _ s₁ (mkF m 23 #[.val (.int x0), .val (.int x1), .val (.int x2), .val (.int (0 : Int32)), .unset, .unset, .unset, .unset, .unset, .unset, .unset, .unset] [(.int (1 : Int32))]) _ _ _
      refine own_to (fun t k => XS.istore X0.here hx rfl (hb hby at_23) rfl (l' := #[.val (.int x0), .val (.int x1), .val (.int x2), .val (.int (0 : Int32)), .val (.int (1 : Int32)), .unset, .unset, .unset, .unset, .unset, .unset, .unset]) rfl k) ?_
      show own_Out p e below _ s₁ (mkF m 25 #[.val (.int x0), .val (.int x1), .val (.int x2), .val (.int (0 : Int32)), .val (.int (1 : Int32)), .unset, .unset, .unset, .unset, .unset, .unset, .unset] []) _ _ _
      refine own_to (fun t k => XS.iloadN X0.here hx rfl (hb hby at_25) rfl k) ?_
      show own_Out p e below _ s₁ (mkF m 26 #[.val (.int x0), .val (.int x1), .val (.int x2), .val (.int (0 : Int32)), .val (.int (1 : Int32)), .unset, .unset, .unset, .unset, .unset, .unset, .unset] [(.int x0)]) _ _ _
      refine own_to (fun t k => XS.iconst X0.here hx rfl (hb hby at_26) k) ?_
      show own_Out p e below _ s₁ (mkF m 27 #[.val (.int x0), .val (.int x1), .val (.int x2), .val (.int (0 : Int32)), .val (.int (1 : Int32)), .unset, .unset, .unset, .unset, .unset, .unset, .unset] [(.int (4 : Int32)), (.int x0)]) _ _ _
      refine own_to (fun t k => XS.iand X0.here hx rfl (hb hby at_27) rfl k) ?_
      show own_Out p e below _ s₁ (mkF m 28 #[.val (.int x0), .val (.int x1), .val (.int x2), .val (.int (0 : Int32)), .val (.int (1 : Int32)), .unset, .unset, .unset, .unset, .unset, .unset, .unset] [(.int (x0 &&& (4 : Int32)))]) _ _ _
      by_cases hc28 : (x0 &&& (4 : Int32)) = (0 : Int32)
      · refine own_to (fun t k => XS.ifYes X0.here hx rfl (pc0 := 28) (pc' := 35) rfl (hb hby at_28) rfl ((if0 _ _).trans (teq hc28).1) (by decide) (by decide) k) ?_
        show own_Out p e below _ s₁ (mkF m 35 #[.val (.int x0), .val (.int x1), .val (.int x2), .val (.int (0 : Int32)), .val (.int (1 : Int32)), .unset, .unset, .unset, .unset, .unset, .unset, .unset] []) _ _ _
        refine own_to (fun t k => XS.iconst X0.here hx rfl (hb hby at_35) k) ?_
        show own_Out p e below _ s₁ (mkF m 36 #[.val (.int x0), .val (.int x1), .val (.int x2), .val (.int (0 : Int32)), .val (.int (1 : Int32)), .unset, .unset, .unset, .unset, .unset, .unset, .unset] [(.int (0 : Int32))]) _ _ _
        refine own_to (fun t k => XS.istore X0.here hx rfl (hb hby at_36) rfl (l' := #[.val (.int x0), .val (.int x1), .val (.int x2), .val (.int (0 : Int32)), .val (.int (1 : Int32)), .val (.int (0 : Int32)), .unset, .unset, .unset, .unset, .unset, .unset]) rfl k) ?_
        show own_Out p e below _ s₁ (mkF m 38 #[.val (.int x0), .val (.int x1), .val (.int x2), .val (.int (0 : Int32)), .val (.int (1 : Int32)), .val (.int (0 : Int32)), .unset, .unset, .unset, .unset, .unset, .unset] []) _ _ _
        refine own_to (fun t k => XS.iloadN X0.here hx rfl (hb hby at_38) rfl k) ?_
        show own_Out p e below _ s₁ (mkF m 39 #[.val (.int x0), .val (.int x1), .val (.int x2), .val (.int (0 : Int32)), .val (.int (1 : Int32)), .val (.int (0 : Int32)), .unset, .unset, .unset, .unset, .unset, .unset] [(.int (0 : Int32))]) _ _ _
        have hc39 : (0 : Int32) = (0 : Int32) := by decide
        refine own_to (fun t k => XS.ifYes X0.here hx rfl (pc0 := 39) (pc' := 50) rfl (hb hby at_39) rfl ((if0 _ _).trans (teq hc39).1) (by decide) (by decide) k) ?_
        show own_Out p e below _ s₁ (mkF m 50 #[.val (.int x0), .val (.int x1), .val (.int x2), .val (.int (0 : Int32)), .val (.int (1 : Int32)), .val (.int (0 : Int32)), .unset, .unset, .unset, .unset, .unset, .unset] []) _ _ _
        refine own_to (fun t k => XS.iloadN X0.here hx rfl (hb hby at_50) rfl k) ?_
        show own_Out p e below _ s₁ (mkF m 51 #[.val (.int x0), .val (.int x1), .val (.int x2), .val (.int (0 : Int32)), .val (.int (1 : Int32)), .val (.int (0 : Int32)), .unset, .unset, .unset, .unset, .unset, .unset] [(.int x2)]) _ _ _
        refine own_to (fun t k => XS.istore X0.here hx rfl (hb hby at_51) rfl (l' := #[.val (.int x0), .val (.int x1), .val (.int x2), .val (.int (0 : Int32)), .val (.int (1 : Int32)), .val (.int (0 : Int32)), .val (.int x2), .unset, .unset, .unset, .unset, .unset]) rfl k) ?_
        show own_Out p e below _ s₁ (mkF m 53 #[.val (.int x0), .val (.int x1), .val (.int x2), .val (.int (0 : Int32)), .val (.int (1 : Int32)), .val (.int (0 : Int32)), .val (.int x2), .unset, .unset, .unset, .unset, .unset] []) _ _ _
        refine own_to (fun t k => XS.iload X0.here hx rfl (hb hby at_53) rfl k) ?_
        show own_Out p e below _ s₁ (mkF m 55 #[.val (.int x0), .val (.int x1), .val (.int x2), .val (.int (0 : Int32)), .val (.int (1 : Int32)), .val (.int (0 : Int32)), .val (.int x2), .unset, .unset, .unset, .unset, .unset] [(.int (1 : Int32))]) _ _ _
        have hc55 : ¬ ((1 : Int32) = (0 : Int32)) := by decide
        refine own_to (fun t k => XS.ifNo X0.here hx rfl (hb hby at_55) rfl ((if0 _ _).trans (feq hc55).1) k) ?_
        show own_Out p e below _ s₁ (mkF m 58 #[.val (.int x0), .val (.int x1), .val (.int x2), .val (.int (0 : Int32)), .val (.int (1 : Int32)), .val (.int (0 : Int32)), .val (.int x2), .unset, .unset, .unset, .unset, .unset] []) _ _ _
        refine own_to (fun t k => XS.iload X0.here hx rfl (hb hby at_58) rfl k) ?_
        show own_Out p e below _ s₁ (mkF m 60 #[.val (.int x0), .val (.int x1), .val (.int x2), .val (.int (0 : Int32)), .val (.int (1 : Int32)), .val (.int (0 : Int32)), .val (.int x2), .unset, .unset, .unset, .unset, .unset] [(.int (0 : Int32))]) _ _ _
        have hc60 : (0 : Int32) = (0 : Int32) := by decide
        refine own_to (fun t k => XS.ifYes X0.here hx rfl (pc0 := 60) (pc' := 84) rfl (hb hby at_60) rfl ((if0 _ _).trans (teq hc60).1) (by decide) (by decide) k) ?_
        show own_Out p e below _ s₁ (mkF m 84 #[.val (.int x0), .val (.int x1), .val (.int x2), .val (.int (0 : Int32)), .val (.int (1 : Int32)), .val (.int (0 : Int32)), .val (.int x2), .unset, .unset, .unset, .unset, .unset] []) _ _ _
        refine own_to (fun t k => XS.iconst X0.here hx rfl (hb hby at_84) k) ?_
        show own_Out p e below _ s₁ (mkF m 85 #[.val (.int x0), .val (.int x1), .val (.int x2), .val (.int (0 : Int32)), .val (.int (1 : Int32)), .val (.int (0 : Int32)), .val (.int x2), .unset, .unset, .unset, .unset, .unset] [(.int (2 : Int32))]) _ _ _
        refine own_newA X0 hx hZ (hw _ (List.mem_of_getElem? (i := 0) rfl)) rfl e0 rfl (hb hby at_85) rfl (by decide) (cap := 2) (by decide) (by decide) (by decide) (by decide) fun T17 hh17 ob17 gb17 X17 e17 E17 A17 => ?_
        have g_ob17 : n0 ≤ ob17 := Nat.le_trans Z0 (Nat.le_of_eq gb17.symm)
        have Z0 := Nat.le_trans Z0 E17.1
        have hk := Nat.le_trans hk E17.1
        have A_ob17 : own_A Z hh17 ob17 .byte 2 (fun _ => 0) := A17
        show own_Out p e below _ T17 (mkF m 87 #[.val (.int x0), .val (.int x1), .val (.int x2), .val (.int (0 : Int32)), .val (.int (1 : Int32)), .val (.int (0 : Int32)), .val (.int x2), .unset, .unset, .unset, .unset, .unset] [(.ref ob17)]) _ _ _
        refine own_to (fun t k => XS.dup X17.here hx rfl (hb hby at_87) rfl rfl k) ?_
        show own_Out p e below _ T17 (mkF m 88 #[.val (.int x0), .val (.int x1), .val (.int x2), .val (.int (0 : Int32)), .val (.int (1 : Int32)), .val (.int (0 : Int32)), .val (.int x2), .unset, .unset, .unset, .unset, .unset] [(.ref ob17), (.ref ob17)]) _ _ _
        refine own_to (fun t k => XS.iconst X17.here hx rfl (hb hby at_88) k) ?_
        show own_Out p e below _ T17 (mkF m 89 #[.val (.int x0), .val (.int x1), .val (.int x2), .val (.int (0 : Int32)), .val (.int (1 : Int32)), .val (.int (0 : Int32)), .val (.int x2), .unset, .unset, .unset, .unset, .unset] [(.int (0 : Int32)), (.ref ob17), (.ref ob17)]) _ _ _
        refine own_to (fun t k => XS.iconst X17.here hx rfl (hb hby at_89) k) ?_
        show own_Out p e below _ T17 (mkF m 90 #[.val (.int x0), .val (.int x1), .val (.int x2), .val (.int (0 : Int32)), .val (.int (1 : Int32)), .val (.int (0 : Int32)), .val (.int x2), .unset, .unset, .unset, .unset, .unset] [(.int (5 : Int32)), (.int (0 : Int32)), (.ref ob17), (.ref ob17)]) _ _ _
        refine own_stB X17 hx hZ e17 A_ob17 (by decide) (by decide) rfl rfl (hb hby at_90) fun T18 hh18 X18 e18 W18 A18 => ?_
        have A_ob17 := A18
        have Z0 := Nat.le_trans Z0 (Nat.le_of_eq W18.size.symm)
        have hk := Nat.le_trans hk (Nat.le_of_eq W18.size.symm)
        have N18 := own_fs (sl := Int32.toNatClampNeg (0 : Int32)) N0 g_ob17
        show own_Out p e below _ T18 (mkF m 91 #[.val (.int x0), .val (.int x1), .val (.int x2), .val (.int (0 : Int32)), .val (.int (1 : Int32)), .val (.int (0 : Int32)), .val (.int x2), .unset, .unset, .unset, .unset, .unset] [(.ref ob17)]) _ _ _
        refine own_to (fun t k => XS.dup X18.here hx rfl (hb hby at_91) rfl rfl k) ?_
        show own_Out p e below _ T18 (mkF m 92 #[.val (.int x0), .val (.int x1), .val (.int x2), .val (.int (0 : Int32)), .val (.int (1 : Int32)), .val (.int (0 : Int32)), .val (.int x2), .unset, .unset, .unset, .unset, .unset] [(.ref ob17), (.ref ob17)]) _ _ _
        refine own_to (fun t k => XS.iconst X18.here hx rfl (hb hby at_92) k) ?_
        show own_Out p e below _ T18 (mkF m 93 #[.val (.int x0), .val (.int x1), .val (.int x2), .val (.int (0 : Int32)), .val (.int (1 : Int32)), .val (.int (0 : Int32)), .val (.int x2), .unset, .unset, .unset, .unset, .unset] [(.int (1 : Int32)), (.ref ob17), (.ref ob17)]) _ _ _
        refine own_to (fun t k => XS.iconst X18.here hx rfl (hb hby at_93) k) ?_
        show own_Out p e below _ T18 (mkF m 94 #[.val (.int x0), .val (.int x1), .val (.int x2), .val (.int (0 : Int32)), .val (.int (1 : Int32)), .val (.int (0 : Int32)), .val (.int x2), .unset, .unset, .unset, .unset, .unset] [(.int (0 : Int32)), (.int (1 : Int32)), (.ref ob17), (.ref ob17)]) _ _ _
        refine own_stB X18 hx hZ e18 A_ob17 (by decide) (by decide) rfl rfl (hb hby at_94) fun T19 hh19 X19 e19 W19 A19 => ?_
        have A_ob17 := A19
        have Z0 := Nat.le_trans Z0 (Nat.le_of_eq W19.size.symm)
        have hk := Nat.le_trans hk (Nat.le_of_eq W19.size.symm)
        have N19 := own_fs (sl := Int32.toNatClampNeg (1 : Int32)) N18 g_ob17
        show own_Out p e below _ T19 (mkF m 95 #[.val (.int x0), .val (.int x1), .val (.int x2), .val (.int (0 : Int32)), .val (.int (1 : Int32)), .val (.int (0 : Int32)), .val (.int x2), .unset, .unset, .unset, .unset, .unset] [(.ref ob17)]) _ _ _
        refine own_to (fun t k => XS.astore X19.here hx rfl (hb hby at_95) rfl rfl (l' := #[.val (.int x0), .val (.int x1), .val (.int x2), .val (.int (0 : Int32)), .val (.int (1 : Int32)), .val (.int (0 : Int32)), .val (.int x2), .val (.ref ob17), .unset, .unset, .unset, .unset]) rfl k) ?_
        show own_Out p e below _ T19 (mkF m 97 #[.val (.int x0), .val (.int x1), .val (.int x2), .val (.int (0 : Int32)), .val (.int (1 : Int32)), .val (.int (0 : Int32)), .val (.int x2), .val (.ref ob17), .unset, .unset, .unset, .unset] []) _ _ _
        refine own_to (fun t k => XS.goto X19.here hx rfl (pc0 := 97) (pc' := 123) rfl (hb hby at_97) (by decide) (by decide) k) ?_
        show own_Out p e below _ T19 (mkF m 123 #[.val (.int x0), .val (.int x1), .val (.int x2), .val (.int (0 : Int32)), .val (.int (1 : Int32)), .val (.int (0 : Int32)), .val (.int x2), .val (.ref ob17), .unset, .unset, .unset, .unset] []) _ _ _
        refine own_new X19 hx hZ hown (hw _ (List.mem_of_getElem? (i := 1) rfl)) (hw _ (List.mem_of_getElem? (i := 2) rfl)) (hw _ (List.mem_of_getElem? (i := 3) rfl)) e19 rfl (hb hby at_123) (by decide) (by decide) fun T20 hh20 ob20 gb20 X20 e20 E20 A20 D20 => ?_
        have ne_ob17_ob20 : ob17 ≠ ob20 := Nat.ne_of_lt (Nat.lt_of_lt_of_le A_ob17.lt (Nat.le_of_eq gb20.symm))
        have ne_ob20_ob17 := Ne.symm ne_ob17_ob20
        have g_ob20 : n0 ≤ ob20 := Nat.le_trans Z0 (Nat.le_of_eq gb20.symm)
        have A_ob17 := A_ob17.ext E20
        have Z0 := Nat.le_trans Z0 E20.1
        have hk := Nat.le_trans hk E20.1
        have E_ob20 := A20
        have F_ob20_bytes : Fld Z hh20 ob20 "com/example/pathwarden/pathwarden/util/DerReader" "bytes" "[B" .null := D20 (Or.inr (hw _ (List.mem_of_getElem? (i := 14) rfl))) (ty := (.array .byte)) (by decide)
        have F_ob20_position : Fld Z hh20 ob20 "com/example/pathwarden/pathwarden/util/DerReader" "position" "I" (.int (0 : Int32)) := D20 (Or.inl (hw _ (List.mem_of_getElem? (i := 16) rfl))) (ty := .int) (by decide)
        have F_ob20_end : Fld Z hh20 ob20 "com/example/pathwarden/pathwarden/util/DerReader" "end" "I" (.int (0 : Int32)) := D20 (Or.inr (hw _ (List.mem_of_getElem? (i := 18) rfl))) (ty := .int) (by decide)
        show own_Out p e below _ T20 (mkF m 126 #[.val (.int x0), .val (.int x1), .val (.int x2), .val (.int (0 : Int32)), .val (.int (1 : Int32)), .val (.int (0 : Int32)), .val (.int x2), .val (.ref ob17), .unset, .unset, .unset, .unset] [(.ref ob20)]) _ _ _
        refine own_to (fun t k => XS.dup X20.here hx rfl (hb hby at_126) rfl rfl k) ?_
        show own_Out p e below _ T20 (mkF m 127 #[.val (.int x0), .val (.int x1), .val (.int x2), .val (.int (0 : Int32)), .val (.int (1 : Int32)), .val (.int (0 : Int32)), .val (.int x2), .val (.ref ob17), .unset, .unset, .unset, .unset] [(.ref ob20), (.ref ob20)]) _ _ _
        refine own_to (fun t k => XS.aload X20.here hx rfl (hb hby at_127) rfl rfl k) ?_
        show own_Out p e below _ T20 (mkF m 129 #[.val (.int x0), .val (.int x1), .val (.int x2), .val (.int (0 : Int32)), .val (.int (1 : Int32)), .val (.int (0 : Int32)), .val (.int x2), .val (.ref ob17), .unset, .unset, .unset, .unset] [(.ref ob17), (.ref ob20), (.ref ob20)]) _ _ _
        refine own_callC X20 hx hZ hown (a := ob20) (argsL := [(.ref ob17)]) (rest := [(.ref ob20)]) rfl (hw _ (List.mem_of_getElem? (i := 4) rfl)) (hw _ (List.mem_of_getElem? (i := 5) rfl)) (hw _ (List.mem_of_getElem? (i := 3) rfl)) (hw _ (List.mem_of_getElem? (i := 6) rfl)) (by decide) (rm1 l Z a0 hw ob20 ob17 2 (own_upd (own_upd (fun _ => 0) ((0 : Int32).toNatClampNeg) (nar .byte (5 : Int32))) ((1 : Int32).toNatClampNeg) (nar .byte (0 : Int32))) hh20 n0 Z0 E_ob20 F_ob20_bytes F_ob20_position F_ob20_end g_ob20 A_ob17 ne_ob17_ob20) (by decide) (by decide) e20 rfl (by rw [hml]; rfl) (lenOf pd_4 rfl) rfl (W := 1) (by show 2 * 0 + _ ≤ _; exact Nat.le_of_eq rfl) (hb hby at_129) (by decide) (by decide) fun v21 T21 hh21 L21 X21 e21 hQ21 => ?_
        obtain ⟨rfl, NL21, KK21, P21_0, P21_1, P21_2⟩ := hQ21
        have A_ob17 := A_ob17.keep KK21 (by simp [ne_ob17_ob20])
        have E_ob20 := E_ob20.keep KK21
        have F_ob20_bytes := P21_0
        have F_ob20_position := P21_1
        have F_ob20_end := P21_2
        have Z0 := Nat.le_trans Z0 KK21.1
        have hk := Nat.le_trans hk KK21.1
        have N21 := Fr.app N19 NL21
        show own_Out p e below _ T21 (mkF m 132 #[.val (.int x0), .val (.int x1), .val (.int x2), .val (.int (0 : Int32)), .val (.int (1 : Int32)), .val (.int (0 : Int32)), .val (.int x2), .val (.ref ob17), .unset, .unset, .unset, .unset] [(.ref ob20)]) _ _ _
        rw [show (Nat.toInt32 2) = (2 : Int32) from by decide] at F_ob20_end
        refine own_to (fun t k => XS.astore X21.here hx rfl (hb hby at_132) rfl rfl (l' := #[.val (.int x0), .val (.int x1), .val (.int x2), .val (.int (0 : Int32)), .val (.int (1 : Int32)), .val (.int (0 : Int32)), .val (.int x2), .val (.ref ob17), .val (.ref ob20), .unset, .unset, .unset]) rfl k) ?_
        show own_Out p e below _ T21 (mkF m 134 #[.val (.int x0), .val (.int x1), .val (.int x2), .val (.int (0 : Int32)), .val (.int (1 : Int32)), .val (.int (0 : Int32)), .val (.int x2), .val (.ref ob17), .val (.ref ob20), .unset, .unset, .unset] []) _ _ _
        refine own_to (fun t k => XS.iload X21.here hx rfl (hb hby at_134) rfl k) ?_
        show own_Out p e below _ T21 (mkF m 136 #[.val (.int x0), .val (.int x1), .val (.int x2), .val (.int (0 : Int32)), .val (.int (1 : Int32)), .val (.int (0 : Int32)), .val (.int x2), .val (.ref ob17), .val (.ref ob20), .unset, .unset, .unset] [(.int (1 : Int32))]) _ _ _
        have hc136 : ¬ ((1 : Int32) = (0 : Int32)) := by decide
        refine own_to (fun t k => XS.ifNo X21.here hx rfl (hb hby at_136) rfl ((if0 _ _).trans (feq hc136).1) k) ?_
        show own_Out p e below _ T21 (mkF m 139 #[.val (.int x0), .val (.int x1), .val (.int x2), .val (.int (0 : Int32)), .val (.int (1 : Int32)), .val (.int (0 : Int32)), .val (.int x2), .val (.ref ob17), .val (.ref ob20), .unset, .unset, .unset] []) _ _ _
        refine own_to (fun t k => XS.aload X21.here hx rfl (hb hby at_139) rfl rfl k) ?_
        show own_Out p e below _ T21 (mkF m 141 #[.val (.int x0), .val (.int x1), .val (.int x2), .val (.int (0 : Int32)), .val (.int (1 : Int32)), .val (.int (0 : Int32)), .val (.int x2), .val (.ref ob17), .val (.ref ob20), .unset, .unset, .unset] [(.ref ob20)]) _ _ _
        refine own_callVW X21 hx hZ hown hS hk (a := ob20) (argsL := []) (rest := []) (hw _ (List.mem_of_getElem? (i := 30) rfl)) (hw _ (List.mem_of_getElem? (i := 31) rfl)) (hw _ (List.mem_of_getElem? (i := 33) rfl)) (hw _ (List.mem_of_getElem? (i := 32) rfl)) (hw _ (List.mem_of_getElem? (i := 3) rfl)) (hw _ (List.mem_of_getElem? (i := 34) rfl)) (by decide) (rm6 l Z a0 hw ob20 (0 : Int32) (2 : Int32) ob17 2 (own_upd (own_upd (fun _ => 0) ((0 : Int32).toNatClampNeg) (nar .byte (5 : Int32))) ((1 : Int32).toNatClampNeg) (nar .byte (0 : Int32))) (5 : Int32) (0 : Int32) hh21 n0 Z0 E_ob20 F_ob20_bytes F_ob20_position F_ob20_end A_ob17 g_ob20 ne_ob17_ob20 (by decide) (by decide) ((show (5 : Int32) = ((nar .byte (5 : Int32)) &&& (255 : Int32)) from by decide).trans (congrArg (fun z => z &&& (255 : Int32)) ((own_miss (by decide)).trans (own_hit (by decide)))).symm) (by decide) (by decide) ((show (0 : Int32) = ((nar .byte (0 : Int32)) &&& (255 : Int32)) from by decide).trans (congrArg (fun z => z &&& (255 : Int32)) (own_hit (by decide))).symm) (by decide) (by decide) (by decide)) (by decide) (by decide) e21 E_ob20 rfl (by rw [hml]; rfl) (lenOf pd_6 rfl) rfl (W := 0) (by show 2 * 0 + _ ≤ _; exact Nat.le_of_eq rfl) (hb hby at_141) (by decide) (by decide) fun v22 T22 hh22 L22 X22 e22 hQ22 hZ hown hS => ?_
        obtain ⟨NL22, KK22, ob22el, rfl, szc_ob22el, P22_0, P22_1, P22_2, P22_3, P22_4, P22_5, P22_6, P22_7, P22_8⟩ := hQ22
        have ne_ob17_ob22el : ob17 ≠ ob22el := Nat.ne_of_lt (Nat.lt_of_lt_of_le A_ob17.lt szc_ob22el)
        have ne_ob22el_ob17 := Ne.symm ne_ob17_ob22el
        have ne_ob20_ob22el : ob20 ≠ ob22el := Nat.ne_of_lt (Nat.lt_of_lt_of_le E_ob20.lt szc_ob22el)
        have ne_ob22el_ob20 := Ne.symm ne_ob20_ob22el
        have g_ob22el : n0 ≤ ob22el := Nat.le_trans Z0 szc_ob22el
        have A_ob17 := A_ob17.keep KK22 (by simp [ne_ob17_ob20])
        have E_ob20 := E_ob20.keep KK22
        have F_ob20_bytes := P22_0
        have F_ob20_position := P22_1
        have F_ob20_end := P22_2
        have E_ob22el := P22_3
        have F_ob22el_bytes := P22_4
        have F_ob22el_tag := P22_5
        have F_ob22el_start := P22_6
        have F_ob22el_contents := P22_7
        have F_ob22el_end := P22_8
        have Z0 := Nat.le_trans Z0 KK22.1
        have hk := Nat.le_refl hh22.size
        have N22 := Fr.app N21 NL22
        show own_Out p e below _ T22 (mkF m 144 #[.val (.int x0), .val (.int x1), .val (.int x2), .val (.int (0 : Int32)), .val (.int (1 : Int32)), .val (.int (0 : Int32)), .val (.int x2), .val (.ref ob17), .val (.ref ob20), .unset, .unset, .unset] [(.ref ob22el)]) _ _ _
        rw [show ((((0 : Int32) + (1 : Int32)) + (1 : Int32)) + (((0 : Int32).toInt64).toInt32)) = (2 : Int32) from by decide] at F_ob20_position
        rw [show (((0 : Int32) + (1 : Int32)) + (1 : Int32)) = (2 : Int32) from by decide] at F_ob22el_contents
        rw [show ((((0 : Int32) + (1 : Int32)) + (1 : Int32)) + (((0 : Int32).toInt64).toInt32)) = (2 : Int32) from by decide] at F_ob22el_end
        refine own_to (fun t k => XS.pop X22.here hx rfl (hb hby at_144) rfl rfl k) ?_
        show own_Out p e below _ T22 (mkF m 145 #[.val (.int x0), .val (.int x1), .val (.int x2), .val (.int (0 : Int32)), .val (.int (1 : Int32)), .val (.int (0 : Int32)), .val (.int x2), .val (.ref ob17), .val (.ref ob20), .unset, .unset, .unset] []) _ _ _
        refine own_to (fun t k => XS.iload X22.here hx rfl (hb hby at_145) rfl k) ?_
        show own_Out p e below _ T22 (mkF m 147 #[.val (.int x0), .val (.int x1), .val (.int x2), .val (.int (0 : Int32)), .val (.int (1 : Int32)), .val (.int (0 : Int32)), .val (.int x2), .val (.ref ob17), .val (.ref ob20), .unset, .unset, .unset] [(.int (0 : Int32))]) _ _ _
        have hc147 : (0 : Int32) = (0 : Int32) := by decide
        refine own_to (fun t k => XS.ifYes X22.here hx rfl (pc0 := 147) (pc' := 164) rfl (hb hby at_147) rfl ((if0 _ _).trans (teq hc147).1) (by decide) (by decide) k) ?_
        show own_Out p e below _ T22 (mkF m 164 #[.val (.int x0), .val (.int x1), .val (.int x2), .val (.int (0 : Int32)), .val (.int (1 : Int32)), .val (.int (0 : Int32)), .val (.int x2), .val (.ref ob17), .val (.ref ob20), .unset, .unset, .unset] []) _ _ _
        refine own_to (fun t k => XS.iconst X22.here hx rfl (hb hby at_164) k) ?_
        show own_Out p e below _ T22 (mkF m 165 #[.val (.int x0), .val (.int x1), .val (.int x2), .val (.int (0 : Int32)), .val (.int (1 : Int32)), .val (.int (0 : Int32)), .val (.int x2), .val (.ref ob17), .val (.ref ob20), .unset, .unset, .unset] [(.int (0 : Int32))]) _ _ _
        refine own_to (fun t k => XS.istore X22.here hx rfl (hb hby at_165) rfl (l' := #[.val (.int x0), .val (.int x1), .val (.int x2), .val (.int (0 : Int32)), .val (.int (1 : Int32)), .val (.int (0 : Int32)), .val (.int x2), .val (.ref ob17), .val (.ref ob20), .val (.int (0 : Int32)), .unset, .unset]) rfl k) ?_
        show own_Out p e below _ T22 (mkF m 167 #[.val (.int x0), .val (.int x1), .val (.int x2), .val (.int (0 : Int32)), .val (.int (1 : Int32)), .val (.int (0 : Int32)), .val (.int x2), .val (.ref ob17), .val (.ref ob20), .val (.int (0 : Int32)), .unset, .unset] []) _ _ _
        refine own_to (fun t k => XS.aload X22.here hx rfl (hb hby at_167) rfl rfl k) ?_
        show own_Out p e below _ T22 (mkF m 169 #[.val (.int x0), .val (.int x1), .val (.int x2), .val (.int (0 : Int32)), .val (.int (1 : Int32)), .val (.int (0 : Int32)), .val (.int x2), .val (.ref ob17), .val (.ref ob20), .val (.int (0 : Int32)), .unset, .unset] [(.ref ob20)]) _ _ _
        refine own_to (fun t k => XS.iload X22.here hx rfl (hb hby at_169) rfl k) ?_
        show own_Out p e below _ T22 (mkF m 171 #[.val (.int x0), .val (.int x1), .val (.int x2), .val (.int (0 : Int32)), .val (.int (1 : Int32)), .val (.int (0 : Int32)), .val (.int x2), .val (.ref ob17), .val (.ref ob20), .val (.int (0 : Int32)), .unset, .unset] [(.int x2), (.ref ob20)]) _ _ _
        refine own_callV X22 hx hZ hown (a := ob20) (argsL := [(.int x2)]) (rest := []) (hw _ (List.mem_of_getElem? (i := 19) rfl)) (hw _ (List.mem_of_getElem? (i := 20) rfl)) (hw _ (List.mem_of_getElem? (i := 22) rfl)) (hw _ (List.mem_of_getElem? (i := 21) rfl)) (hw _ (List.mem_of_getElem? (i := 3) rfl)) (hw _ (List.mem_of_getElem? (i := 23) rfl)) (by decide) (rm4 l Z a0 hw ob20 x2 (2 : Int32) (2 : Int32) ob17 2 (own_upd (own_upd (fun _ => 0) ((0 : Int32).toNatClampNeg) (nar .byte (5 : Int32))) ((1 : Int32).toNatClampNeg) (nar .byte (0 : Int32))) hh22 n0 Z0 E_ob20 F_ob20_bytes F_ob20_position F_ob20_end A_ob17 (by decide)) (by decide) (by decide) e22 E_ob20 rfl (by rw [hml]; rfl) (lenOf pd_5 rfl) rfl (W := 0) (by show 2 * 0 + _ ≤ _; exact Nat.le_of_eq rfl) (hb hby at_171) (by decide) (by decide) fun v23 T23 hh23 L23 X23 e23 hQ23 => ?_
        obtain ⟨rfl, NL23, he23⟩ := hQ23
        replace e23 := e23.trans he23
        have N23 := Fr.app N22 NL23
        show own_Out p e below _ T23 (mkF m 174 #[.val (.int x0), .val (.int x1), .val (.int x2), .val (.int (0 : Int32)), .val (.int (1 : Int32)), .val (.int (0 : Int32)), .val (.int x2), .val (.ref ob17), .val (.ref ob20), .val (.int (0 : Int32)), .unset, .unset] [(.int (R4 ob20 x2 (2 : Int32) (2 : Int32) ob17 2 (own_upd (own_upd (fun _ => 0) ((0 : Int32).toNatClampNeg) (nar .byte (5 : Int32))) ((1 : Int32).toNatClampNeg) (nar .byte (0 : Int32)))))]) _ _ _
        refine own_to (fun t k => XS.istore X23.here hx rfl (hb hby at_174) rfl (l' := #[.val (.int x0), .val (.int x1), .val (.int x2), .val (.int (0 : Int32)), .val (.int (1 : Int32)), .val (.int (0 : Int32)), .val (.int x2), .val (.ref ob17), .val (.ref ob20), .val (.int (0 : Int32)), .val (.int (R4 ob20 x2 (2 : Int32) (2 : Int32) ob17 2 (own_upd (own_upd (fun _ => 0) ((0 : Int32).toNatClampNeg) (nar .byte (5 : Int32))) ((1 : Int32).toNatClampNeg) (nar .byte (0 : Int32))))), .unset]) rfl k) ?_
        show own_Out p e below _ T23 (mkF m 176 #[.val (.int x0), .val (.int x1), .val (.int x2), .val (.int (0 : Int32)), .val (.int (1 : Int32)), .val (.int (0 : Int32)), .val (.int x2), .val (.ref ob17), .val (.ref ob20), .val (.int (0 : Int32)), .val (.int (R4 ob20 x2 (2 : Int32) (2 : Int32) ob17 2 (own_upd (own_upd (fun _ => 0) ((0 : Int32).toNatClampNeg) (nar .byte (5 : Int32))) ((1 : Int32).toNatClampNeg) (nar .byte (0 : Int32))))), .unset] []) _ _ _
        refine own_to (fun t k => XS.aload X23.here hx rfl (hb hby at_176) rfl rfl k) ?_
        show own_Out p e below _ T23 (mkF m 178 #[.val (.int x0), .val (.int x1), .val (.int x2), .val (.int (0 : Int32)), .val (.int (1 : Int32)), .val (.int (0 : Int32)), .val (.int x2), .val (.ref ob17), .val (.ref ob20), .val (.int (0 : Int32)), .val (.int (R4 ob20 x2 (2 : Int32) (2 : Int32) ob17 2 (own_upd (own_upd (fun _ => 0) ((0 : Int32).toNatClampNeg) (nar .byte (5 : Int32))) ((1 : Int32).toNatClampNeg) (nar .byte (0 : Int32))))), .unset] [(.ref ob20)]) _ _ _
        refine own_to (fun t k => XS.iload X23.here hx rfl (hb hby at_178) rfl k) ?_
        show own_Out p e below _ T23 (mkF m 180 #[.val (.int x0), .val (.int x1), .val (.int x2), .val (.int (0 : Int32)), .val (.int (1 : Int32)), .val (.int (0 : Int32)), .val (.int x2), .val (.ref ob17), .val (.ref ob20), .val (.int (0 : Int32)), .val (.int (R4 ob20 x2 (2 : Int32) (2 : Int32) ob17 2 (own_upd (own_upd (fun _ => 0) ((0 : Int32).toNatClampNeg) (nar .byte (5 : Int32))) ((1 : Int32).toNatClampNeg) (nar .byte (0 : Int32))))), .unset] [(.int x2), (.ref ob20)]) _ _ _
        refine own_callV X23 hx hZ hown (a := ob20) (argsL := [(.int x2)]) (rest := []) (hw _ (List.mem_of_getElem? (i := 19) rfl)) (hw _ (List.mem_of_getElem? (i := 20) rfl)) (hw _ (List.mem_of_getElem? (i := 22) rfl)) (hw _ (List.mem_of_getElem? (i := 21) rfl)) (hw _ (List.mem_of_getElem? (i := 3) rfl)) (hw _ (List.mem_of_getElem? (i := 23) rfl)) (by decide) (rm4 l Z a0 hw ob20 x2 (2 : Int32) (2 : Int32) ob17 2 (own_upd (own_upd (fun _ => 0) ((0 : Int32).toNatClampNeg) (nar .byte (5 : Int32))) ((1 : Int32).toNatClampNeg) (nar .byte (0 : Int32))) hh22 n0 Z0 E_ob20 F_ob20_bytes F_ob20_position F_ob20_end A_ob17 (by decide)) (by decide) (by decide) e23 E_ob20 rfl (by rw [hml]; rfl) (lenOf pd_5 rfl) rfl (W := 0) (by show 2 * 0 + _ ≤ _; exact Nat.le_of_eq rfl) (hb hby at_180) (by decide) (by decide) fun v24 T24 hh24 L24 X24 e24 hQ24 => ?_
        obtain ⟨rfl, NL24, he24⟩ := hQ24
        replace e24 := e24.trans he24
        have N24 := Fr.app N23 NL24
        show own_Out p e below _ T24 (mkF m 183 #[.val (.int x0), .val (.int x1), .val (.int x2), .val (.int (0 : Int32)), .val (.int (1 : Int32)), .val (.int (0 : Int32)), .val (.int x2), .val (.ref ob17), .val (.ref ob20), .val (.int (0 : Int32)), .val (.int (R4 ob20 x2 (2 : Int32) (2 : Int32) ob17 2 (own_upd (own_upd (fun _ => 0) ((0 : Int32).toNatClampNeg) (nar .byte (5 : Int32))) ((1 : Int32).toNatClampNeg) (nar .byte (0 : Int32))))), .unset] [(.int (R4 ob20 x2 (2 : Int32) (2 : Int32) ob17 2 (own_upd (own_upd (fun _ => 0) ((0 : Int32).toNatClampNeg) (nar .byte (5 : Int32))) ((1 : Int32).toNatClampNeg) (nar .byte (0 : Int32)))))]) _ _ _
        refine own_to (fun t k => XS.istore X24.here hx rfl (hb hby at_183) rfl (l' := #[.val (.int x0), .val (.int x1), .val (.int x2), .val (.int (0 : Int32)), .val (.int (1 : Int32)), .val (.int (0 : Int32)), .val (.int x2), .val (.ref ob17), .val (.ref ob20), .val (.int (0 : Int32)), .val (.int (R4 ob20 x2 (2 : Int32) (2 : Int32) ob17 2 (own_upd (own_upd (fun _ => 0) ((0 : Int32).toNatClampNeg) (nar .byte (5 : Int32))) ((1 : Int32).toNatClampNeg) (nar .byte (0 : Int32))))), .val (.int (R4 ob20 x2 (2 : Int32) (2 : Int32) ob17 2 (own_upd (own_upd (fun _ => 0) ((0 : Int32).toNatClampNeg) (nar .byte (5 : Int32))) ((1 : Int32).toNatClampNeg) (nar .byte (0 : Int32)))))]) rfl k) ?_
        show own_Out p e below _ T24 (mkF m 185 #[.val (.int x0), .val (.int x1), .val (.int x2), .val (.int (0 : Int32)), .val (.int (1 : Int32)), .val (.int (0 : Int32)), .val (.int x2), .val (.ref ob17), .val (.ref ob20), .val (.int (0 : Int32)), .val (.int (R4 ob20 x2 (2 : Int32) (2 : Int32) ob17 2 (own_upd (own_upd (fun _ => 0) ((0 : Int32).toNatClampNeg) (nar .byte (5 : Int32))) ((1 : Int32).toNatClampNeg) (nar .byte (0 : Int32))))), .val (.int (R4 ob20 x2 (2 : Int32) (2 : Int32) ob17 2 (own_upd (own_upd (fun _ => 0) ((0 : Int32).toNatClampNeg) (nar .byte (5 : Int32))) ((1 : Int32).toNatClampNeg) (nar .byte (0 : Int32)))))] []) _ _ _
        refine own_to (fun t k => XS.iload X24.here hx rfl (hb hby at_185) rfl k) ?_
        show own_Out p e below _ T24 (mkF m 187 #[.val (.int x0), .val (.int x1), .val (.int x2), .val (.int (0 : Int32)), .val (.int (1 : Int32)), .val (.int (0 : Int32)), .val (.int x2), .val (.ref ob17), .val (.ref ob20), .val (.int (0 : Int32)), .val (.int (R4 ob20 x2 (2 : Int32) (2 : Int32) ob17 2 (own_upd (own_upd (fun _ => 0) ((0 : Int32).toNatClampNeg) (nar .byte (5 : Int32))) ((1 : Int32).toNatClampNeg) (nar .byte (0 : Int32))))), .val (.int (R4 ob20 x2 (2 : Int32) (2 : Int32) ob17 2 (own_upd (own_upd (fun _ => 0) ((0 : Int32).toNatClampNeg) (nar .byte (5 : Int32))) ((1 : Int32).toNatClampNeg) (nar .byte (0 : Int32)))))] [(.int (R4 ob20 x2 (2 : Int32) (2 : Int32) ob17 2 (own_upd (own_upd (fun _ => 0) ((0 : Int32).toNatClampNeg) (nar .byte (5 : Int32))) ((1 : Int32).toNatClampNeg) (nar .byte (0 : Int32)))))]) _ _ _
        refine own_to (fun t k => XS.iload X24.here hx rfl (hb hby at_187) rfl k) ?_
        show own_Out p e below _ T24 (mkF m 189 #[.val (.int x0), .val (.int x1), .val (.int x2), .val (.int (0 : Int32)), .val (.int (1 : Int32)), .val (.int (0 : Int32)), .val (.int x2), .val (.ref ob17), .val (.ref ob20), .val (.int (0 : Int32)), .val (.int (R4 ob20 x2 (2 : Int32) (2 : Int32) ob17 2 (own_upd (own_upd (fun _ => 0) ((0 : Int32).toNatClampNeg) (nar .byte (5 : Int32))) ((1 : Int32).toNatClampNeg) (nar .byte (0 : Int32))))), .val (.int (R4 ob20 x2 (2 : Int32) (2 : Int32) ob17 2 (own_upd (own_upd (fun _ => 0) ((0 : Int32).toNatClampNeg) (nar .byte (5 : Int32))) ((1 : Int32).toNatClampNeg) (nar .byte (0 : Int32)))))] [(.int (0 : Int32)), (.int (R4 ob20 x2 (2 : Int32) (2 : Int32) ob17 2 (own_upd (own_upd (fun _ => 0) ((0 : Int32).toNatClampNeg) (nar .byte (5 : Int32))) ((1 : Int32).toNatClampNeg) (nar .byte (0 : Int32)))))]) _ _ _
        have hc189 : (R4 ob20 x2 (2 : Int32) (2 : Int32) ob17 2 (own_upd (own_upd (fun _ => 0) ((0 : Int32).toNatClampNeg) (nar .byte (5 : Int32))) ((1 : Int32).toNatClampNeg) (nar .byte (0 : Int32)))) = (0 : Int32) := (own_ni _ _ _ _ _ _ _).1 (by decide)
        refine own_to (fun t k => XS.icmpNo X24.here hx rfl (hb hby at_189) rfl (teq hc189).2 k) ?_
        show own_Out p e below _ T24 (mkF m 192 #[.val (.int x0), .val (.int x1), .val (.int x2), .val (.int (0 : Int32)), .val (.int (1 : Int32)), .val (.int (0 : Int32)), .val (.int x2), .val (.ref ob17), .val (.ref ob20), .val (.int (0 : Int32)), .val (.int (R4 ob20 x2 (2 : Int32) (2 : Int32) ob17 2 (own_upd (own_upd (fun _ => 0) ((0 : Int32).toNatClampNeg) (nar .byte (5 : Int32))) ((1 : Int32).toNatClampNeg) (nar .byte (0 : Int32))))), .val (.int (R4 ob20 x2 (2 : Int32) (2 : Int32) ob17 2 (own_upd (own_upd (fun _ => 0) ((0 : Int32).toNatClampNeg) (nar .byte (5 : Int32))) ((1 : Int32).toNatClampNeg) (nar .byte (0 : Int32)))))] []) _ _ _
        refine own_to (fun t k => XS.iload X24.here hx rfl (hb hby at_192) rfl k) ?_
        show own_Out p e below _ T24 (mkF m 194 #[.val (.int x0), .val (.int x1), .val (.int x2), .val (.int (0 : Int32)), .val (.int (1 : Int32)), .val (.int (0 : Int32)), .val (.int x2), .val (.ref ob17), .val (.ref ob20), .val (.int (0 : Int32)), .val (.int (R4 ob20 x2 (2 : Int32) (2 : Int32) ob17 2 (own_upd (own_upd (fun _ => 0) ((0 : Int32).toNatClampNeg) (nar .byte (5 : Int32))) ((1 : Int32).toNatClampNeg) (nar .byte (0 : Int32))))), .val (.int (R4 ob20 x2 (2 : Int32) (2 : Int32) ob17 2 (own_upd (own_upd (fun _ => 0) ((0 : Int32).toNatClampNeg) (nar .byte (5 : Int32))) ((1 : Int32).toNatClampNeg) (nar .byte (0 : Int32)))))] [(.int (R4 ob20 x2 (2 : Int32) (2 : Int32) ob17 2 (own_upd (own_upd (fun _ => 0) ((0 : Int32).toNatClampNeg) (nar .byte (5 : Int32))) ((1 : Int32).toNatClampNeg) (nar .byte (0 : Int32)))))]) _ _ _
        refine own_to (fun t k => XS.iload X24.here hx rfl (hb hby at_194) rfl k) ?_
        show own_Out p e below _ T24 (mkF m 196 #[.val (.int x0), .val (.int x1), .val (.int x2), .val (.int (0 : Int32)), .val (.int (1 : Int32)), .val (.int (0 : Int32)), .val (.int x2), .val (.ref ob17), .val (.ref ob20), .val (.int (0 : Int32)), .val (.int (R4 ob20 x2 (2 : Int32) (2 : Int32) ob17 2 (own_upd (own_upd (fun _ => 0) ((0 : Int32).toNatClampNeg) (nar .byte (5 : Int32))) ((1 : Int32).toNatClampNeg) (nar .byte (0 : Int32))))), .val (.int (R4 ob20 x2 (2 : Int32) (2 : Int32) ob17 2 (own_upd (own_upd (fun _ => 0) ((0 : Int32).toNatClampNeg) (nar .byte (5 : Int32))) ((1 : Int32).toNatClampNeg) (nar .byte (0 : Int32)))))] [(.int (0 : Int32)), (.int (R4 ob20 x2 (2 : Int32) (2 : Int32) ob17 2 (own_upd (own_upd (fun _ => 0) ((0 : Int32).toNatClampNeg) (nar .byte (5 : Int32))) ((1 : Int32).toNatClampNeg) (nar .byte (0 : Int32)))))]) _ _ _
        have hc196 : (R4 ob20 x2 (2 : Int32) (2 : Int32) ob17 2 (own_upd (own_upd (fun _ => 0) ((0 : Int32).toNatClampNeg) (nar .byte (5 : Int32))) ((1 : Int32).toNatClampNeg) (nar .byte (0 : Int32)))) = (0 : Int32) := (own_ni _ _ _ _ _ _ _).1 (by decide)
        refine own_to (fun t k => XS.icmpNo X24.here hx rfl (hb hby at_196) rfl (teq hc196).2 k) ?_
        show own_Out p e below _ T24 (mkF m 199 #[.val (.int x0), .val (.int x1), .val (.int x2), .val (.int (0 : Int32)), .val (.int (1 : Int32)), .val (.int (0 : Int32)), .val (.int x2), .val (.ref ob17), .val (.ref ob20), .val (.int (0 : Int32)), .val (.int (R4 ob20 x2 (2 : Int32) (2 : Int32) ob17 2 (own_upd (own_upd (fun _ => 0) ((0 : Int32).toNatClampNeg) (nar .byte (5 : Int32))) ((1 : Int32).toNatClampNeg) (nar .byte (0 : Int32))))), .val (.int (R4 ob20 x2 (2 : Int32) (2 : Int32) ob17 2 (own_upd (own_upd (fun _ => 0) ((0 : Int32).toNatClampNeg) (nar .byte (5 : Int32))) ((1 : Int32).toNatClampNeg) (nar .byte (0 : Int32)))))] []) _ _ _
        refine own_to (fun t k => XS.aload X24.here hx rfl (hb hby at_199) rfl rfl k) ?_
        show own_Out p e below _ T24 (mkF m 201 #[.val (.int x0), .val (.int x1), .val (.int x2), .val (.int (0 : Int32)), .val (.int (1 : Int32)), .val (.int (0 : Int32)), .val (.int x2), .val (.ref ob17), .val (.ref ob20), .val (.int (0 : Int32)), .val (.int (R4 ob20 x2 (2 : Int32) (2 : Int32) ob17 2 (own_upd (own_upd (fun _ => 0) ((0 : Int32).toNatClampNeg) (nar .byte (5 : Int32))) ((1 : Int32).toNatClampNeg) (nar .byte (0 : Int32))))), .val (.int (R4 ob20 x2 (2 : Int32) (2 : Int32) ob17 2 (own_upd (own_upd (fun _ => 0) ((0 : Int32).toNatClampNeg) (nar .byte (5 : Int32))) ((1 : Int32).toNatClampNeg) (nar .byte (0 : Int32)))))] [(.ref ob20)]) _ _ _
        refine own_callV X24 hx hZ hown (a := ob20) (argsL := []) (rest := []) (hw _ (List.mem_of_getElem? (i := 29) rfl)) (hw _ (List.mem_of_getElem? (i := 25) rfl)) (hw _ (List.mem_of_getElem? (i := 27) rfl)) (hw _ (List.mem_of_getElem? (i := 26) rfl)) (hw _ (List.mem_of_getElem? (i := 3) rfl)) (hw _ (List.mem_of_getElem? (i := 28) rfl)) (by decide) (rm5 l Z a0 hw ob20 (2 : Int32) (2 : Int32) hh22 n0 Z0 F_ob20_position F_ob20_end) (by decide) (by decide) e24 E_ob20 rfl (by rw [hml]; rfl) (lenOf pd_1 rfl) rfl (W := 0) (by show 2 * 0 + _ ≤ _; exact Nat.le_of_eq rfl) (hb hby at_201) (by decide) (by decide) fun v25 T25 hh25 L25 X25 e25 hQ25 => ?_
        obtain ⟨rfl, NL25, he25⟩ := hQ25
        replace e25 := e25.trans he25
        have N25 := Fr.app N24 NL25
        show own_Out p e below _ T25 (mkF m 204 #[.val (.int x0), .val (.int x1), .val (.int x2), .val (.int (0 : Int32)), .val (.int (1 : Int32)), .val (.int (0 : Int32)), .val (.int x2), .val (.ref ob17), .val (.ref ob20), .val (.int (0 : Int32)), .val (.int (R4 ob20 x2 (2 : Int32) (2 : Int32) ob17 2 (own_upd (own_upd (fun _ => 0) ((0 : Int32).toNatClampNeg) (nar .byte (5 : Int32))) ((1 : Int32).toNatClampNeg) (nar .byte (0 : Int32))))), .val (.int (R4 ob20 x2 (2 : Int32) (2 : Int32) ob17 2 (own_upd (own_upd (fun _ => 0) ((0 : Int32).toNatClampNeg) (nar .byte (5 : Int32))) ((1 : Int32).toNatClampNeg) (nar .byte (0 : Int32)))))] [(.int (R5 ob20 (2 : Int32) (2 : Int32)))]) _ _ _
        refine own_to (fun t k => XS.iload X25.here hx rfl (hb hby at_204) rfl k) ?_
        show own_Out p e below _ T25 (mkF m 206 #[.val (.int x0), .val (.int x1), .val (.int x2), .val (.int (0 : Int32)), .val (.int (1 : Int32)), .val (.int (0 : Int32)), .val (.int x2), .val (.ref ob17), .val (.ref ob20), .val (.int (0 : Int32)), .val (.int (R4 ob20 x2 (2 : Int32) (2 : Int32) ob17 2 (own_upd (own_upd (fun _ => 0) ((0 : Int32).toNatClampNeg) (nar .byte (5 : Int32))) ((1 : Int32).toNatClampNeg) (nar .byte (0 : Int32))))), .val (.int (R4 ob20 x2 (2 : Int32) (2 : Int32) ob17 2 (own_upd (own_upd (fun _ => 0) ((0 : Int32).toNatClampNeg) (nar .byte (5 : Int32))) ((1 : Int32).toNatClampNeg) (nar .byte (0 : Int32)))))] [(.int (0 : Int32)), (.int (R5 ob20 (2 : Int32) (2 : Int32)))]) _ _ _
        have hc206 : (R5 ob20 (2 : Int32) (2 : Int32)) = (0 : Int32) := own_hn0 _ _ _ (by decide)
        refine own_to (fun t k => XS.icmpNo X25.here hx rfl (hb hby at_206) rfl (teq hc206).2 k) ?_
        show own_Out p e below _ T25 (mkF m 209 #[.val (.int x0), .val (.int x1), .val (.int x2), .val (.int (0 : Int32)), .val (.int (1 : Int32)), .val (.int (0 : Int32)), .val (.int x2), .val (.ref ob17), .val (.ref ob20), .val (.int (0 : Int32)), .val (.int (R4 ob20 x2 (2 : Int32) (2 : Int32) ob17 2 (own_upd (own_upd (fun _ => 0) ((0 : Int32).toNatClampNeg) (nar .byte (5 : Int32))) ((1 : Int32).toNatClampNeg) (nar .byte (0 : Int32))))), .val (.int (R4 ob20 x2 (2 : Int32) (2 : Int32) ob17 2 (own_upd (own_upd (fun _ => 0) ((0 : Int32).toNatClampNeg) (nar .byte (5 : Int32))) ((1 : Int32).toNatClampNeg) (nar .byte (0 : Int32)))))] []) _ _ _
        refine own_to (fun t k => XS.iconst X25.here hx rfl (hb hby at_209) k) ?_
        show own_Out p e below _ T25 (mkF m 210 #[.val (.int x0), .val (.int x1), .val (.int x2), .val (.int (0 : Int32)), .val (.int (1 : Int32)), .val (.int (0 : Int32)), .val (.int x2), .val (.ref ob17), .val (.ref ob20), .val (.int (0 : Int32)), .val (.int (R4 ob20 x2 (2 : Int32) (2 : Int32) ob17 2 (own_upd (own_upd (fun _ => 0) ((0 : Int32).toNatClampNeg) (nar .byte (5 : Int32))) ((1 : Int32).toNatClampNeg) (nar .byte (0 : Int32))))), .val (.int (R4 ob20 x2 (2 : Int32) (2 : Int32) ob17 2 (own_upd (own_upd (fun _ => 0) ((0 : Int32).toNatClampNeg) (nar .byte (5 : Int32))) ((1 : Int32).toNatClampNeg) (nar .byte (0 : Int32)))))] [(.int (1 : Int32))]) _ _ _
        refine own_to (fun t k => XS.goto X25.here hx rfl (pc0 := 210) (pc' := 214) rfl (hb hby at_210) (by decide) (by decide) k) ?_
        show own_Out p e below _ T25 (mkF m 214 #[.val (.int x0), .val (.int x1), .val (.int x2), .val (.int (0 : Int32)), .val (.int (1 : Int32)), .val (.int (0 : Int32)), .val (.int x2), .val (.ref ob17), .val (.ref ob20), .val (.int (0 : Int32)), .val (.int (R4 ob20 x2 (2 : Int32) (2 : Int32) ob17 2 (own_upd (own_upd (fun _ => 0) ((0 : Int32).toNatClampNeg) (nar .byte (5 : Int32))) ((1 : Int32).toNatClampNeg) (nar .byte (0 : Int32))))), .val (.int (R4 ob20 x2 (2 : Int32) (2 : Int32) ob17 2 (own_upd (own_upd (fun _ => 0) ((0 : Int32).toNatClampNeg) (nar .byte (5 : Int32))) ((1 : Int32).toNatClampNeg) (nar .byte (0 : Int32)))))] [(.int (1 : Int32))]) _ _ _
        refine own_retVW X25 hS hk e25 hx hlk (w := .int (1 : Int32)) hret rfl (Or.inl ⟨rfl, by simp, _, rfl⟩) (hb hby at_214) (by decide) (by decide) ?_
        rw [e25]
        exact ⟨rfl, N25⟩
      · refine own_to (fun t k => XS.ifNo X0.here hx rfl (hb hby at_28) rfl ((if0 _ _).trans (feq hc28).1) k) ?_
        show own_Out p e below _ s₁ (mkF m 31 #[.val (.int x0), .val (.int x1), .val (.int x2), .val (.int (0 : Int32)), .val (.int (1 : Int32)), .unset, .unset, .unset, .unset, .unset, .unset, .unset] []) _ _ _
        refine own_to (fun t k => XS.iconst X0.here hx rfl (hb hby at_31) k) ?_
        show own_Out p e below _ s₁ (mkF m 32 #[.val (.int x0), .val (.int x1), .val (.int x2), .val (.int (0 : Int32)), .val (.int (1 : Int32)), .unset, .unset, .unset, .unset, .unset, .unset, .unset] [(.int (1 : Int32))]) _ _ _
        refine own_to (fun t k => XS.goto X0.here hx rfl (pc0 := 32) (pc' := 36) rfl (hb hby at_32) (by decide) (by decide) k) ?_
        show own_Out p e below _ s₁ (mkF m 36 #[.val (.int x0), .val (.int x1), .val (.int x2), .val (.int (0 : Int32)), .val (.int (1 : Int32)), .unset, .unset, .unset, .unset, .unset, .unset, .unset] [(.int (1 : Int32))]) _ _ _
        refine own_to (fun t k => XS.istore X0.here hx rfl (hb hby at_36) rfl (l' := #[.val (.int x0), .val (.int x1), .val (.int x2), .val (.int (0 : Int32)), .val (.int (1 : Int32)), .val (.int (1 : Int32)), .unset, .unset, .unset, .unset, .unset, .unset]) rfl k) ?_
        show own_Out p e below _ s₁ (mkF m 38 #[.val (.int x0), .val (.int x1), .val (.int x2), .val (.int (0 : Int32)), .val (.int (1 : Int32)), .val (.int (1 : Int32)), .unset, .unset, .unset, .unset, .unset, .unset] []) _ _ _
        refine own_to (fun t k => XS.iloadN X0.here hx rfl (hb hby at_38) rfl k) ?_
        show own_Out p e below _ s₁ (mkF m 39 #[.val (.int x0), .val (.int x1), .val (.int x2), .val (.int (0 : Int32)), .val (.int (1 : Int32)), .val (.int (1 : Int32)), .unset, .unset, .unset, .unset, .unset, .unset] [(.int (0 : Int32))]) _ _ _
        have hc39 : (0 : Int32) = (0 : Int32) := by decide
        refine own_to (fun t k => XS.ifYes X0.here hx rfl (pc0 := 39) (pc' := 50) rfl (hb hby at_39) rfl ((if0 _ _).trans (teq hc39).1) (by decide) (by decide) k) ?_
        show own_Out p e below _ s₁ (mkF m 50 #[.val (.int x0), .val (.int x1), .val (.int x2), .val (.int (0 : Int32)), .val (.int (1 : Int32)), .val (.int (1 : Int32)), .unset, .unset, .unset, .unset, .unset, .unset] []) _ _ _
        refine own_to (fun t k => XS.iloadN X0.here hx rfl (hb hby at_50) rfl k) ?_
        show own_Out p e below _ s₁ (mkF m 51 #[.val (.int x0), .val (.int x1), .val (.int x2), .val (.int (0 : Int32)), .val (.int (1 : Int32)), .val (.int (1 : Int32)), .unset, .unset, .unset, .unset, .unset, .unset] [(.int x2)]) _ _ _
        refine own_to (fun t k => XS.istore X0.here hx rfl (hb hby at_51) rfl (l' := #[.val (.int x0), .val (.int x1), .val (.int x2), .val (.int (0 : Int32)), .val (.int (1 : Int32)), .val (.int (1 : Int32)), .val (.int x2), .unset, .unset, .unset, .unset, .unset]) rfl k) ?_
        show own_Out p e below _ s₁ (mkF m 53 #[.val (.int x0), .val (.int x1), .val (.int x2), .val (.int (0 : Int32)), .val (.int (1 : Int32)), .val (.int (1 : Int32)), .val (.int x2), .unset, .unset, .unset, .unset, .unset] []) _ _ _
        refine own_to (fun t k => XS.iload X0.here hx rfl (hb hby at_53) rfl k) ?_
        show own_Out p e below _ s₁ (mkF m 55 #[.val (.int x0), .val (.int x1), .val (.int x2), .val (.int (0 : Int32)), .val (.int (1 : Int32)), .val (.int (1 : Int32)), .val (.int x2), .unset, .unset, .unset, .unset, .unset] [(.int (1 : Int32))]) _ _ _
        have hc55 : ¬ ((1 : Int32) = (0 : Int32)) := by decide
        refine own_to (fun t k => XS.ifNo X0.here hx rfl (hb hby at_55) rfl ((if0 _ _).trans (feq hc55).1) k) ?_
        show own_Out p e below _ s₁ (mkF m 58 #[.val (.int x0), .val (.int x1), .val (.int x2), .val (.int (0 : Int32)), .val (.int (1 : Int32)), .val (.int (1 : Int32)), .val (.int x2), .unset, .unset, .unset, .unset, .unset] []) _ _ _
        refine own_to (fun t k => XS.iload X0.here hx rfl (hb hby at_58) rfl k) ?_
        show own_Out p e below _ s₁ (mkF m 60 #[.val (.int x0), .val (.int x1), .val (.int x2), .val (.int (0 : Int32)), .val (.int (1 : Int32)), .val (.int (1 : Int32)), .val (.int x2), .unset, .unset, .unset, .unset, .unset] [(.int (1 : Int32))]) _ _ _
        have hc60 : ¬ ((1 : Int32) = (0 : Int32)) := by decide
        refine own_to (fun t k => XS.ifNo X0.here hx rfl (hb hby at_60) rfl ((if0 _ _).trans (feq hc60).1) k) ?_
        show own_Out p e below _ s₁ (mkF m 63 #[.val (.int x0), .val (.int x1), .val (.int x2), .val (.int (0 : Int32)), .val (.int (1 : Int32)), .val (.int (1 : Int32)), .val (.int x2), .unset, .unset, .unset, .unset, .unset] []) _ _ _
        refine own_to (fun t k => XS.iconst X0.here hx rfl (hb hby at_63) k) ?_
        show own_Out p e below _ s₁ (mkF m 64 #[.val (.int x0), .val (.int x1), .val (.int x2), .val (.int (0 : Int32)), .val (.int (1 : Int32)), .val (.int (1 : Int32)), .val (.int x2), .unset, .unset, .unset, .unset, .unset] [(.int (3 : Int32))]) _ _ _
        refine own_newA X0 hx hZ (hw _ (List.mem_of_getElem? (i := 0) rfl)) rfl e0 rfl (hb hby at_64) rfl (by decide) (cap := 3) (by decide) (by decide) (by decide) (by decide) fun T26 hh26 ob26 gb26 X26 e26 E26 A26 => ?_
        have g_ob26 : n0 ≤ ob26 := Nat.le_trans Z0 (Nat.le_of_eq gb26.symm)
        have Z0 := Nat.le_trans Z0 E26.1
        have hk := Nat.le_trans hk E26.1
        have A_ob26 : own_A Z hh26 ob26 .byte 3 (fun _ => 0) := A26
        show own_Out p e below _ T26 (mkF m 66 #[.val (.int x0), .val (.int x1), .val (.int x2), .val (.int (0 : Int32)), .val (.int (1 : Int32)), .val (.int (1 : Int32)), .val (.int x2), .unset, .unset, .unset, .unset, .unset] [(.ref ob26)]) _ _ _
        refine own_to (fun t k => XS.dup X26.here hx rfl (hb hby at_66) rfl rfl k) ?_
        show own_Out p e below _ T26 (mkF m 67 #[.val (.int x0), .val (.int x1), .val (.int x2), .val (.int (0 : Int32)), .val (.int (1 : Int32)), .val (.int (1 : Int32)), .val (.int x2), .unset, .unset, .unset, .unset, .unset] [(.ref ob26), (.ref ob26)]) _ _ _
        refine own_to (fun t k => XS.iconst X26.here hx rfl (hb hby at_67) k) ?_
        show own_Out p e below _ T26 (mkF m 68 #[.val (.int x0), .val (.int x1), .val (.int x2), .val (.int (0 : Int32)), .val (.int (1 : Int32)), .val (.int (1 : Int32)), .val (.int x2), .unset, .unset, .unset, .unset, .unset] [(.int (0 : Int32)), (.ref ob26), (.ref ob26)]) _ _ _
        refine own_to (fun t k => XS.iconst X26.here hx rfl (hb hby at_68) k) ?_
        show own_Out p e below _ T26 (mkF m 69 #[.val (.int x0), .val (.int x1), .val (.int x2), .val (.int (0 : Int32)), .val (.int (1 : Int32)), .val (.int (1 : Int32)), .val (.int x2), .unset, .unset, .unset, .unset, .unset] [(.int (5 : Int32)), (.int (0 : Int32)), (.ref ob26), (.ref ob26)]) _ _ _
        refine own_stB X26 hx hZ e26 A_ob26 (by decide) (by decide) rfl rfl (hb hby at_69) fun T27 hh27 X27 e27 W27 A27 => ?_
        have A_ob26 := A27
        have Z0 := Nat.le_trans Z0 (Nat.le_of_eq W27.size.symm)
        have hk := Nat.le_trans hk (Nat.le_of_eq W27.size.symm)
        have N27 := own_fs (sl := Int32.toNatClampNeg (0 : Int32)) N0 g_ob26
        show own_Out p e below _ T27 (mkF m 70 #[.val (.int x0), .val (.int x1), .val (.int x2), .val (.int (0 : Int32)), .val (.int (1 : Int32)), .val (.int (1 : Int32)), .val (.int x2), .unset, .unset, .unset, .unset, .unset] [(.ref ob26)]) _ _ _
        refine own_to (fun t k => XS.dup X27.here hx rfl (hb hby at_70) rfl rfl k) ?_
        show own_Out p e below _ T27 (mkF m 71 #[.val (.int x0), .val (.int x1), .val (.int x2), .val (.int (0 : Int32)), .val (.int (1 : Int32)), .val (.int (1 : Int32)), .val (.int x2), .unset, .unset, .unset, .unset, .unset] [(.ref ob26), (.ref ob26)]) _ _ _
        refine own_to (fun t k => XS.iconst X27.here hx rfl (hb hby at_71) k) ?_
        show own_Out p e below _ T27 (mkF m 72 #[.val (.int x0), .val (.int x1), .val (.int x2), .val (.int (0 : Int32)), .val (.int (1 : Int32)), .val (.int (1 : Int32)), .val (.int x2), .unset, .unset, .unset, .unset, .unset] [(.int (1 : Int32)), (.ref ob26), (.ref ob26)]) _ _ _
        refine own_to (fun t k => XS.iconst X27.here hx rfl (hb hby at_72) k) ?_
        show own_Out p e below _ T27 (mkF m 73 #[.val (.int x0), .val (.int x1), .val (.int x2), .val (.int (0 : Int32)), .val (.int (1 : Int32)), .val (.int (1 : Int32)), .val (.int x2), .unset, .unset, .unset, .unset, .unset] [(.int (0 : Int32)), (.int (1 : Int32)), (.ref ob26), (.ref ob26)]) _ _ _
        refine own_stB X27 hx hZ e27 A_ob26 (by decide) (by decide) rfl rfl (hb hby at_73) fun T28 hh28 X28 e28 W28 A28 => ?_
        have A_ob26 := A28
        have Z0 := Nat.le_trans Z0 (Nat.le_of_eq W28.size.symm)
        have hk := Nat.le_trans hk (Nat.le_of_eq W28.size.symm)
        have N28 := own_fs (sl := Int32.toNatClampNeg (1 : Int32)) N27 g_ob26
        show own_Out p e below _ T28 (mkF m 74 #[.val (.int x0), .val (.int x1), .val (.int x2), .val (.int (0 : Int32)), .val (.int (1 : Int32)), .val (.int (1 : Int32)), .val (.int x2), .unset, .unset, .unset, .unset, .unset] [(.ref ob26)]) _ _ _
        refine own_to (fun t k => XS.dup X28.here hx rfl (hb hby at_74) rfl rfl k) ?_
        show own_Out p e below _ T28 (mkF m 75 #[.val (.int x0), .val (.int x1), .val (.int x2), .val (.int (0 : Int32)), .val (.int (1 : Int32)), .val (.int (1 : Int32)), .val (.int x2), .unset, .unset, .unset, .unset, .unset] [(.ref ob26), (.ref ob26)]) _ _ _
        refine own_to (fun t k => XS.iconst X28.here hx rfl (hb hby at_75) k) ?_
        show own_Out p e below _ T28 (mkF m 76 #[.val (.int x0), .val (.int x1), .val (.int x2), .val (.int (0 : Int32)), .val (.int (1 : Int32)), .val (.int (1 : Int32)), .val (.int x2), .unset, .unset, .unset, .unset, .unset] [(.int (2 : Int32)), (.ref ob26), (.ref ob26)]) _ _ _
        refine own_to (fun t k => XS.iloadN X28.here hx rfl (hb hby at_76) rfl k) ?_
        show own_Out p e below _ T28 (mkF m 77 #[.val (.int x0), .val (.int x1), .val (.int x2), .val (.int (0 : Int32)), .val (.int (1 : Int32)), .val (.int (1 : Int32)), .val (.int x2), .unset, .unset, .unset, .unset, .unset] [(.int x1), (.int (2 : Int32)), (.ref ob26), (.ref ob26)]) _ _ _
        refine own_to (fun t k => XS.i2b X28.here hx rfl (hb hby at_77) rfl k) ?_
        show own_Out p e below _ T28 (mkF m 78 #[.val (.int x0), .val (.int x1), .val (.int x2), .val (.int (0 : Int32)), .val (.int (1 : Int32)), .val (.int (1 : Int32)), .val (.int x2), .unset, .unset, .unset, .unset, .unset] [(.int (x1.toInt8.toInt32)), (.int (2 : Int32)), (.ref ob26), (.ref ob26)]) _ _ _
        refine own_stB X28 hx hZ e28 A_ob26 (by decide) (by decide) rfl rfl (hb hby at_78) fun T29 hh29 X29 e29 W29 A29 => ?_
        have A_ob26 := A29
        have Z0 := Nat.le_trans Z0 (Nat.le_of_eq W29.size.symm)
        have hk := Nat.le_trans hk (Nat.le_of_eq W29.size.symm)
        have N29 := own_fs (sl := Int32.toNatClampNeg (2 : Int32)) N28 g_ob26
        show own_Out p e below _ T29 (mkF m 79 #[.val (.int x0), .val (.int x1), .val (.int x2), .val (.int (0 : Int32)), .val (.int (1 : Int32)), .val (.int (1 : Int32)), .val (.int x2), .unset, .unset, .unset, .unset, .unset] [(.ref ob26)]) _ _ _
        refine own_to (fun t k => XS.astore X29.here hx rfl (hb hby at_79) rfl rfl (l' := #[.val (.int x0), .val (.int x1), .val (.int x2), .val (.int (0 : Int32)), .val (.int (1 : Int32)), .val (.int (1 : Int32)), .val (.int x2), .val (.ref ob26), .unset, .unset, .unset, .unset]) rfl k) ?_
        show own_Out p e below _ T29 (mkF m 81 #[.val (.int x0), .val (.int x1), .val (.int x2), .val (.int (0 : Int32)), .val (.int (1 : Int32)), .val (.int (1 : Int32)), .val (.int x2), .val (.ref ob26), .unset, .unset, .unset, .unset] []) _ _ _
        refine own_to (fun t k => XS.goto X29.here hx rfl (pc0 := 81) (pc' := 123) rfl (hb hby at_81) (by decide) (by decide) k) ?_
        show own_Out p e below _ T29 (mkF m 123 #[.val (.int x0), .val (.int x1), .val (.int x2), .val (.int (0 : Int32)), .val (.int (1 : Int32)), .val (.int (1 : Int32)), .val (.int x2), .val (.ref ob26), .unset, .unset, .unset, .unset] []) _ _ _
        refine own_new X29 hx hZ hown (hw _ (List.mem_of_getElem? (i := 1) rfl)) (hw _ (List.mem_of_getElem? (i := 2) rfl)) (hw _ (List.mem_of_getElem? (i := 3) rfl)) e29 rfl (hb hby at_123) (by decide) (by decide) fun T30 hh30 ob30 gb30 X30 e30 E30 A30 D30 => ?_
        have ne_ob26_ob30 : ob26 ≠ ob30 := Nat.ne_of_lt (Nat.lt_of_lt_of_le A_ob26.lt (Nat.le_of_eq gb30.symm))
        have ne_ob30_ob26 := Ne.symm ne_ob26_ob30
        have g_ob30 : n0 ≤ ob30 := Nat.le_trans Z0 (Nat.le_of_eq gb30.symm)
        have A_ob26 := A_ob26.ext E30
        have Z0 := Nat.le_trans Z0 E30.1
        have hk := Nat.le_trans hk E30.1
        have E_ob30 := A30
        have F_ob30_bytes : Fld Z hh30 ob30 "com/example/pathwarden/pathwarden/util/DerReader" "bytes" "[B" .null := D30 (Or.inr (hw _ (List.mem_of_getElem? (i := 14) rfl))) (ty := (.array .byte)) (by decide)
        have F_ob30_position : Fld Z hh30 ob30 "com/example/pathwarden/pathwarden/util/DerReader" "position" "I" (.int (0 : Int32)) := D30 (Or.inl (hw _ (List.mem_of_getElem? (i := 16) rfl))) (ty := .int) (by decide)
        have F_ob30_end : Fld Z hh30 ob30 "com/example/pathwarden/pathwarden/util/DerReader" "end" "I" (.int (0 : Int32)) := D30 (Or.inr (hw _ (List.mem_of_getElem? (i := 18) rfl))) (ty := .int) (by decide)
        show own_Out p e below _ T30 (mkF m 126 #[.val (.int x0), .val (.int x1), .val (.int x2), .val (.int (0 : Int32)), .val (.int (1 : Int32)), .val (.int (1 : Int32)), .val (.int x2), .val (.ref ob26), .unset, .unset, .unset, .unset] [(.ref ob30)]) _ _ _
        refine own_to (fun t k => XS.dup X30.here hx rfl (hb hby at_126) rfl rfl k) ?_
        show own_Out p e below _ T30 (mkF m 127 #[.val (.int x0), .val (.int x1), .val (.int x2), .val (.int (0 : Int32)), .val (.int (1 : Int32)), .val (.int (1 : Int32)), .val (.int x2), .val (.ref ob26), .unset, .unset, .unset, .unset] [(.ref ob30), (.ref ob30)]) _ _ _
        refine own_to (fun t k => XS.aload X30.here hx rfl (hb hby at_127) rfl rfl k) ?_
        show own_Out p e below _ T30 (mkF m 129 #[.val (.int x0), .val (.int x1), .val (.int x2), .val (.int (0 : Int32)), .val (.int (1 : Int32)), .val (.int (1 : Int32)), .val (.int x2), .val (.ref ob26), .unset, .unset, .unset, .unset] [(.ref ob26), (.ref ob30), (.ref ob30)]) _ _ _
        refine own_callC X30 hx hZ hown (a := ob30) (argsL := [(.ref ob26)]) (rest := [(.ref ob30)]) rfl (hw _ (List.mem_of_getElem? (i := 4) rfl)) (hw _ (List.mem_of_getElem? (i := 5) rfl)) (hw _ (List.mem_of_getElem? (i := 3) rfl)) (hw _ (List.mem_of_getElem? (i := 6) rfl)) (by decide) (rm1 l Z a0 hw ob30 ob26 3 (own_upd (own_upd (own_upd (fun _ => 0) ((0 : Int32).toNatClampNeg) (nar .byte (5 : Int32))) ((1 : Int32).toNatClampNeg) (nar .byte (0 : Int32))) ((2 : Int32).toNatClampNeg) (nar .byte (x1.toInt8.toInt32))) hh30 n0 Z0 E_ob30 F_ob30_bytes F_ob30_position F_ob30_end g_ob30 A_ob26 ne_ob26_ob30) (by decide) (by decide) e30 rfl (by rw [hml]; rfl) (lenOf pd_4 rfl) rfl (W := 1) (by show 2 * 0 + _ ≤ _; exact Nat.le_of_eq rfl) (hb hby at_129) (by decide) (by decide) fun v31 T31 hh31 L31 X31 e31 hQ31 => ?_
        obtain ⟨rfl, NL31, KK31, P31_0, P31_1, P31_2⟩ := hQ31
        have A_ob26 := A_ob26.keep KK31 (by simp [ne_ob26_ob30])
        have E_ob30 := E_ob30.keep KK31
        have F_ob30_bytes := P31_0
        have F_ob30_position := P31_1
        have F_ob30_end := P31_2
        have Z0 := Nat.le_trans Z0 KK31.1
        have hk := Nat.le_trans hk KK31.1
        have N31 := Fr.app N29 NL31
        show own_Out p e below _ T31 (mkF m 132 #[.val (.int x0), .val (.int x1), .val (.int x2), .val (.int (0 : Int32)), .val (.int (1 : Int32)), .val (.int (1 : Int32)), .val (.int x2), .val (.ref ob26), .unset, .unset, .unset, .unset] [(.ref ob30)]) _ _ _
        rw [show (Nat.toInt32 3) = (3 : Int32) from by decide] at F_ob30_end
        refine own_to (fun t k => XS.astore X31.here hx rfl (hb hby at_132) rfl rfl (l' := #[.val (.int x0), .val (.int x1), .val (.int x2), .val (.int (0 : Int32)), .val (.int (1 : Int32)), .val (.int (1 : Int32)), .val (.int x2), .val (.ref ob26), .val (.ref ob30), .unset, .unset, .unset]) rfl k) ?_
        show own_Out p e below _ T31 (mkF m 134 #[.val (.int x0), .val (.int x1), .val (.int x2), .val (.int (0 : Int32)), .val (.int (1 : Int32)), .val (.int (1 : Int32)), .val (.int x2), .val (.ref ob26), .val (.ref ob30), .unset, .unset, .unset] []) _ _ _
        refine own_to (fun t k => XS.iload X31.here hx rfl (hb hby at_134) rfl k) ?_
        show own_Out p e below _ T31 (mkF m 136 #[.val (.int x0), .val (.int x1), .val (.int x2), .val (.int (0 : Int32)), .val (.int (1 : Int32)), .val (.int (1 : Int32)), .val (.int x2), .val (.ref ob26), .val (.ref ob30), .unset, .unset, .unset] [(.int (1 : Int32))]) _ _ _
        have hc136 : ¬ ((1 : Int32) = (0 : Int32)) := by decide
        refine own_to (fun t k => XS.ifNo X31.here hx rfl (hb hby at_136) rfl ((if0 _ _).trans (feq hc136).1) k) ?_
        show own_Out p e below _ T31 (mkF m 139 #[.val (.int x0), .val (.int x1), .val (.int x2), .val (.int (0 : Int32)), .val (.int (1 : Int32)), .val (.int (1 : Int32)), .val (.int x2), .val (.ref ob26), .val (.ref ob30), .unset, .unset, .unset] []) _ _ _
        refine own_to (fun t k => XS.aload X31.here hx rfl (hb hby at_139) rfl rfl k) ?_
        show own_Out p e below _ T31 (mkF m 141 #[.val (.int x0), .val (.int x1), .val (.int x2), .val (.int (0 : Int32)), .val (.int (1 : Int32)), .val (.int (1 : Int32)), .val (.int x2), .val (.ref ob26), .val (.ref ob30), .unset, .unset, .unset] [(.ref ob30)]) _ _ _
        refine own_callVW X31 hx hZ hown hS hk (a := ob30) (argsL := []) (rest := []) (hw _ (List.mem_of_getElem? (i := 30) rfl)) (hw _ (List.mem_of_getElem? (i := 31) rfl)) (hw _ (List.mem_of_getElem? (i := 33) rfl)) (hw _ (List.mem_of_getElem? (i := 32) rfl)) (hw _ (List.mem_of_getElem? (i := 3) rfl)) (hw _ (List.mem_of_getElem? (i := 34) rfl)) (by decide) (rm6 l Z a0 hw ob30 (0 : Int32) (3 : Int32) ob26 3 (own_upd (own_upd (own_upd (fun _ => 0) ((0 : Int32).toNatClampNeg) (nar .byte (5 : Int32))) ((1 : Int32).toNatClampNeg) (nar .byte (0 : Int32))) ((2 : Int32).toNatClampNeg) (nar .byte (x1.toInt8.toInt32))) (5 : Int32) (0 : Int32) hh31 n0 Z0 E_ob30 F_ob30_bytes F_ob30_position F_ob30_end A_ob26 g_ob30 ne_ob26_ob30 (by decide) (by decide) ((show (5 : Int32) = ((nar .byte (5 : Int32)) &&& (255 : Int32)) from by decide).trans (congrArg (fun z => z &&& (255 : Int32)) ((own_miss (by decide)).trans ((own_miss (by decide)).trans (own_hit (by decide))))).symm) (by decide) (by decide) ((show (0 : Int32) = ((nar .byte (0 : Int32)) &&& (255 : Int32)) from by decide).trans (congrArg (fun z => z &&& (255 : Int32)) ((own_miss (by decide)).trans (own_hit (by decide)))).symm) (by decide) (by decide) (by decide)) (by decide) (by decide) e31 E_ob30 rfl (by rw [hml]; rfl) (lenOf pd_6 rfl) rfl (W := 0) (by show 2 * 0 + _ ≤ _; exact Nat.le_of_eq rfl) (hb hby at_141) (by decide) (by decide) fun v32 T32 hh32 L32 X32 e32 hQ32 hZ hown hS => ?_
        obtain ⟨NL32, KK32, ob32el, rfl, szc_ob32el, P32_0, P32_1, P32_2, P32_3, P32_4, P32_5, P32_6, P32_7, P32_8⟩ := hQ32
        have ne_ob26_ob32el : ob26 ≠ ob32el := Nat.ne_of_lt (Nat.lt_of_lt_of_le A_ob26.lt szc_ob32el)
        have ne_ob32el_ob26 := Ne.symm ne_ob26_ob32el
        have ne_ob30_ob32el : ob30 ≠ ob32el := Nat.ne_of_lt (Nat.lt_of_lt_of_le E_ob30.lt szc_ob32el)
        have ne_ob32el_ob30 := Ne.symm ne_ob30_ob32el
        have g_ob32el : n0 ≤ ob32el := Nat.le_trans Z0 szc_ob32el
        have A_ob26 := A_ob26.keep KK32 (by simp [ne_ob26_ob30])
        have E_ob30 := E_ob30.keep KK32
        have F_ob30_bytes := P32_0
        have F_ob30_position := P32_1
        have F_ob30_end := P32_2
        have E_ob32el := P32_3
        have F_ob32el_bytes := P32_4
        have F_ob32el_tag := P32_5
        have F_ob32el_start := P32_6
        have F_ob32el_contents := P32_7
        have F_ob32el_end := P32_8
        have Z0 := Nat.le_trans Z0 KK32.1
        have hk := Nat.le_refl hh32.size
        have N32 := Fr.app N31 NL32
        show own_Out p e below _ T32 (mkF m 144 #[.val (.int x0), .val (.int x1), .val (.int x2), .val (.int (0 : Int32)), .val (.int (1 : Int32)), .val (.int (1 : Int32)), .val (.int x2), .val (.ref ob26), .val (.ref ob30), .unset, .unset, .unset] [(.ref ob32el)]) _ _ _
        rw [show ((((0 : Int32) + (1 : Int32)) + (1 : Int32)) + (((0 : Int32).toInt64).toInt32)) = (2 : Int32) from by decide] at F_ob30_position
        rw [show (((0 : Int32) + (1 : Int32)) + (1 : Int32)) = (2 : Int32) from by decide] at F_ob32el_contents
        rw [show ((((0 : Int32) + (1 : Int32)) + (1 : Int32)) + (((0 : Int32).toInt64).toInt32)) = (2 : Int32) from by decide] at F_ob32el_end
        refine own_to (fun t k => XS.pop X32.here hx rfl (hb hby at_144) rfl rfl k) ?_
        show own_Out p e below _ T32 (mkF m 145 #[.val (.int x0), .val (.int x1), .val (.int x2), .val (.int (0 : Int32)), .val (.int (1 : Int32)), .val (.int (1 : Int32)), .val (.int x2), .val (.ref ob26), .val (.ref ob30), .unset, .unset, .unset] []) _ _ _
        refine own_to (fun t k => XS.iload X32.here hx rfl (hb hby at_145) rfl k) ?_
        show own_Out p e below _ T32 (mkF m 147 #[.val (.int x0), .val (.int x1), .val (.int x2), .val (.int (0 : Int32)), .val (.int (1 : Int32)), .val (.int (1 : Int32)), .val (.int x2), .val (.ref ob26), .val (.ref ob30), .unset, .unset, .unset] [(.int (1 : Int32))]) _ _ _
        have hc147 : ¬ ((1 : Int32) = (0 : Int32)) := by decide
        refine own_to (fun t k => XS.ifNo X32.here hx rfl (hb hby at_147) rfl ((if0 _ _).trans (feq hc147).1) k) ?_
        show own_Out p e below _ T32 (mkF m 150 #[.val (.int x0), .val (.int x1), .val (.int x2), .val (.int (0 : Int32)), .val (.int (1 : Int32)), .val (.int (1 : Int32)), .val (.int x2), .val (.ref ob26), .val (.ref ob30), .unset, .unset, .unset] []) _ _ _
        refine own_to (fun t k => XS.iloadN X32.here hx rfl (hb hby at_150) rfl k) ?_
        show own_Out p e below _ T32 (mkF m 151 #[.val (.int x0), .val (.int x1), .val (.int x2), .val (.int (0 : Int32)), .val (.int (1 : Int32)), .val (.int (1 : Int32)), .val (.int x2), .val (.ref ob26), .val (.ref ob30), .unset, .unset, .unset] [(.int x1)]) _ _ _
        refine own_to (fun t k => XS.sipush X32.here hx rfl (hb hby at_151) k) ?_
        show own_Out p e below _ T32 (mkF m 154 #[.val (.int x0), .val (.int x1), .val (.int x2), .val (.int (0 : Int32)), .val (.int (1 : Int32)), .val (.int (1 : Int32)), .val (.int x2), .val (.ref ob26), .val (.ref ob30), .unset, .unset, .unset] [(.int (255 : Int32)), (.int x1)]) _ _ _
        refine own_to (fun t k => XS.iand X32.here hx rfl (hb hby at_154) rfl k) ?_
        show own_Out p e below _ T32 (mkF m 155 #[.val (.int x0), .val (.int x1), .val (.int x2), .val (.int (0 : Int32)), .val (.int (1 : Int32)), .val (.int (1 : Int32)), .val (.int x2), .val (.ref ob26), .val (.ref ob30), .unset, .unset, .unset] [(.int (x1 &&& (255 : Int32)))]) _ _ _
        refine own_to (fun t k => XS.iload X32.here hx rfl (hb hby at_155) rfl k) ?_
        show own_Out p e below _ T32 (mkF m 157 #[.val (.int x0), .val (.int x1), .val (.int x2), .val (.int (0 : Int32)), .val (.int (1 : Int32)), .val (.int (1 : Int32)), .val (.int x2), .val (.ref ob26), .val (.ref ob30), .unset, .unset, .unset] [(.int x2), (.int (x1 &&& (255 : Int32)))]) _ _ _
        by_cases hc157 : (x1 &&& (255 : Int32)) = x2
        · refine own_to (fun t k => XS.icmpNo X32.here hx rfl (hb hby at_157) rfl (teq hc157).2 k) ?_
          show own_Out p e below _ T32 (mkF m 160 #[.val (.int x0), .val (.int x1), .val (.int x2), .val (.int (0 : Int32)), .val (.int (1 : Int32)), .val (.int (1 : Int32)), .val (.int x2), .val (.ref ob26), .val (.ref ob30), .unset, .unset, .unset] []) _ _ _
          refine own_to (fun t k => XS.iconst X32.here hx rfl (hb hby at_160) k) ?_
          show own_Out p e below _ T32 (mkF m 161 #[.val (.int x0), .val (.int x1), .val (.int x2), .val (.int (0 : Int32)), .val (.int (1 : Int32)), .val (.int (1 : Int32)), .val (.int x2), .val (.ref ob26), .val (.ref ob30), .unset, .unset, .unset] [(.int (1 : Int32))]) _ _ _
          refine own_to (fun t k => XS.goto X32.here hx rfl (pc0 := 161) (pc' := 165) rfl (hb hby at_161) (by decide) (by decide) k) ?_
          show own_Out p e below _ T32 (mkF m 165 #[.val (.int x0), .val (.int x1), .val (.int x2), .val (.int (0 : Int32)), .val (.int (1 : Int32)), .val (.int (1 : Int32)), .val (.int x2), .val (.ref ob26), .val (.ref ob30), .unset, .unset, .unset] [(.int (1 : Int32))]) _ _ _
          refine own_to (fun t k => XS.istore X32.here hx rfl (hb hby at_165) rfl (l' := #[.val (.int x0), .val (.int x1), .val (.int x2), .val (.int (0 : Int32)), .val (.int (1 : Int32)), .val (.int (1 : Int32)), .val (.int x2), .val (.ref ob26), .val (.ref ob30), .val (.int (1 : Int32)), .unset, .unset]) rfl k) ?_
          show own_Out p e below _ T32 (mkF m 167 #[.val (.int x0), .val (.int x1), .val (.int x2), .val (.int (0 : Int32)), .val (.int (1 : Int32)), .val (.int (1 : Int32)), .val (.int x2), .val (.ref ob26), .val (.ref ob30), .val (.int (1 : Int32)), .unset, .unset] []) _ _ _
          refine own_to (fun t k => XS.aload X32.here hx rfl (hb hby at_167) rfl rfl k) ?_
          show own_Out p e below _ T32 (mkF m 169 #[.val (.int x0), .val (.int x1), .val (.int x2), .val (.int (0 : Int32)), .val (.int (1 : Int32)), .val (.int (1 : Int32)), .val (.int x2), .val (.ref ob26), .val (.ref ob30), .val (.int (1 : Int32)), .unset, .unset] [(.ref ob30)]) _ _ _
          refine own_to (fun t k => XS.iload X32.here hx rfl (hb hby at_169) rfl k) ?_
          show own_Out p e below _ T32 (mkF m 171 #[.val (.int x0), .val (.int x1), .val (.int x2), .val (.int (0 : Int32)), .val (.int (1 : Int32)), .val (.int (1 : Int32)), .val (.int x2), .val (.ref ob26), .val (.ref ob30), .val (.int (1 : Int32)), .unset, .unset] [(.int x2), (.ref ob30)]) _ _ _
          refine own_callV X32 hx hZ hown (a := ob30) (argsL := [(.int x2)]) (rest := []) (hw _ (List.mem_of_getElem? (i := 19) rfl)) (hw _ (List.mem_of_getElem? (i := 20) rfl)) (hw _ (List.mem_of_getElem? (i := 22) rfl)) (hw _ (List.mem_of_getElem? (i := 21) rfl)) (hw _ (List.mem_of_getElem? (i := 3) rfl)) (hw _ (List.mem_of_getElem? (i := 23) rfl)) (by decide) (rm4 l Z a0 hw ob30 x2 (2 : Int32) (3 : Int32) ob26 3 (own_upd (own_upd (own_upd (fun _ => 0) ((0 : Int32).toNatClampNeg) (nar .byte (5 : Int32))) ((1 : Int32).toNatClampNeg) (nar .byte (0 : Int32))) ((2 : Int32).toNatClampNeg) (nar .byte (x1.toInt8.toInt32))) hh32 n0 Z0 E_ob30 F_ob30_bytes F_ob30_position F_ob30_end A_ob26 (by decide)) (by decide) (by decide) e32 E_ob30 rfl (by rw [hml]; rfl) (lenOf pd_5 rfl) rfl (W := 0) (by show 2 * 0 + _ ≤ _; exact Nat.le_of_eq rfl) (hb hby at_171) (by decide) (by decide) fun v33 T33 hh33 L33 X33 e33 hQ33 => ?_
          obtain ⟨rfl, NL33, he33⟩ := hQ33
          replace e33 := e33.trans he33
          have N33 := Fr.app N32 NL33
          show own_Out p e below _ T33 (mkF m 174 #[.val (.int x0), .val (.int x1), .val (.int x2), .val (.int (0 : Int32)), .val (.int (1 : Int32)), .val (.int (1 : Int32)), .val (.int x2), .val (.ref ob26), .val (.ref ob30), .val (.int (1 : Int32)), .unset, .unset] [(.int (R4 ob30 x2 (2 : Int32) (3 : Int32) ob26 3 (own_upd (own_upd (own_upd (fun _ => 0) ((0 : Int32).toNatClampNeg) (nar .byte (5 : Int32))) ((1 : Int32).toNatClampNeg) (nar .byte (0 : Int32))) ((2 : Int32).toNatClampNeg) (nar .byte (x1.toInt8.toInt32)))))]) _ _ _
          refine own_to (fun t k => XS.istore X33.here hx rfl (hb hby at_174) rfl (l' := #[.val (.int x0), .val (.int x1), .val (.int x2), .val (.int (0 : Int32)), .val (.int (1 : Int32)), .val (.int (1 : Int32)), .val (.int x2), .val (.ref ob26), .val (.ref ob30), .val (.int (1 : Int32)), .val (.int (R4 ob30 x2 (2 : Int32) (3 : Int32) ob26 3 (own_upd (own_upd (own_upd (fun _ => 0) ((0 : Int32).toNatClampNeg) (nar .byte (5 : Int32))) ((1 : Int32).toNatClampNeg) (nar .byte (0 : Int32))) ((2 : Int32).toNatClampNeg) (nar .byte (x1.toInt8.toInt32))))), .unset]) rfl k) ?_
          show own_Out p e below _ T33 (mkF m 176 #[.val (.int x0), .val (.int x1), .val (.int x2), .val (.int (0 : Int32)), .val (.int (1 : Int32)), .val (.int (1 : Int32)), .val (.int x2), .val (.ref ob26), .val (.ref ob30), .val (.int (1 : Int32)), .val (.int (R4 ob30 x2 (2 : Int32) (3 : Int32) ob26 3 (own_upd (own_upd (own_upd (fun _ => 0) ((0 : Int32).toNatClampNeg) (nar .byte (5 : Int32))) ((1 : Int32).toNatClampNeg) (nar .byte (0 : Int32))) ((2 : Int32).toNatClampNeg) (nar .byte (x1.toInt8.toInt32))))), .unset] []) _ _ _
          refine own_to (fun t k => XS.aload X33.here hx rfl (hb hby at_176) rfl rfl k) ?_
          show own_Out p e below _ T33 (mkF m 178 #[.val (.int x0), .val (.int x1), .val (.int x2), .val (.int (0 : Int32)), .val (.int (1 : Int32)), .val (.int (1 : Int32)), .val (.int x2), .val (.ref ob26), .val (.ref ob30), .val (.int (1 : Int32)), .val (.int (R4 ob30 x2 (2 : Int32) (3 : Int32) ob26 3 (own_upd (own_upd (own_upd (fun _ => 0) ((0 : Int32).toNatClampNeg) (nar .byte (5 : Int32))) ((1 : Int32).toNatClampNeg) (nar .byte (0 : Int32))) ((2 : Int32).toNatClampNeg) (nar .byte (x1.toInt8.toInt32))))), .unset] [(.ref ob30)]) _ _ _
          refine own_to (fun t k => XS.iload X33.here hx rfl (hb hby at_178) rfl k) ?_
          show own_Out p e below _ T33 (mkF m 180 #[.val (.int x0), .val (.int x1), .val (.int x2), .val (.int (0 : Int32)), .val (.int (1 : Int32)), .val (.int (1 : Int32)), .val (.int x2), .val (.ref ob26), .val (.ref ob30), .val (.int (1 : Int32)), .val (.int (R4 ob30 x2 (2 : Int32) (3 : Int32) ob26 3 (own_upd (own_upd (own_upd (fun _ => 0) ((0 : Int32).toNatClampNeg) (nar .byte (5 : Int32))) ((1 : Int32).toNatClampNeg) (nar .byte (0 : Int32))) ((2 : Int32).toNatClampNeg) (nar .byte (x1.toInt8.toInt32))))), .unset] [(.int x2), (.ref ob30)]) _ _ _
          refine own_callV X33 hx hZ hown (a := ob30) (argsL := [(.int x2)]) (rest := []) (hw _ (List.mem_of_getElem? (i := 19) rfl)) (hw _ (List.mem_of_getElem? (i := 20) rfl)) (hw _ (List.mem_of_getElem? (i := 22) rfl)) (hw _ (List.mem_of_getElem? (i := 21) rfl)) (hw _ (List.mem_of_getElem? (i := 3) rfl)) (hw _ (List.mem_of_getElem? (i := 23) rfl)) (by decide) (rm4 l Z a0 hw ob30 x2 (2 : Int32) (3 : Int32) ob26 3 (own_upd (own_upd (own_upd (fun _ => 0) ((0 : Int32).toNatClampNeg) (nar .byte (5 : Int32))) ((1 : Int32).toNatClampNeg) (nar .byte (0 : Int32))) ((2 : Int32).toNatClampNeg) (nar .byte (x1.toInt8.toInt32))) hh32 n0 Z0 E_ob30 F_ob30_bytes F_ob30_position F_ob30_end A_ob26 (by decide)) (by decide) (by decide) e33 E_ob30 rfl (by rw [hml]; rfl) (lenOf pd_5 rfl) rfl (W := 0) (by show 2 * 0 + _ ≤ _; exact Nat.le_of_eq rfl) (hb hby at_180) (by decide) (by decide) fun v34 T34 hh34 L34 X34 e34 hQ34 => ?_
          obtain ⟨rfl, NL34, he34⟩ := hQ34
          replace e34 := e34.trans he34
          have N34 := Fr.app N33 NL34
          show own_Out p e below _ T34 (mkF m 183 #[.val (.int x0), .val (.int x1), .val (.int x2), .val (.int (0 : Int32)), .val (.int (1 : Int32)), .val (.int (1 : Int32)), .val (.int x2), .val (.ref ob26), .val (.ref ob30), .val (.int (1 : Int32)), .val (.int (R4 ob30 x2 (2 : Int32) (3 : Int32) ob26 3 (own_upd (own_upd (own_upd (fun _ => 0) ((0 : Int32).toNatClampNeg) (nar .byte (5 : Int32))) ((1 : Int32).toNatClampNeg) (nar .byte (0 : Int32))) ((2 : Int32).toNatClampNeg) (nar .byte (x1.toInt8.toInt32))))), .unset] [(.int (R4 ob30 x2 (2 : Int32) (3 : Int32) ob26 3 (own_upd (own_upd (own_upd (fun _ => 0) ((0 : Int32).toNatClampNeg) (nar .byte (5 : Int32))) ((1 : Int32).toNatClampNeg) (nar .byte (0 : Int32))) ((2 : Int32).toNatClampNeg) (nar .byte (x1.toInt8.toInt32)))))]) _ _ _
          refine own_to (fun t k => XS.istore X34.here hx rfl (hb hby at_183) rfl (l' := #[.val (.int x0), .val (.int x1), .val (.int x2), .val (.int (0 : Int32)), .val (.int (1 : Int32)), .val (.int (1 : Int32)), .val (.int x2), .val (.ref ob26), .val (.ref ob30), .val (.int (1 : Int32)), .val (.int (R4 ob30 x2 (2 : Int32) (3 : Int32) ob26 3 (own_upd (own_upd (own_upd (fun _ => 0) ((0 : Int32).toNatClampNeg) (nar .byte (5 : Int32))) ((1 : Int32).toNatClampNeg) (nar .byte (0 : Int32))) ((2 : Int32).toNatClampNeg) (nar .byte (x1.toInt8.toInt32))))), .val (.int (R4 ob30 x2 (2 : Int32) (3 : Int32) ob26 3 (own_upd (own_upd (own_upd (fun _ => 0) ((0 : Int32).toNatClampNeg) (nar .byte (5 : Int32))) ((1 : Int32).toNatClampNeg) (nar .byte (0 : Int32))) ((2 : Int32).toNatClampNeg) (nar .byte (x1.toInt8.toInt32)))))]) rfl k) ?_
          show own_Out p e below _ T34 (mkF m 185 #[.val (.int x0), .val (.int x1), .val (.int x2), .val (.int (0 : Int32)), .val (.int (1 : Int32)), .val (.int (1 : Int32)), .val (.int x2), .val (.ref ob26), .val (.ref ob30), .val (.int (1 : Int32)), .val (.int (R4 ob30 x2 (2 : Int32) (3 : Int32) ob26 3 (own_upd (own_upd (own_upd (fun _ => 0) ((0 : Int32).toNatClampNeg) (nar .byte (5 : Int32))) ((1 : Int32).toNatClampNeg) (nar .byte (0 : Int32))) ((2 : Int32).toNatClampNeg) (nar .byte (x1.toInt8.toInt32))))), .val (.int (R4 ob30 x2 (2 : Int32) (3 : Int32) ob26 3 (own_upd (own_upd (own_upd (fun _ => 0) ((0 : Int32).toNatClampNeg) (nar .byte (5 : Int32))) ((1 : Int32).toNatClampNeg) (nar .byte (0 : Int32))) ((2 : Int32).toNatClampNeg) (nar .byte (x1.toInt8.toInt32)))))] []) _ _ _
          refine own_to (fun t k => XS.iload X34.here hx rfl (hb hby at_185) rfl k) ?_
          show own_Out p e below _ T34 (mkF m 187 #[.val (.int x0), .val (.int x1), .val (.int x2), .val (.int (0 : Int32)), .val (.int (1 : Int32)), .val (.int (1 : Int32)), .val (.int x2), .val (.ref ob26), .val (.ref ob30), .val (.int (1 : Int32)), .val (.int (R4 ob30 x2 (2 : Int32) (3 : Int32) ob26 3 (own_upd (own_upd (own_upd (fun _ => 0) ((0 : Int32).toNatClampNeg) (nar .byte (5 : Int32))) ((1 : Int32).toNatClampNeg) (nar .byte (0 : Int32))) ((2 : Int32).toNatClampNeg) (nar .byte (x1.toInt8.toInt32))))), .val (.int (R4 ob30 x2 (2 : Int32) (3 : Int32) ob26 3 (own_upd (own_upd (own_upd (fun _ => 0) ((0 : Int32).toNatClampNeg) (nar .byte (5 : Int32))) ((1 : Int32).toNatClampNeg) (nar .byte (0 : Int32))) ((2 : Int32).toNatClampNeg) (nar .byte (x1.toInt8.toInt32)))))] [(.int (R4 ob30 x2 (2 : Int32) (3 : Int32) ob26 3 (own_upd (own_upd (own_upd (fun _ => 0) ((0 : Int32).toNatClampNeg) (nar .byte (5 : Int32))) ((1 : Int32).toNatClampNeg) (nar .byte (0 : Int32))) ((2 : Int32).toNatClampNeg) (nar .byte (x1.toInt8.toInt32)))))]) _ _ _
          refine own_to (fun t k => XS.iload X34.here hx rfl (hb hby at_187) rfl k) ?_
          show own_Out p e below _ T34 (mkF m 189 #[.val (.int x0), .val (.int x1), .val (.int x2), .val (.int (0 : Int32)), .val (.int (1 : Int32)), .val (.int (1 : Int32)), .val (.int x2), .val (.ref ob26), .val (.ref ob30), .val (.int (1 : Int32)), .val (.int (R4 ob30 x2 (2 : Int32) (3 : Int32) ob26 3 (own_upd (own_upd (own_upd (fun _ => 0) ((0 : Int32).toNatClampNeg) (nar .byte (5 : Int32))) ((1 : Int32).toNatClampNeg) (nar .byte (0 : Int32))) ((2 : Int32).toNatClampNeg) (nar .byte (x1.toInt8.toInt32))))), .val (.int (R4 ob30 x2 (2 : Int32) (3 : Int32) ob26 3 (own_upd (own_upd (own_upd (fun _ => 0) ((0 : Int32).toNatClampNeg) (nar .byte (5 : Int32))) ((1 : Int32).toNatClampNeg) (nar .byte (0 : Int32))) ((2 : Int32).toNatClampNeg) (nar .byte (x1.toInt8.toInt32)))))] [(.int (1 : Int32)), (.int (R4 ob30 x2 (2 : Int32) (3 : Int32) ob26 3 (own_upd (own_upd (own_upd (fun _ => 0) ((0 : Int32).toNatClampNeg) (nar .byte (5 : Int32))) ((1 : Int32).toNatClampNeg) (nar .byte (0 : Int32))) ((2 : Int32).toNatClampNeg) (nar .byte (x1.toInt8.toInt32)))))]) _ _ _
          have hc189 : (R4 ob30 x2 (2 : Int32) (3 : Int32) ob26 3 (own_upd (own_upd (own_upd (fun _ => 0) ((0 : Int32).toNatClampNeg) (nar .byte (5 : Int32))) ((1 : Int32).toNatClampNeg) (nar .byte (0 : Int32))) ((2 : Int32).toNatClampNeg) (nar .byte (x1.toInt8.toInt32)))) = (1 : Int32) := (own_ni _ _ _ _ _ _ _).2.1 (by decide) (((congrArg (fun z => z &&& (255 : Int32)) (own_hit (by decide))).trans (own_by x1)).trans hc157)
          refine own_to (fun t k => XS.icmpNo X34.here hx rfl (hb hby at_189) rfl (teq hc189).2 k) ?_
          show own_Out p e below _ T34 (mkF m 192 #[.val (.int x0), .val (.int x1), .val (.int x2), .val (.int (0 : Int32)), .val (.int (1 : Int32)), .val (.int (1 : Int32)), .val (.int x2), .val (.ref ob26), .val (.ref ob30), .val (.int (1 : Int32)), .val (.int (R4 ob30 x2 (2 : Int32) (3 : Int32) ob26 3 (own_upd (own_upd (own_upd (fun _ => 0) ((0 : Int32).toNatClampNeg) (nar .byte (5 : Int32))) ((1 : Int32).toNatClampNeg) (nar .byte (0 : Int32))) ((2 : Int32).toNatClampNeg) (nar .byte (x1.toInt8.toInt32))))), .val (.int (R4 ob30 x2 (2 : Int32) (3 : Int32) ob26 3 (own_upd (own_upd (own_upd (fun _ => 0) ((0 : Int32).toNatClampNeg) (nar .byte (5 : Int32))) ((1 : Int32).toNatClampNeg) (nar .byte (0 : Int32))) ((2 : Int32).toNatClampNeg) (nar .byte (x1.toInt8.toInt32)))))] []) _ _ _
          refine own_to (fun t k => XS.iload X34.here hx rfl (hb hby at_192) rfl k) ?_
          show own_Out p e below _ T34 (mkF m 194 #[.val (.int x0), .val (.int x1), .val (.int x2), .val (.int (0 : Int32)), .val (.int (1 : Int32)), .val (.int (1 : Int32)), .val (.int x2), .val (.ref ob26), .val (.ref ob30), .val (.int (1 : Int32)), .val (.int (R4 ob30 x2 (2 : Int32) (3 : Int32) ob26 3 (own_upd (own_upd (own_upd (fun _ => 0) ((0 : Int32).toNatClampNeg) (nar .byte (5 : Int32))) ((1 : Int32).toNatClampNeg) (nar .byte (0 : Int32))) ((2 : Int32).toNatClampNeg) (nar .byte (x1.toInt8.toInt32))))), .val (.int (R4 ob30 x2 (2 : Int32) (3 : Int32) ob26 3 (own_upd (own_upd (own_upd (fun _ => 0) ((0 : Int32).toNatClampNeg) (nar .byte (5 : Int32))) ((1 : Int32).toNatClampNeg) (nar .byte (0 : Int32))) ((2 : Int32).toNatClampNeg) (nar .byte (x1.toInt8.toInt32)))))] [(.int (R4 ob30 x2 (2 : Int32) (3 : Int32) ob26 3 (own_upd (own_upd (own_upd (fun _ => 0) ((0 : Int32).toNatClampNeg) (nar .byte (5 : Int32))) ((1 : Int32).toNatClampNeg) (nar .byte (0 : Int32))) ((2 : Int32).toNatClampNeg) (nar .byte (x1.toInt8.toInt32)))))]) _ _ _
          refine own_to (fun t k => XS.iload X34.here hx rfl (hb hby at_194) rfl k) ?_
          show own_Out p e below _ T34 (mkF m 196 #[.val (.int x0), .val (.int x1), .val (.int x2), .val (.int (0 : Int32)), .val (.int (1 : Int32)), .val (.int (1 : Int32)), .val (.int x2), .val (.ref ob26), .val (.ref ob30), .val (.int (1 : Int32)), .val (.int (R4 ob30 x2 (2 : Int32) (3 : Int32) ob26 3 (own_upd (own_upd (own_upd (fun _ => 0) ((0 : Int32).toNatClampNeg) (nar .byte (5 : Int32))) ((1 : Int32).toNatClampNeg) (nar .byte (0 : Int32))) ((2 : Int32).toNatClampNeg) (nar .byte (x1.toInt8.toInt32))))), .val (.int (R4 ob30 x2 (2 : Int32) (3 : Int32) ob26 3 (own_upd (own_upd (own_upd (fun _ => 0) ((0 : Int32).toNatClampNeg) (nar .byte (5 : Int32))) ((1 : Int32).toNatClampNeg) (nar .byte (0 : Int32))) ((2 : Int32).toNatClampNeg) (nar .byte (x1.toInt8.toInt32)))))] [(.int (1 : Int32)), (.int (R4 ob30 x2 (2 : Int32) (3 : Int32) ob26 3 (own_upd (own_upd (own_upd (fun _ => 0) ((0 : Int32).toNatClampNeg) (nar .byte (5 : Int32))) ((1 : Int32).toNatClampNeg) (nar .byte (0 : Int32))) ((2 : Int32).toNatClampNeg) (nar .byte (x1.toInt8.toInt32)))))]) _ _ _
          have hc196 : (R4 ob30 x2 (2 : Int32) (3 : Int32) ob26 3 (own_upd (own_upd (own_upd (fun _ => 0) ((0 : Int32).toNatClampNeg) (nar .byte (5 : Int32))) ((1 : Int32).toNatClampNeg) (nar .byte (0 : Int32))) ((2 : Int32).toNatClampNeg) (nar .byte (x1.toInt8.toInt32)))) = (1 : Int32) := (own_ni _ _ _ _ _ _ _).2.1 (by decide) (((congrArg (fun z => z &&& (255 : Int32)) (own_hit (by decide))).trans (own_by x1)).trans hc157)
          refine own_to (fun t k => XS.icmpNo X34.here hx rfl (hb hby at_196) rfl (teq hc196).2 k) ?_
          show own_Out p e below _ T34 (mkF m 199 #[.val (.int x0), .val (.int x1), .val (.int x2), .val (.int (0 : Int32)), .val (.int (1 : Int32)), .val (.int (1 : Int32)), .val (.int x2), .val (.ref ob26), .val (.ref ob30), .val (.int (1 : Int32)), .val (.int (R4 ob30 x2 (2 : Int32) (3 : Int32) ob26 3 (own_upd (own_upd (own_upd (fun _ => 0) ((0 : Int32).toNatClampNeg) (nar .byte (5 : Int32))) ((1 : Int32).toNatClampNeg) (nar .byte (0 : Int32))) ((2 : Int32).toNatClampNeg) (nar .byte (x1.toInt8.toInt32))))), .val (.int (R4 ob30 x2 (2 : Int32) (3 : Int32) ob26 3 (own_upd (own_upd (own_upd (fun _ => 0) ((0 : Int32).toNatClampNeg) (nar .byte (5 : Int32))) ((1 : Int32).toNatClampNeg) (nar .byte (0 : Int32))) ((2 : Int32).toNatClampNeg) (nar .byte (x1.toInt8.toInt32)))))] []) _ _ _
          refine own_to (fun t k => XS.aload X34.here hx rfl (hb hby at_199) rfl rfl k) ?_
          show own_Out p e below _ T34 (mkF m 201 #[.val (.int x0), .val (.int x1), .val (.int x2), .val (.int (0 : Int32)), .val (.int (1 : Int32)), .val (.int (1 : Int32)), .val (.int x2), .val (.ref ob26), .val (.ref ob30), .val (.int (1 : Int32)), .val (.int (R4 ob30 x2 (2 : Int32) (3 : Int32) ob26 3 (own_upd (own_upd (own_upd (fun _ => 0) ((0 : Int32).toNatClampNeg) (nar .byte (5 : Int32))) ((1 : Int32).toNatClampNeg) (nar .byte (0 : Int32))) ((2 : Int32).toNatClampNeg) (nar .byte (x1.toInt8.toInt32))))), .val (.int (R4 ob30 x2 (2 : Int32) (3 : Int32) ob26 3 (own_upd (own_upd (own_upd (fun _ => 0) ((0 : Int32).toNatClampNeg) (nar .byte (5 : Int32))) ((1 : Int32).toNatClampNeg) (nar .byte (0 : Int32))) ((2 : Int32).toNatClampNeg) (nar .byte (x1.toInt8.toInt32)))))] [(.ref ob30)]) _ _ _
          refine own_callV X34 hx hZ hown (a := ob30) (argsL := []) (rest := []) (hw _ (List.mem_of_getElem? (i := 29) rfl)) (hw _ (List.mem_of_getElem? (i := 25) rfl)) (hw _ (List.mem_of_getElem? (i := 27) rfl)) (hw _ (List.mem_of_getElem? (i := 26) rfl)) (hw _ (List.mem_of_getElem? (i := 3) rfl)) (hw _ (List.mem_of_getElem? (i := 28) rfl)) (by decide) (rm5 l Z a0 hw ob30 (2 : Int32) (3 : Int32) hh32 n0 Z0 F_ob30_position F_ob30_end) (by decide) (by decide) e34 E_ob30 rfl (by rw [hml]; rfl) (lenOf pd_1 rfl) rfl (W := 0) (by show 2 * 0 + _ ≤ _; exact Nat.le_of_eq rfl) (hb hby at_201) (by decide) (by decide) fun v35 T35 hh35 L35 X35 e35 hQ35 => ?_
          obtain ⟨rfl, NL35, he35⟩ := hQ35
          replace e35 := e35.trans he35
          have N35 := Fr.app N34 NL35
          show own_Out p e below _ T35 (mkF m 204 #[.val (.int x0), .val (.int x1), .val (.int x2), .val (.int (0 : Int32)), .val (.int (1 : Int32)), .val (.int (1 : Int32)), .val (.int x2), .val (.ref ob26), .val (.ref ob30), .val (.int (1 : Int32)), .val (.int (R4 ob30 x2 (2 : Int32) (3 : Int32) ob26 3 (own_upd (own_upd (own_upd (fun _ => 0) ((0 : Int32).toNatClampNeg) (nar .byte (5 : Int32))) ((1 : Int32).toNatClampNeg) (nar .byte (0 : Int32))) ((2 : Int32).toNatClampNeg) (nar .byte (x1.toInt8.toInt32))))), .val (.int (R4 ob30 x2 (2 : Int32) (3 : Int32) ob26 3 (own_upd (own_upd (own_upd (fun _ => 0) ((0 : Int32).toNatClampNeg) (nar .byte (5 : Int32))) ((1 : Int32).toNatClampNeg) (nar .byte (0 : Int32))) ((2 : Int32).toNatClampNeg) (nar .byte (x1.toInt8.toInt32)))))] [(.int (R5 ob30 (2 : Int32) (3 : Int32)))]) _ _ _
          refine own_to (fun t k => XS.iload X35.here hx rfl (hb hby at_204) rfl k) ?_
          show own_Out p e below _ T35 (mkF m 206 #[.val (.int x0), .val (.int x1), .val (.int x2), .val (.int (0 : Int32)), .val (.int (1 : Int32)), .val (.int (1 : Int32)), .val (.int x2), .val (.ref ob26), .val (.ref ob30), .val (.int (1 : Int32)), .val (.int (R4 ob30 x2 (2 : Int32) (3 : Int32) ob26 3 (own_upd (own_upd (own_upd (fun _ => 0) ((0 : Int32).toNatClampNeg) (nar .byte (5 : Int32))) ((1 : Int32).toNatClampNeg) (nar .byte (0 : Int32))) ((2 : Int32).toNatClampNeg) (nar .byte (x1.toInt8.toInt32))))), .val (.int (R4 ob30 x2 (2 : Int32) (3 : Int32) ob26 3 (own_upd (own_upd (own_upd (fun _ => 0) ((0 : Int32).toNatClampNeg) (nar .byte (5 : Int32))) ((1 : Int32).toNatClampNeg) (nar .byte (0 : Int32))) ((2 : Int32).toNatClampNeg) (nar .byte (x1.toInt8.toInt32)))))] [(.int (1 : Int32)), (.int (R5 ob30 (2 : Int32) (3 : Int32)))]) _ _ _
          have hc206 : (R5 ob30 (2 : Int32) (3 : Int32)) = (1 : Int32) := own_hn1 _ _ _ (by decide)
          refine own_to (fun t k => XS.icmpNo X35.here hx rfl (hb hby at_206) rfl (teq hc206).2 k) ?_
          show own_Out p e below _ T35 (mkF m 209 #[.val (.int x0), .val (.int x1), .val (.int x2), .val (.int (0 : Int32)), .val (.int (1 : Int32)), .val (.int (1 : Int32)), .val (.int x2), .val (.ref ob26), .val (.ref ob30), .val (.int (1 : Int32)), .val (.int (R4 ob30 x2 (2 : Int32) (3 : Int32) ob26 3 (own_upd (own_upd (own_upd (fun _ => 0) ((0 : Int32).toNatClampNeg) (nar .byte (5 : Int32))) ((1 : Int32).toNatClampNeg) (nar .byte (0 : Int32))) ((2 : Int32).toNatClampNeg) (nar .byte (x1.toInt8.toInt32))))), .val (.int (R4 ob30 x2 (2 : Int32) (3 : Int32) ob26 3 (own_upd (own_upd (own_upd (fun _ => 0) ((0 : Int32).toNatClampNeg) (nar .byte (5 : Int32))) ((1 : Int32).toNatClampNeg) (nar .byte (0 : Int32))) ((2 : Int32).toNatClampNeg) (nar .byte (x1.toInt8.toInt32)))))] []) _ _ _
          refine own_to (fun t k => XS.iconst X35.here hx rfl (hb hby at_209) k) ?_
          show own_Out p e below _ T35 (mkF m 210 #[.val (.int x0), .val (.int x1), .val (.int x2), .val (.int (0 : Int32)), .val (.int (1 : Int32)), .val (.int (1 : Int32)), .val (.int x2), .val (.ref ob26), .val (.ref ob30), .val (.int (1 : Int32)), .val (.int (R4 ob30 x2 (2 : Int32) (3 : Int32) ob26 3 (own_upd (own_upd (own_upd (fun _ => 0) ((0 : Int32).toNatClampNeg) (nar .byte (5 : Int32))) ((1 : Int32).toNatClampNeg) (nar .byte (0 : Int32))) ((2 : Int32).toNatClampNeg) (nar .byte (x1.toInt8.toInt32))))), .val (.int (R4 ob30 x2 (2 : Int32) (3 : Int32) ob26 3 (own_upd (own_upd (own_upd (fun _ => 0) ((0 : Int32).toNatClampNeg) (nar .byte (5 : Int32))) ((1 : Int32).toNatClampNeg) (nar .byte (0 : Int32))) ((2 : Int32).toNatClampNeg) (nar .byte (x1.toInt8.toInt32)))))] [(.int (1 : Int32))]) _ _ _
          refine own_to (fun t k => XS.goto X35.here hx rfl (pc0 := 210) (pc' := 214) rfl (hb hby at_210) (by decide) (by decide) k) ?_
          show own_Out p e below _ T35 (mkF m 214 #[.val (.int x0), .val (.int x1), .val (.int x2), .val (.int (0 : Int32)), .val (.int (1 : Int32)), .val (.int (1 : Int32)), .val (.int x2), .val (.ref ob26), .val (.ref ob30), .val (.int (1 : Int32)), .val (.int (R4 ob30 x2 (2 : Int32) (3 : Int32) ob26 3 (own_upd (own_upd (own_upd (fun _ => 0) ((0 : Int32).toNatClampNeg) (nar .byte (5 : Int32))) ((1 : Int32).toNatClampNeg) (nar .byte (0 : Int32))) ((2 : Int32).toNatClampNeg) (nar .byte (x1.toInt8.toInt32))))), .val (.int (R4 ob30 x2 (2 : Int32) (3 : Int32) ob26 3 (own_upd (own_upd (own_upd (fun _ => 0) ((0 : Int32).toNatClampNeg) (nar .byte (5 : Int32))) ((1 : Int32).toNatClampNeg) (nar .byte (0 : Int32))) ((2 : Int32).toNatClampNeg) (nar .byte (x1.toInt8.toInt32)))))] [(.int (1 : Int32))]) _ _ _
          refine own_retVW X35 hS hk e35 hx hlk (w := .int (1 : Int32)) hret rfl (Or.inl ⟨rfl, by simp, _, rfl⟩) (hb hby at_214) (by decide) (by decide) ?_
          rw [e35]
          exact ⟨rfl, N35⟩
        · refine own_to (fun t k => XS.icmpYes X32.here hx rfl (pc0 := 157) (pc' := 164) rfl (hb hby at_157) rfl (feq hc157).2 (by decide) (by decide) k) ?_
          show own_Out p e below _ T32 (mkF m 164 #[.val (.int x0), .val (.int x1), .val (.int x2), .val (.int (0 : Int32)), .val (.int (1 : Int32)), .val (.int (1 : Int32)), .val (.int x2), .val (.ref ob26), .val (.ref ob30), .unset, .unset, .unset] []) _ _ _
          refine own_to (fun t k => XS.iconst X32.here hx rfl (hb hby at_164) k) ?_
          show own_Out p e below _ T32 (mkF m 165 #[.val (.int x0), .val (.int x1), .val (.int x2), .val (.int (0 : Int32)), .val (.int (1 : Int32)), .val (.int (1 : Int32)), .val (.int x2), .val (.ref ob26), .val (.ref ob30), .unset, .unset, .unset] [(.int (0 : Int32))]) _ _ _
          refine own_to (fun t k => XS.istore X32.here hx rfl (hb hby at_165) rfl (l' := #[.val (.int x0), .val (.int x1), .val (.int x2), .val (.int (0 : Int32)), .val (.int (1 : Int32)), .val (.int (1 : Int32)), .val (.int x2), .val (.ref ob26), .val (.ref ob30), .val (.int (0 : Int32)), .unset, .unset]) rfl k) ?_
          show own_Out p e below _ T32 (mkF m 167 #[.val (.int x0), .val (.int x1), .val (.int x2), .val (.int (0 : Int32)), .val (.int (1 : Int32)), .val (.int (1 : Int32)), .val (.int x2), .val (.ref ob26), .val (.ref ob30), .val (.int (0 : Int32)), .unset, .unset] []) _ _ _
          refine own_to (fun t k => XS.aload X32.here hx rfl (hb hby at_167) rfl rfl k) ?_
          show own_Out p e below _ T32 (mkF m 169 #[.val (.int x0), .val (.int x1), .val (.int x2), .val (.int (0 : Int32)), .val (.int (1 : Int32)), .val (.int (1 : Int32)), .val (.int x2), .val (.ref ob26), .val (.ref ob30), .val (.int (0 : Int32)), .unset, .unset] [(.ref ob30)]) _ _ _
          refine own_to (fun t k => XS.iload X32.here hx rfl (hb hby at_169) rfl k) ?_
          show own_Out p e below _ T32 (mkF m 171 #[.val (.int x0), .val (.int x1), .val (.int x2), .val (.int (0 : Int32)), .val (.int (1 : Int32)), .val (.int (1 : Int32)), .val (.int x2), .val (.ref ob26), .val (.ref ob30), .val (.int (0 : Int32)), .unset, .unset] [(.int x2), (.ref ob30)]) _ _ _
          refine own_callV X32 hx hZ hown (a := ob30) (argsL := [(.int x2)]) (rest := []) (hw _ (List.mem_of_getElem? (i := 19) rfl)) (hw _ (List.mem_of_getElem? (i := 20) rfl)) (hw _ (List.mem_of_getElem? (i := 22) rfl)) (hw _ (List.mem_of_getElem? (i := 21) rfl)) (hw _ (List.mem_of_getElem? (i := 3) rfl)) (hw _ (List.mem_of_getElem? (i := 23) rfl)) (by decide) (rm4 l Z a0 hw ob30 x2 (2 : Int32) (3 : Int32) ob26 3 (own_upd (own_upd (own_upd (fun _ => 0) ((0 : Int32).toNatClampNeg) (nar .byte (5 : Int32))) ((1 : Int32).toNatClampNeg) (nar .byte (0 : Int32))) ((2 : Int32).toNatClampNeg) (nar .byte (x1.toInt8.toInt32))) hh32 n0 Z0 E_ob30 F_ob30_bytes F_ob30_position F_ob30_end A_ob26 (by decide)) (by decide) (by decide) e32 E_ob30 rfl (by rw [hml]; rfl) (lenOf pd_5 rfl) rfl (W := 0) (by show 2 * 0 + _ ≤ _; exact Nat.le_of_eq rfl) (hb hby at_171) (by decide) (by decide) fun v36 T36 hh36 L36 X36 e36 hQ36 => ?_
          obtain ⟨rfl, NL36, he36⟩ := hQ36
          replace e36 := e36.trans he36
          have N36 := Fr.app N32 NL36
          show own_Out p e below _ T36 (mkF m 174 #[.val (.int x0), .val (.int x1), .val (.int x2), .val (.int (0 : Int32)), .val (.int (1 : Int32)), .val (.int (1 : Int32)), .val (.int x2), .val (.ref ob26), .val (.ref ob30), .val (.int (0 : Int32)), .unset, .unset] [(.int (R4 ob30 x2 (2 : Int32) (3 : Int32) ob26 3 (own_upd (own_upd (own_upd (fun _ => 0) ((0 : Int32).toNatClampNeg) (nar .byte (5 : Int32))) ((1 : Int32).toNatClampNeg) (nar .byte (0 : Int32))) ((2 : Int32).toNatClampNeg) (nar .byte (x1.toInt8.toInt32)))))]) _ _ _
          refine own_to (fun t k => XS.istore X36.here hx rfl (hb hby at_174) rfl (l' := #[.val (.int x0), .val (.int x1), .val (.int x2), .val (.int (0 : Int32)), .val (.int (1 : Int32)), .val (.int (1 : Int32)), .val (.int x2), .val (.ref ob26), .val (.ref ob30), .val (.int (0 : Int32)), .val (.int (R4 ob30 x2 (2 : Int32) (3 : Int32) ob26 3 (own_upd (own_upd (own_upd (fun _ => 0) ((0 : Int32).toNatClampNeg) (nar .byte (5 : Int32))) ((1 : Int32).toNatClampNeg) (nar .byte (0 : Int32))) ((2 : Int32).toNatClampNeg) (nar .byte (x1.toInt8.toInt32))))), .unset]) rfl k) ?_
          show own_Out p e below _ T36 (mkF m 176 #[.val (.int x0), .val (.int x1), .val (.int x2), .val (.int (0 : Int32)), .val (.int (1 : Int32)), .val (.int (1 : Int32)), .val (.int x2), .val (.ref ob26), .val (.ref ob30), .val (.int (0 : Int32)), .val (.int (R4 ob30 x2 (2 : Int32) (3 : Int32) ob26 3 (own_upd (own_upd (own_upd (fun _ => 0) ((0 : Int32).toNatClampNeg) (nar .byte (5 : Int32))) ((1 : Int32).toNatClampNeg) (nar .byte (0 : Int32))) ((2 : Int32).toNatClampNeg) (nar .byte (x1.toInt8.toInt32))))), .unset] []) _ _ _
          refine own_to (fun t k => XS.aload X36.here hx rfl (hb hby at_176) rfl rfl k) ?_
          show own_Out p e below _ T36 (mkF m 178 #[.val (.int x0), .val (.int x1), .val (.int x2), .val (.int (0 : Int32)), .val (.int (1 : Int32)), .val (.int (1 : Int32)), .val (.int x2), .val (.ref ob26), .val (.ref ob30), .val (.int (0 : Int32)), .val (.int (R4 ob30 x2 (2 : Int32) (3 : Int32) ob26 3 (own_upd (own_upd (own_upd (fun _ => 0) ((0 : Int32).toNatClampNeg) (nar .byte (5 : Int32))) ((1 : Int32).toNatClampNeg) (nar .byte (0 : Int32))) ((2 : Int32).toNatClampNeg) (nar .byte (x1.toInt8.toInt32))))), .unset] [(.ref ob30)]) _ _ _
          refine own_to (fun t k => XS.iload X36.here hx rfl (hb hby at_178) rfl k) ?_
          show own_Out p e below _ T36 (mkF m 180 #[.val (.int x0), .val (.int x1), .val (.int x2), .val (.int (0 : Int32)), .val (.int (1 : Int32)), .val (.int (1 : Int32)), .val (.int x2), .val (.ref ob26), .val (.ref ob30), .val (.int (0 : Int32)), .val (.int (R4 ob30 x2 (2 : Int32) (3 : Int32) ob26 3 (own_upd (own_upd (own_upd (fun _ => 0) ((0 : Int32).toNatClampNeg) (nar .byte (5 : Int32))) ((1 : Int32).toNatClampNeg) (nar .byte (0 : Int32))) ((2 : Int32).toNatClampNeg) (nar .byte (x1.toInt8.toInt32))))), .unset] [(.int x2), (.ref ob30)]) _ _ _
          refine own_callV X36 hx hZ hown (a := ob30) (argsL := [(.int x2)]) (rest := []) (hw _ (List.mem_of_getElem? (i := 19) rfl)) (hw _ (List.mem_of_getElem? (i := 20) rfl)) (hw _ (List.mem_of_getElem? (i := 22) rfl)) (hw _ (List.mem_of_getElem? (i := 21) rfl)) (hw _ (List.mem_of_getElem? (i := 3) rfl)) (hw _ (List.mem_of_getElem? (i := 23) rfl)) (by decide) (rm4 l Z a0 hw ob30 x2 (2 : Int32) (3 : Int32) ob26 3 (own_upd (own_upd (own_upd (fun _ => 0) ((0 : Int32).toNatClampNeg) (nar .byte (5 : Int32))) ((1 : Int32).toNatClampNeg) (nar .byte (0 : Int32))) ((2 : Int32).toNatClampNeg) (nar .byte (x1.toInt8.toInt32))) hh32 n0 Z0 E_ob30 F_ob30_bytes F_ob30_position F_ob30_end A_ob26 (by decide)) (by decide) (by decide) e36 E_ob30 rfl (by rw [hml]; rfl) (lenOf pd_5 rfl) rfl (W := 0) (by show 2 * 0 + _ ≤ _; exact Nat.le_of_eq rfl) (hb hby at_180) (by decide) (by decide) fun v37 T37 hh37 L37 X37 e37 hQ37 => ?_
          obtain ⟨rfl, NL37, he37⟩ := hQ37
          replace e37 := e37.trans he37
          have N37 := Fr.app N36 NL37
          show own_Out p e below _ T37 (mkF m 183 #[.val (.int x0), .val (.int x1), .val (.int x2), .val (.int (0 : Int32)), .val (.int (1 : Int32)), .val (.int (1 : Int32)), .val (.int x2), .val (.ref ob26), .val (.ref ob30), .val (.int (0 : Int32)), .val (.int (R4 ob30 x2 (2 : Int32) (3 : Int32) ob26 3 (own_upd (own_upd (own_upd (fun _ => 0) ((0 : Int32).toNatClampNeg) (nar .byte (5 : Int32))) ((1 : Int32).toNatClampNeg) (nar .byte (0 : Int32))) ((2 : Int32).toNatClampNeg) (nar .byte (x1.toInt8.toInt32))))), .unset] [(.int (R4 ob30 x2 (2 : Int32) (3 : Int32) ob26 3 (own_upd (own_upd (own_upd (fun _ => 0) ((0 : Int32).toNatClampNeg) (nar .byte (5 : Int32))) ((1 : Int32).toNatClampNeg) (nar .byte (0 : Int32))) ((2 : Int32).toNatClampNeg) (nar .byte (x1.toInt8.toInt32)))))]) _ _ _
          refine own_to (fun t k => XS.istore X37.here hx rfl (hb hby at_183) rfl (l' := #[.val (.int x0), .val (.int x1), .val (.int x2), .val (.int (0 : Int32)), .val (.int (1 : Int32)), .val (.int (1 : Int32)), .val (.int x2), .val (.ref ob26), .val (.ref ob30), .val (.int (0 : Int32)), .val (.int (R4 ob30 x2 (2 : Int32) (3 : Int32) ob26 3 (own_upd (own_upd (own_upd (fun _ => 0) ((0 : Int32).toNatClampNeg) (nar .byte (5 : Int32))) ((1 : Int32).toNatClampNeg) (nar .byte (0 : Int32))) ((2 : Int32).toNatClampNeg) (nar .byte (x1.toInt8.toInt32))))), .val (.int (R4 ob30 x2 (2 : Int32) (3 : Int32) ob26 3 (own_upd (own_upd (own_upd (fun _ => 0) ((0 : Int32).toNatClampNeg) (nar .byte (5 : Int32))) ((1 : Int32).toNatClampNeg) (nar .byte (0 : Int32))) ((2 : Int32).toNatClampNeg) (nar .byte (x1.toInt8.toInt32)))))]) rfl k) ?_
          show own_Out p e below _ T37 (mkF m 185 #[.val (.int x0), .val (.int x1), .val (.int x2), .val (.int (0 : Int32)), .val (.int (1 : Int32)), .val (.int (1 : Int32)), .val (.int x2), .val (.ref ob26), .val (.ref ob30), .val (.int (0 : Int32)), .val (.int (R4 ob30 x2 (2 : Int32) (3 : Int32) ob26 3 (own_upd (own_upd (own_upd (fun _ => 0) ((0 : Int32).toNatClampNeg) (nar .byte (5 : Int32))) ((1 : Int32).toNatClampNeg) (nar .byte (0 : Int32))) ((2 : Int32).toNatClampNeg) (nar .byte (x1.toInt8.toInt32))))), .val (.int (R4 ob30 x2 (2 : Int32) (3 : Int32) ob26 3 (own_upd (own_upd (own_upd (fun _ => 0) ((0 : Int32).toNatClampNeg) (nar .byte (5 : Int32))) ((1 : Int32).toNatClampNeg) (nar .byte (0 : Int32))) ((2 : Int32).toNatClampNeg) (nar .byte (x1.toInt8.toInt32)))))] []) _ _ _
          refine own_to (fun t k => XS.iload X37.here hx rfl (hb hby at_185) rfl k) ?_
          show own_Out p e below _ T37 (mkF m 187 #[.val (.int x0), .val (.int x1), .val (.int x2), .val (.int (0 : Int32)), .val (.int (1 : Int32)), .val (.int (1 : Int32)), .val (.int x2), .val (.ref ob26), .val (.ref ob30), .val (.int (0 : Int32)), .val (.int (R4 ob30 x2 (2 : Int32) (3 : Int32) ob26 3 (own_upd (own_upd (own_upd (fun _ => 0) ((0 : Int32).toNatClampNeg) (nar .byte (5 : Int32))) ((1 : Int32).toNatClampNeg) (nar .byte (0 : Int32))) ((2 : Int32).toNatClampNeg) (nar .byte (x1.toInt8.toInt32))))), .val (.int (R4 ob30 x2 (2 : Int32) (3 : Int32) ob26 3 (own_upd (own_upd (own_upd (fun _ => 0) ((0 : Int32).toNatClampNeg) (nar .byte (5 : Int32))) ((1 : Int32).toNatClampNeg) (nar .byte (0 : Int32))) ((2 : Int32).toNatClampNeg) (nar .byte (x1.toInt8.toInt32)))))] [(.int (R4 ob30 x2 (2 : Int32) (3 : Int32) ob26 3 (own_upd (own_upd (own_upd (fun _ => 0) ((0 : Int32).toNatClampNeg) (nar .byte (5 : Int32))) ((1 : Int32).toNatClampNeg) (nar .byte (0 : Int32))) ((2 : Int32).toNatClampNeg) (nar .byte (x1.toInt8.toInt32)))))]) _ _ _
          refine own_to (fun t k => XS.iload X37.here hx rfl (hb hby at_187) rfl k) ?_
          show own_Out p e below _ T37 (mkF m 189 #[.val (.int x0), .val (.int x1), .val (.int x2), .val (.int (0 : Int32)), .val (.int (1 : Int32)), .val (.int (1 : Int32)), .val (.int x2), .val (.ref ob26), .val (.ref ob30), .val (.int (0 : Int32)), .val (.int (R4 ob30 x2 (2 : Int32) (3 : Int32) ob26 3 (own_upd (own_upd (own_upd (fun _ => 0) ((0 : Int32).toNatClampNeg) (nar .byte (5 : Int32))) ((1 : Int32).toNatClampNeg) (nar .byte (0 : Int32))) ((2 : Int32).toNatClampNeg) (nar .byte (x1.toInt8.toInt32))))), .val (.int (R4 ob30 x2 (2 : Int32) (3 : Int32) ob26 3 (own_upd (own_upd (own_upd (fun _ => 0) ((0 : Int32).toNatClampNeg) (nar .byte (5 : Int32))) ((1 : Int32).toNatClampNeg) (nar .byte (0 : Int32))) ((2 : Int32).toNatClampNeg) (nar .byte (x1.toInt8.toInt32)))))] [(.int (0 : Int32)), (.int (R4 ob30 x2 (2 : Int32) (3 : Int32) ob26 3 (own_upd (own_upd (own_upd (fun _ => 0) ((0 : Int32).toNatClampNeg) (nar .byte (5 : Int32))) ((1 : Int32).toNatClampNeg) (nar .byte (0 : Int32))) ((2 : Int32).toNatClampNeg) (nar .byte (x1.toInt8.toInt32)))))]) _ _ _
          have hc189 : (R4 ob30 x2 (2 : Int32) (3 : Int32) ob26 3 (own_upd (own_upd (own_upd (fun _ => 0) ((0 : Int32).toNatClampNeg) (nar .byte (5 : Int32))) ((1 : Int32).toNatClampNeg) (nar .byte (0 : Int32))) ((2 : Int32).toNatClampNeg) (nar .byte (x1.toInt8.toInt32)))) = (0 : Int32) := (own_ni _ _ _ _ _ _ _).2.2 (by decide) (fun q => hc157 (((congrArg (fun z => z &&& (255 : Int32)) (own_hit (by decide))).trans (own_by x1)).symm.trans q))
          refine own_to (fun t k => XS.icmpNo X37.here hx rfl (hb hby at_189) rfl (teq hc189).2 k) ?_
          show own_Out p e below _ T37 (mkF m 192 #[.val (.int x0), .val (.int x1), .val (.int x2), .val (.int (0 : Int32)), .val (.int (1 : Int32)), .val (.int (1 : Int32)), .val (.int x2), .val (.ref ob26), .val (.ref ob30), .val (.int (0 : Int32)), .val (.int (R4 ob30 x2 (2 : Int32) (3 : Int32) ob26 3 (own_upd (own_upd (own_upd (fun _ => 0) ((0 : Int32).toNatClampNeg) (nar .byte (5 : Int32))) ((1 : Int32).toNatClampNeg) (nar .byte (0 : Int32))) ((2 : Int32).toNatClampNeg) (nar .byte (x1.toInt8.toInt32))))), .val (.int (R4 ob30 x2 (2 : Int32) (3 : Int32) ob26 3 (own_upd (own_upd (own_upd (fun _ => 0) ((0 : Int32).toNatClampNeg) (nar .byte (5 : Int32))) ((1 : Int32).toNatClampNeg) (nar .byte (0 : Int32))) ((2 : Int32).toNatClampNeg) (nar .byte (x1.toInt8.toInt32)))))] []) _ _ _
          refine own_to (fun t k => XS.iload X37.here hx rfl (hb hby at_192) rfl k) ?_
          show own_Out p e below _ T37 (mkF m 194 #[.val (.int x0), .val (.int x1), .val (.int x2), .val (.int (0 : Int32)), .val (.int (1 : Int32)), .val (.int (1 : Int32)), .val (.int x2), .val (.ref ob26), .val (.ref ob30), .val (.int (0 : Int32)), .val (.int (R4 ob30 x2 (2 : Int32) (3 : Int32) ob26 3 (own_upd (own_upd (own_upd (fun _ => 0) ((0 : Int32).toNatClampNeg) (nar .byte (5 : Int32))) ((1 : Int32).toNatClampNeg) (nar .byte (0 : Int32))) ((2 : Int32).toNatClampNeg) (nar .byte (x1.toInt8.toInt32))))), .val (.int (R4 ob30 x2 (2 : Int32) (3 : Int32) ob26 3 (own_upd (own_upd (own_upd (fun _ => 0) ((0 : Int32).toNatClampNeg) (nar .byte (5 : Int32))) ((1 : Int32).toNatClampNeg) (nar .byte (0 : Int32))) ((2 : Int32).toNatClampNeg) (nar .byte (x1.toInt8.toInt32)))))] [(.int (R4 ob30 x2 (2 : Int32) (3 : Int32) ob26 3 (own_upd (own_upd (own_upd (fun _ => 0) ((0 : Int32).toNatClampNeg) (nar .byte (5 : Int32))) ((1 : Int32).toNatClampNeg) (nar .byte (0 : Int32))) ((2 : Int32).toNatClampNeg) (nar .byte (x1.toInt8.toInt32)))))]) _ _ _
          refine own_to (fun t k => XS.iload X37.here hx rfl (hb hby at_194) rfl k) ?_
          show own_Out p e below _ T37 (mkF m 196 #[.val (.int x0), .val (.int x1), .val (.int x2), .val (.int (0 : Int32)), .val (.int (1 : Int32)), .val (.int (1 : Int32)), .val (.int x2), .val (.ref ob26), .val (.ref ob30), .val (.int (0 : Int32)), .val (.int (R4 ob30 x2 (2 : Int32) (3 : Int32) ob26 3 (own_upd (own_upd (own_upd (fun _ => 0) ((0 : Int32).toNatClampNeg) (nar .byte (5 : Int32))) ((1 : Int32).toNatClampNeg) (nar .byte (0 : Int32))) ((2 : Int32).toNatClampNeg) (nar .byte (x1.toInt8.toInt32))))), .val (.int (R4 ob30 x2 (2 : Int32) (3 : Int32) ob26 3 (own_upd (own_upd (own_upd (fun _ => 0) ((0 : Int32).toNatClampNeg) (nar .byte (5 : Int32))) ((1 : Int32).toNatClampNeg) (nar .byte (0 : Int32))) ((2 : Int32).toNatClampNeg) (nar .byte (x1.toInt8.toInt32)))))] [(.int (0 : Int32)), (.int (R4 ob30 x2 (2 : Int32) (3 : Int32) ob26 3 (own_upd (own_upd (own_upd (fun _ => 0) ((0 : Int32).toNatClampNeg) (nar .byte (5 : Int32))) ((1 : Int32).toNatClampNeg) (nar .byte (0 : Int32))) ((2 : Int32).toNatClampNeg) (nar .byte (x1.toInt8.toInt32)))))]) _ _ _
          have hc196 : (R4 ob30 x2 (2 : Int32) (3 : Int32) ob26 3 (own_upd (own_upd (own_upd (fun _ => 0) ((0 : Int32).toNatClampNeg) (nar .byte (5 : Int32))) ((1 : Int32).toNatClampNeg) (nar .byte (0 : Int32))) ((2 : Int32).toNatClampNeg) (nar .byte (x1.toInt8.toInt32)))) = (0 : Int32) := (own_ni _ _ _ _ _ _ _).2.2 (by decide) (fun q => hc157 (((congrArg (fun z => z &&& (255 : Int32)) (own_hit (by decide))).trans (own_by x1)).symm.trans q))
          refine own_to (fun t k => XS.icmpNo X37.here hx rfl (hb hby at_196) rfl (teq hc196).2 k) ?_
          show own_Out p e below _ T37 (mkF m 199 #[.val (.int x0), .val (.int x1), .val (.int x2), .val (.int (0 : Int32)), .val (.int (1 : Int32)), .val (.int (1 : Int32)), .val (.int x2), .val (.ref ob26), .val (.ref ob30), .val (.int (0 : Int32)), .val (.int (R4 ob30 x2 (2 : Int32) (3 : Int32) ob26 3 (own_upd (own_upd (own_upd (fun _ => 0) ((0 : Int32).toNatClampNeg) (nar .byte (5 : Int32))) ((1 : Int32).toNatClampNeg) (nar .byte (0 : Int32))) ((2 : Int32).toNatClampNeg) (nar .byte (x1.toInt8.toInt32))))), .val (.int (R4 ob30 x2 (2 : Int32) (3 : Int32) ob26 3 (own_upd (own_upd (own_upd (fun _ => 0) ((0 : Int32).toNatClampNeg) (nar .byte (5 : Int32))) ((1 : Int32).toNatClampNeg) (nar .byte (0 : Int32))) ((2 : Int32).toNatClampNeg) (nar .byte (x1.toInt8.toInt32)))))] []) _ _ _
          refine own_to (fun t k => XS.aload X37.here hx rfl (hb hby at_199) rfl rfl k) ?_
          show own_Out p e below _ T37 (mkF m 201 #[.val (.int x0), .val (.int x1), .val (.int x2), .val (.int (0 : Int32)), .val (.int (1 : Int32)), .val (.int (1 : Int32)), .val (.int x2), .val (.ref ob26), .val (.ref ob30), .val (.int (0 : Int32)), .val (.int (R4 ob30 x2 (2 : Int32) (3 : Int32) ob26 3 (own_upd (own_upd (own_upd (fun _ => 0) ((0 : Int32).toNatClampNeg) (nar .byte (5 : Int32))) ((1 : Int32).toNatClampNeg) (nar .byte (0 : Int32))) ((2 : Int32).toNatClampNeg) (nar .byte (x1.toInt8.toInt32))))), .val (.int (R4 ob30 x2 (2 : Int32) (3 : Int32) ob26 3 (own_upd (own_upd (own_upd (fun _ => 0) ((0 : Int32).toNatClampNeg) (nar .byte (5 : Int32))) ((1 : Int32).toNatClampNeg) (nar .byte (0 : Int32))) ((2 : Int32).toNatClampNeg) (nar .byte (x1.toInt8.toInt32)))))] [(.ref ob30)]) _ _ _
          refine own_callV X37 hx hZ hown (a := ob30) (argsL := []) (rest := []) (hw _ (List.mem_of_getElem? (i := 29) rfl)) (hw _ (List.mem_of_getElem? (i := 25) rfl)) (hw _ (List.mem_of_getElem? (i := 27) rfl)) (hw _ (List.mem_of_getElem? (i := 26) rfl)) (hw _ (List.mem_of_getElem? (i := 3) rfl)) (hw _ (List.mem_of_getElem? (i := 28) rfl)) (by decide) (rm5 l Z a0 hw ob30 (2 : Int32) (3 : Int32) hh32 n0 Z0 F_ob30_position F_ob30_end) (by decide) (by decide) e37 E_ob30 rfl (by rw [hml]; rfl) (lenOf pd_1 rfl) rfl (W := 0) (by show 2 * 0 + _ ≤ _; exact Nat.le_of_eq rfl) (hb hby at_201) (by decide) (by decide) fun v38 T38 hh38 L38 X38 e38 hQ38 => ?_
          obtain ⟨rfl, NL38, he38⟩ := hQ38
          replace e38 := e38.trans he38
          have N38 := Fr.app N37 NL38
          show own_Out p e below _ T38 (mkF m 204 #[.val (.int x0), .val (.int x1), .val (.int x2), .val (.int (0 : Int32)), .val (.int (1 : Int32)), .val (.int (1 : Int32)), .val (.int x2), .val (.ref ob26), .val (.ref ob30), .val (.int (0 : Int32)), .val (.int (R4 ob30 x2 (2 : Int32) (3 : Int32) ob26 3 (own_upd (own_upd (own_upd (fun _ => 0) ((0 : Int32).toNatClampNeg) (nar .byte (5 : Int32))) ((1 : Int32).toNatClampNeg) (nar .byte (0 : Int32))) ((2 : Int32).toNatClampNeg) (nar .byte (x1.toInt8.toInt32))))), .val (.int (R4 ob30 x2 (2 : Int32) (3 : Int32) ob26 3 (own_upd (own_upd (own_upd (fun _ => 0) ((0 : Int32).toNatClampNeg) (nar .byte (5 : Int32))) ((1 : Int32).toNatClampNeg) (nar .byte (0 : Int32))) ((2 : Int32).toNatClampNeg) (nar .byte (x1.toInt8.toInt32)))))] [(.int (R5 ob30 (2 : Int32) (3 : Int32)))]) _ _ _
          refine own_to (fun t k => XS.iload X38.here hx rfl (hb hby at_204) rfl k) ?_
          show own_Out p e below _ T38 (mkF m 206 #[.val (.int x0), .val (.int x1), .val (.int x2), .val (.int (0 : Int32)), .val (.int (1 : Int32)), .val (.int (1 : Int32)), .val (.int x2), .val (.ref ob26), .val (.ref ob30), .val (.int (0 : Int32)), .val (.int (R4 ob30 x2 (2 : Int32) (3 : Int32) ob26 3 (own_upd (own_upd (own_upd (fun _ => 0) ((0 : Int32).toNatClampNeg) (nar .byte (5 : Int32))) ((1 : Int32).toNatClampNeg) (nar .byte (0 : Int32))) ((2 : Int32).toNatClampNeg) (nar .byte (x1.toInt8.toInt32))))), .val (.int (R4 ob30 x2 (2 : Int32) (3 : Int32) ob26 3 (own_upd (own_upd (own_upd (fun _ => 0) ((0 : Int32).toNatClampNeg) (nar .byte (5 : Int32))) ((1 : Int32).toNatClampNeg) (nar .byte (0 : Int32))) ((2 : Int32).toNatClampNeg) (nar .byte (x1.toInt8.toInt32)))))] [(.int (1 : Int32)), (.int (R5 ob30 (2 : Int32) (3 : Int32)))]) _ _ _
          have hc206 : (R5 ob30 (2 : Int32) (3 : Int32)) = (1 : Int32) := own_hn1 _ _ _ (by decide)
          refine own_to (fun t k => XS.icmpNo X38.here hx rfl (hb hby at_206) rfl (teq hc206).2 k) ?_
          show own_Out p e below _ T38 (mkF m 209 #[.val (.int x0), .val (.int x1), .val (.int x2), .val (.int (0 : Int32)), .val (.int (1 : Int32)), .val (.int (1 : Int32)), .val (.int x2), .val (.ref ob26), .val (.ref ob30), .val (.int (0 : Int32)), .val (.int (R4 ob30 x2 (2 : Int32) (3 : Int32) ob26 3 (own_upd (own_upd (own_upd (fun _ => 0) ((0 : Int32).toNatClampNeg) (nar .byte (5 : Int32))) ((1 : Int32).toNatClampNeg) (nar .byte (0 : Int32))) ((2 : Int32).toNatClampNeg) (nar .byte (x1.toInt8.toInt32))))), .val (.int (R4 ob30 x2 (2 : Int32) (3 : Int32) ob26 3 (own_upd (own_upd (own_upd (fun _ => 0) ((0 : Int32).toNatClampNeg) (nar .byte (5 : Int32))) ((1 : Int32).toNatClampNeg) (nar .byte (0 : Int32))) ((2 : Int32).toNatClampNeg) (nar .byte (x1.toInt8.toInt32)))))] []) _ _ _
          refine own_to (fun t k => XS.iconst X38.here hx rfl (hb hby at_209) k) ?_
          show own_Out p e below _ T38 (mkF m 210 #[.val (.int x0), .val (.int x1), .val (.int x2), .val (.int (0 : Int32)), .val (.int (1 : Int32)), .val (.int (1 : Int32)), .val (.int x2), .val (.ref ob26), .val (.ref ob30), .val (.int (0 : Int32)), .val (.int (R4 ob30 x2 (2 : Int32) (3 : Int32) ob26 3 (own_upd (own_upd (own_upd (fun _ => 0) ((0 : Int32).toNatClampNeg) (nar .byte (5 : Int32))) ((1 : Int32).toNatClampNeg) (nar .byte (0 : Int32))) ((2 : Int32).toNatClampNeg) (nar .byte (x1.toInt8.toInt32))))), .val (.int (R4 ob30 x2 (2 : Int32) (3 : Int32) ob26 3 (own_upd (own_upd (own_upd (fun _ => 0) ((0 : Int32).toNatClampNeg) (nar .byte (5 : Int32))) ((1 : Int32).toNatClampNeg) (nar .byte (0 : Int32))) ((2 : Int32).toNatClampNeg) (nar .byte (x1.toInt8.toInt32)))))] [(.int (1 : Int32))]) _ _ _
          refine own_to (fun t k => XS.goto X38.here hx rfl (pc0 := 210) (pc' := 214) rfl (hb hby at_210) (by decide) (by decide) k) ?_
          show own_Out p e below _ T38 (mkF m 214 #[.val (.int x0), .val (.int x1), .val (.int x2), .val (.int (0 : Int32)), .val (.int (1 : Int32)), .val (.int (1 : Int32)), .val (.int x2), .val (.ref ob26), .val (.ref ob30), .val (.int (0 : Int32)), .val (.int (R4 ob30 x2 (2 : Int32) (3 : Int32) ob26 3 (own_upd (own_upd (own_upd (fun _ => 0) ((0 : Int32).toNatClampNeg) (nar .byte (5 : Int32))) ((1 : Int32).toNatClampNeg) (nar .byte (0 : Int32))) ((2 : Int32).toNatClampNeg) (nar .byte (x1.toInt8.toInt32))))), .val (.int (R4 ob30 x2 (2 : Int32) (3 : Int32) ob26 3 (own_upd (own_upd (own_upd (fun _ => 0) ((0 : Int32).toNatClampNeg) (nar .byte (5 : Int32))) ((1 : Int32).toNatClampNeg) (nar .byte (0 : Int32))) ((2 : Int32).toNatClampNeg) (nar .byte (x1.toInt8.toInt32)))))] [(.int (1 : Int32))]) _ _ _
          refine own_retVW X38 hS hk e38 hx hlk (w := .int (1 : Int32)) hret rfl (Or.inl ⟨rfl, by simp, _, rfl⟩) (hb hby at_214) (by decide) (by decide) ?_
          rw [e38]
          exact ⟨rfl, N38⟩
  · refine own_to (fun t k => XS.ifNo X0.here hx rfl (hb hby at_3) rfl ((if0 _ _).trans (feq hc3).1) k) ?_
    show own_Out p e below _ s₁ (mkF m 6 #[.val (.int x0), .val (.int x1), .val (.int x2), .unset, .unset, .unset, .unset, .unset, .unset, .unset, .unset, .unset] []) _ _ _
    refine own_to (fun t k => XS.iconst X0.here hx rfl (hb hby at_6) k) ?_
    show own_Out p e below _ s₁ (mkF m 7 #[.val (.int x0), .val (.int x1), .val (.int x2), .unset, .unset, .unset, .unset, .unset, .unset, .unset, .unset, .unset] [(.int (1 : Int32))]) _ _ _
    refine own_to (fun t k => XS.goto X0.here hx rfl (pc0 := 7) (pc' := 11) rfl (hb hby at_7) (by decide) (by decide) k) ?_
    show own_Out p e below _ s₁ (mkF m 11 #[.val (.int x0), .val (.int x1), .val (.int x2), .unset, .unset, .unset, .unset, .unset, .unset, .unset, .unset, .unset] [(.int (1 : Int32))]) _ _ _
    refine own_to (fun t k => XS.istoreN X0.here hx rfl (hb hby at_11) rfl (l' := #[.val (.int x0), .val (.int x1), .val (.int x2), .val (.int (1 : Int32)), .unset, .unset, .unset, .unset, .unset, .unset, .unset, .unset]) rfl k) ?_
    show own_Out p e below _ s₁ (mkF m 12 #[.val (.int x0), .val (.int x1), .val (.int x2), .val (.int (1 : Int32)), .unset, .unset, .unset, .unset, .unset, .unset, .unset, .unset] []) _ _ _
    refine own_to (fun t k => XS.iloadN X0.here hx rfl (hb hby at_12) rfl k) ?_
    show own_Out p e below _ s₁ (mkF m 13 #[.val (.int x0), .val (.int x1), .val (.int x2), .val (.int (1 : Int32)), .unset, .unset, .unset, .unset, .unset, .unset, .unset, .unset] [(.int x0)]) _ _ _
    refine own_to (fun t k => XS.iconst X0.here hx rfl (hb hby at_13) k) ?_
    show own_Out p e below _ s₁ (mkF m 14 #[.val (.int x0), .val (.int x1), .val (.int x2), .val (.int (1 : Int32)), .unset, .unset, .unset, .unset, .unset, .unset, .unset, .unset] [(.int (2 : Int32)), (.int x0)]) _ _ _
    refine own_to (fun t k => XS.iand X0.here hx rfl (hb hby at_14) rfl k) ?_
    show own_Out p e below _ s₁ (mkF m 15 #[.val (.int x0), .val (.int x1), .val (.int x2), .val (.int (1 : Int32)), .unset, .unset, .unset, .unset, .unset, .unset, .unset, .unset] [(.int (x0 &&& (2 : Int32)))]) _ _ _
    by_cases hc15 : (x0 &&& (2 : Int32)) = (0 : Int32)
    · refine own_to (fun t k => XS.ifYes X0.here hx rfl (pc0 := 15) (pc' := 22) rfl (hb hby at_15) rfl ((if0 _ _).trans (teq hc15).1) (by decide) (by decide) k) ?_
      show own_Out p e below _ s₁ (mkF m 22 #[.val (.int x0), .val (.int x1), .val (.int x2), .val (.int (1 : Int32)), .unset, .unset, .unset, .unset, .unset, .unset, .unset, .unset] []) _ _ _
      refine own_to (fun t k => XS.iconst X0.here hx rfl (hb hby at_22) k) ?_
      show own_Out p e below _ s₁ (mkF m 23 #[.val (.int x0), .val (.int x1), .val (.int x2), .val (.int (1 : Int32)), .unset, .unset, .unset, .unset, .unset, .unset, .unset, .unset] [(.int (0 : Int32))]) _ _ _
      refine own_to (fun t k => XS.istore X0.here hx rfl (hb hby at_23) rfl (l' := #[.val (.int x0), .val (.int x1), .val (.int x2), .val (.int (1 : Int32)), .val (.int (0 : Int32)), .unset, .unset, .unset, .unset, .unset, .unset, .unset]) rfl k) ?_
      show own_Out p e below _ s₁ (mkF m 25 #[.val (.int x0), .val (.int x1), .val (.int x2), .val (.int (1 : Int32)), .val (.int (0 : Int32)), .unset, .unset, .unset, .unset, .unset, .unset, .unset] []) _ _ _
      refine own_to (fun t k => XS.iloadN X0.here hx rfl (hb hby at_25) rfl k) ?_
      show own_Out p e below _ s₁ (mkF m 26 #[.val (.int x0), .val (.int x1), .val (.int x2), .val (.int (1 : Int32)), .val (.int (0 : Int32)), .unset, .unset, .unset, .unset, .unset, .unset, .unset] [(.int x0)]) _ _ _
      refine own_to (fun t k => XS.iconst X0.here hx rfl (hb hby at_26) k) ?_
      show own_Out p e below _ s₁ (mkF m 27 #[.val (.int x0), .val (.int x1), .val (.int x2), .val (.int (1 : Int32)), .val (.int (0 : Int32)), .unset, .unset, .unset, .unset, .unset, .unset, .unset] [(.int (4 : Int32)), (.int x0)]) _ _ _
      refine own_to (fun t k => XS.iand X0.here hx rfl (hb hby at_27) rfl k) ?_
      show own_Out p e below _ s₁ (mkF m 28 #[.val (.int x0), .val (.int x1), .val (.int x2), .val (.int (1 : Int32)), .val (.int (0 : Int32)), .unset, .unset, .unset, .unset, .unset, .unset, .unset] [(.int (x0 &&& (4 : Int32)))]) _ _ _
      by_cases hc28 : (x0 &&& (4 : Int32)) = (0 : Int32)
      · refine own_to (fun t k => XS.ifYes X0.here hx rfl (pc0 := 28) (pc' := 35) rfl (hb hby at_28) rfl ((if0 _ _).trans (teq hc28).1) (by decide) (by decide) k) ?_
        show own_Out p e below _ s₁ (mkF m 35 #[.val (.int x0), .val (.int x1), .val (.int x2), .val (.int (1 : Int32)), .val (.int (0 : Int32)), .unset, .unset, .unset, .unset, .unset, .unset, .unset] []) _ _ _
        refine own_to (fun t k => XS.iconst X0.here hx rfl (hb hby at_35) k) ?_
        show own_Out p e below _ s₁ (mkF m 36 #[.val (.int x0), .val (.int x1), .val (.int x2), .val (.int (1 : Int32)), .val (.int (0 : Int32)), .unset, .unset, .unset, .unset, .unset, .unset, .unset] [(.int (0 : Int32))]) _ _ _
        refine own_to (fun t k => XS.istore X0.here hx rfl (hb hby at_36) rfl (l' := #[.val (.int x0), .val (.int x1), .val (.int x2), .val (.int (1 : Int32)), .val (.int (0 : Int32)), .val (.int (0 : Int32)), .unset, .unset, .unset, .unset, .unset, .unset]) rfl k) ?_
        show own_Out p e below _ s₁ (mkF m 38 #[.val (.int x0), .val (.int x1), .val (.int x2), .val (.int (1 : Int32)), .val (.int (0 : Int32)), .val (.int (0 : Int32)), .unset, .unset, .unset, .unset, .unset, .unset] []) _ _ _
        refine own_to (fun t k => XS.iloadN X0.here hx rfl (hb hby at_38) rfl k) ?_
        show own_Out p e below _ s₁ (mkF m 39 #[.val (.int x0), .val (.int x1), .val (.int x2), .val (.int (1 : Int32)), .val (.int (0 : Int32)), .val (.int (0 : Int32)), .unset, .unset, .unset, .unset, .unset, .unset] [(.int (1 : Int32))]) _ _ _
        have hc39 : ¬ ((1 : Int32) = (0 : Int32)) := by decide
        refine own_to (fun t k => XS.ifNo X0.here hx rfl (hb hby at_39) rfl ((if0 _ _).trans (feq hc39).1) k) ?_
        show own_Out p e below _ s₁ (mkF m 42 #[.val (.int x0), .val (.int x1), .val (.int x2), .val (.int (1 : Int32)), .val (.int (0 : Int32)), .val (.int (0 : Int32)), .unset, .unset, .unset, .unset, .unset, .unset] []) _ _ _
        refine own_to (fun t k => XS.iloadN X0.here hx rfl (hb hby at_42) rfl k) ?_
        show own_Out p e below _ s₁ (mkF m 43 #[.val (.int x0), .val (.int x1), .val (.int x2), .val (.int (1 : Int32)), .val (.int (0 : Int32)), .val (.int (0 : Int32)), .unset, .unset, .unset, .unset, .unset, .unset] [(.int x1)]) _ _ _
        refine own_to (fun t k => XS.sipush X0.here hx rfl (hb hby at_43) k) ?_
        show own_Out p e below _ s₁ (mkF m 46 #[.val (.int x0), .val (.int x1), .val (.int x2), .val (.int (1 : Int32)), .val (.int (0 : Int32)), .val (.int (0 : Int32)), .unset, .unset, .unset, .unset, .unset, .unset] [(.int (255 : Int32)), (.int x1)]) _ _ _
        refine own_to (fun t k => XS.iand X0.here hx rfl (hb hby at_46) rfl k) ?_
        show own_Out p e below _ s₁ (mkF m 47 #[.val (.int x0), .val (.int x1), .val (.int x2), .val (.int (1 : Int32)), .val (.int (0 : Int32)), .val (.int (0 : Int32)), .unset, .unset, .unset, .unset, .unset, .unset] [(.int (x1 &&& (255 : Int32)))]) _ _ _
        refine own_to (fun t k => XS.goto X0.here hx rfl (pc0 := 47) (pc' := 51) rfl (hb hby at_47) (by decide) (by decide) k) ?_
        show own_Out p e below _ s₁ (mkF m 51 #[.val (.int x0), .val (.int x1), .val (.int x2), .val (.int (1 : Int32)), .val (.int (0 : Int32)), .val (.int (0 : Int32)), .unset, .unset, .unset, .unset, .unset, .unset] [(.int (x1 &&& (255 : Int32)))]) _ _ _
        refine own_to (fun t k => XS.istore X0.here hx rfl (hb hby at_51) rfl (l' := #[.val (.int x0), .val (.int x1), .val (.int x2), .val (.int (1 : Int32)), .val (.int (0 : Int32)), .val (.int (0 : Int32)), .val (.int (x1 &&& (255 : Int32))), .unset, .unset, .unset, .unset, .unset]) rfl k) ?_
        show own_Out p e below _ s₁ (mkF m 53 #[.val (.int x0), .val (.int x1), .val (.int x2), .val (.int (1 : Int32)), .val (.int (0 : Int32)), .val (.int (0 : Int32)), .val (.int (x1 &&& (255 : Int32))), .unset, .unset, .unset, .unset, .unset] []) _ _ _
        refine own_to (fun t k => XS.iload X0.here hx rfl (hb hby at_53) rfl k) ?_
        show own_Out p e below _ s₁ (mkF m 55 #[.val (.int x0), .val (.int x1), .val (.int x2), .val (.int (1 : Int32)), .val (.int (0 : Int32)), .val (.int (0 : Int32)), .val (.int (x1 &&& (255 : Int32))), .unset, .unset, .unset, .unset, .unset] [(.int (0 : Int32))]) _ _ _
        have hc55 : (0 : Int32) = (0 : Int32) := by decide
        refine own_to (fun t k => XS.ifYes X0.here hx rfl (pc0 := 55) (pc' := 100) rfl (hb hby at_55) rfl ((if0 _ _).trans (teq hc55).1) (by decide) (by decide) k) ?_
        show own_Out p e below _ s₁ (mkF m 100 #[.val (.int x0), .val (.int x1), .val (.int x2), .val (.int (1 : Int32)), .val (.int (0 : Int32)), .val (.int (0 : Int32)), .val (.int (x1 &&& (255 : Int32))), .unset, .unset, .unset, .unset, .unset] []) _ _ _
        refine own_to (fun t k => XS.iload X0.here hx rfl (hb hby at_100) rfl k) ?_
        show own_Out p e below _ s₁ (mkF m 102 #[.val (.int x0), .val (.int x1), .val (.int x2), .val (.int (1 : Int32)), .val (.int (0 : Int32)), .val (.int (0 : Int32)), .val (.int (x1 &&& (255 : Int32))), .unset, .unset, .unset, .unset, .unset] [(.int (0 : Int32))]) _ _ _
        have hc102 : (0 : Int32) = (0 : Int32) := by decide
        refine own_to (fun t k => XS.ifYes X0.here hx rfl (pc0 := 102) (pc' := 118) rfl (hb hby at_102) rfl ((if0 _ _).trans (teq hc102).1) (by decide) (by decide) k) ?_
        show own_Out p e below _ s₁ (mkF m 118 #[.val (.int x0), .val (.int x1), .val (.int x2), .val (.int (1 : Int32)), .val (.int (0 : Int32)), .val (.int (0 : Int32)), .val (.int (x1 &&& (255 : Int32))), .unset, .unset, .unset, .unset, .unset] []) _ _ _
        refine own_to (fun t k => XS.iconst X0.here hx rfl (hb hby at_118) k) ?_
        show own_Out p e below _ s₁ (mkF m 119 #[.val (.int x0), .val (.int x1), .val (.int x2), .val (.int (1 : Int32)), .val (.int (0 : Int32)), .val (.int (0 : Int32)), .val (.int (x1 &&& (255 : Int32))), .unset, .unset, .unset, .unset, .unset] [(.int (0 : Int32))]) _ _ _
        refine own_newA X0 hx hZ (hw _ (List.mem_of_getElem? (i := 0) rfl)) rfl e0 rfl (hb hby at_119) rfl (by decide) (cap := 0) (by decide) (by decide) (by decide) (by decide) fun T39 hh39 ob39 gb39 X39 e39 E39 A39 => ?_
        have g_ob39 : n0 ≤ ob39 := Nat.le_trans Z0 (Nat.le_of_eq gb39.symm)
        have Z0 := Nat.le_trans Z0 E39.1
        have hk := Nat.le_trans hk E39.1
        have A_ob39 : own_A Z hh39 ob39 .byte 0 (fun _ => 0) := A39
        show own_Out p e below _ T39 (mkF m 121 #[.val (.int x0), .val (.int x1), .val (.int x2), .val (.int (1 : Int32)), .val (.int (0 : Int32)), .val (.int (0 : Int32)), .val (.int (x1 &&& (255 : Int32))), .unset, .unset, .unset, .unset, .unset] [(.ref ob39)]) _ _ _
        refine own_to (fun t k => XS.astore X39.here hx rfl (hb hby at_121) rfl rfl (l' := #[.val (.int x0), .val (.int x1), .val (.int x2), .val (.int (1 : Int32)), .val (.int (0 : Int32)), .val (.int (0 : Int32)), .val (.int (x1 &&& (255 : Int32))), .val (.ref ob39), .unset, .unset, .unset, .unset]) rfl k) ?_
        show own_Out p e below _ T39 (mkF m 123 #[.val (.int x0), .val (.int x1), .val (.int x2), .val (.int (1 : Int32)), .val (.int (0 : Int32)), .val (.int (0 : Int32)), .val (.int (x1 &&& (255 : Int32))), .val (.ref ob39), .unset, .unset, .unset, .unset] []) _ _ _
        refine own_new X39 hx hZ hown (hw _ (List.mem_of_getElem? (i := 1) rfl)) (hw _ (List.mem_of_getElem? (i := 2) rfl)) (hw _ (List.mem_of_getElem? (i := 3) rfl)) e39 rfl (hb hby at_123) (by decide) (by decide) fun T40 hh40 ob40 gb40 X40 e40 E40 A40 D40 => ?_
        have ne_ob39_ob40 : ob39 ≠ ob40 := Nat.ne_of_lt (Nat.lt_of_lt_of_le A_ob39.lt (Nat.le_of_eq gb40.symm))
        have ne_ob40_ob39 := Ne.symm ne_ob39_ob40
        have g_ob40 : n0 ≤ ob40 := Nat.le_trans Z0 (Nat.le_of_eq gb40.symm)
        have A_ob39 := A_ob39.ext E40
        have Z0 := Nat.le_trans Z0 E40.1
        have hk := Nat.le_trans hk E40.1
        have E_ob40 := A40
        have F_ob40_bytes : Fld Z hh40 ob40 "com/example/pathwarden/pathwarden/util/DerReader" "bytes" "[B" .null := D40 (Or.inr (hw _ (List.mem_of_getElem? (i := 14) rfl))) (ty := (.array .byte)) (by decide)
        have F_ob40_position : Fld Z hh40 ob40 "com/example/pathwarden/pathwarden/util/DerReader" "position" "I" (.int (0 : Int32)) := D40 (Or.inl (hw _ (List.mem_of_getElem? (i := 16) rfl))) (ty := .int) (by decide)
        have F_ob40_end : Fld Z hh40 ob40 "com/example/pathwarden/pathwarden/util/DerReader" "end" "I" (.int (0 : Int32)) := D40 (Or.inr (hw _ (List.mem_of_getElem? (i := 18) rfl))) (ty := .int) (by decide)
        show own_Out p e below _ T40 (mkF m 126 #[.val (.int x0), .val (.int x1), .val (.int x2), .val (.int (1 : Int32)), .val (.int (0 : Int32)), .val (.int (0 : Int32)), .val (.int (x1 &&& (255 : Int32))), .val (.ref ob39), .unset, .unset, .unset, .unset] [(.ref ob40)]) _ _ _
        refine own_to (fun t k => XS.dup X40.here hx rfl (hb hby at_126) rfl rfl k) ?_
        show own_Out p e below _ T40 (mkF m 127 #[.val (.int x0), .val (.int x1), .val (.int x2), .val (.int (1 : Int32)), .val (.int (0 : Int32)), .val (.int (0 : Int32)), .val (.int (x1 &&& (255 : Int32))), .val (.ref ob39), .unset, .unset, .unset, .unset] [(.ref ob40), (.ref ob40)]) _ _ _
        refine own_to (fun t k => XS.aload X40.here hx rfl (hb hby at_127) rfl rfl k) ?_
        show own_Out p e below _ T40 (mkF m 129 #[.val (.int x0), .val (.int x1), .val (.int x2), .val (.int (1 : Int32)), .val (.int (0 : Int32)), .val (.int (0 : Int32)), .val (.int (x1 &&& (255 : Int32))), .val (.ref ob39), .unset, .unset, .unset, .unset] [(.ref ob39), (.ref ob40), (.ref ob40)]) _ _ _
        refine own_callC X40 hx hZ hown (a := ob40) (argsL := [(.ref ob39)]) (rest := [(.ref ob40)]) rfl (hw _ (List.mem_of_getElem? (i := 4) rfl)) (hw _ (List.mem_of_getElem? (i := 5) rfl)) (hw _ (List.mem_of_getElem? (i := 3) rfl)) (hw _ (List.mem_of_getElem? (i := 6) rfl)) (by decide) (rm1 l Z a0 hw ob40 ob39 0 (fun _ => 0) hh40 n0 Z0 E_ob40 F_ob40_bytes F_ob40_position F_ob40_end g_ob40 A_ob39 ne_ob39_ob40) (by decide) (by decide) e40 rfl (by rw [hml]; rfl) (lenOf pd_4 rfl) rfl (W := 1) (by show 2 * 0 + _ ≤ _; exact Nat.le_of_eq rfl) (hb hby at_129) (by decide) (by decide) fun v41 T41 hh41 L41 X41 e41 hQ41 => ?_
        obtain ⟨rfl, NL41, KK41, P41_0, P41_1, P41_2⟩ := hQ41
        have A_ob39 := A_ob39.keep KK41 (by simp [ne_ob39_ob40])
        have E_ob40 := E_ob40.keep KK41
        have F_ob40_bytes := P41_0
        have F_ob40_position := P41_1
        have F_ob40_end := P41_2
        have Z0 := Nat.le_trans Z0 KK41.1
        have hk := Nat.le_trans hk KK41.1
        have N41 := Fr.app N0 NL41
        show own_Out p e below _ T41 (mkF m 132 #[.val (.int x0), .val (.int x1), .val (.int x2), .val (.int (1 : Int32)), .val (.int (0 : Int32)), .val (.int (0 : Int32)), .val (.int (x1 &&& (255 : Int32))), .val (.ref ob39), .unset, .unset, .unset, .unset] [(.ref ob40)]) _ _ _
        rw [show (Nat.toInt32 0) = (0 : Int32) from by decide] at F_ob40_end
        refine own_to (fun t k => XS.astore X41.here hx rfl (hb hby at_132) rfl rfl (l' := #[.val (.int x0), .val (.int x1), .val (.int x2), .val (.int (1 : Int32)), .val (.int (0 : Int32)), .val (.int (0 : Int32)), .val (.int (x1 &&& (255 : Int32))), .val (.ref ob39), .val (.ref ob40), .unset, .unset, .unset]) rfl k) ?_
        show own_Out p e below _ T41 (mkF m 134 #[.val (.int x0), .val (.int x1), .val (.int x2), .val (.int (1 : Int32)), .val (.int (0 : Int32)), .val (.int (0 : Int32)), .val (.int (x1 &&& (255 : Int32))), .val (.ref ob39), .val (.ref ob40), .unset, .unset, .unset] []) _ _ _
        refine own_to (fun t k => XS.iload X41.here hx rfl (hb hby at_134) rfl k) ?_
        show own_Out p e below _ T41 (mkF m 136 #[.val (.int x0), .val (.int x1), .val (.int x2), .val (.int (1 : Int32)), .val (.int (0 : Int32)), .val (.int (0 : Int32)), .val (.int (x1 &&& (255 : Int32))), .val (.ref ob39), .val (.ref ob40), .unset, .unset, .unset] [(.int (0 : Int32))]) _ _ _
        have hc136 : (0 : Int32) = (0 : Int32) := by decide
        refine own_to (fun t k => XS.ifYes X41.here hx rfl (pc0 := 136) (pc' := 145) rfl (hb hby at_136) rfl ((if0 _ _).trans (teq hc136).1) (by decide) (by decide) k) ?_
        show own_Out p e below _ T41 (mkF m 145 #[.val (.int x0), .val (.int x1), .val (.int x2), .val (.int (1 : Int32)), .val (.int (0 : Int32)), .val (.int (0 : Int32)), .val (.int (x1 &&& (255 : Int32))), .val (.ref ob39), .val (.ref ob40), .unset, .unset, .unset] []) _ _ _
        refine own_to (fun t k => XS.iload X41.here hx rfl (hb hby at_145) rfl k) ?_
        show own_Out p e below _ T41 (mkF m 147 #[.val (.int x0), .val (.int x1), .val (.int x2), .val (.int (1 : Int32)), .val (.int (0 : Int32)), .val (.int (0 : Int32)), .val (.int (x1 &&& (255 : Int32))), .val (.ref ob39), .val (.ref ob40), .unset, .unset, .unset] [(.int (0 : Int32))]) _ _ _
        have hc147 : (0 : Int32) = (0 : Int32) := by decide
        refine own_to (fun t k => XS.ifYes X41.here hx rfl (pc0 := 147) (pc' := 164) rfl (hb hby at_147) rfl ((if0 _ _).trans (teq hc147).1) (by decide) (by decide) k) ?_
        show own_Out p e below _ T41 (mkF m 164 #[.val (.int x0), .val (.int x1), .val (.int x2), .val (.int (1 : Int32)), .val (.int (0 : Int32)), .val (.int (0 : Int32)), .val (.int (x1 &&& (255 : Int32))), .val (.ref ob39), .val (.ref ob40), .unset, .unset, .unset] []) _ _ _
        refine own_to (fun t k => XS.iconst X41.here hx rfl (hb hby at_164) k) ?_
        show own_Out p e below _ T41 (mkF m 165 #[.val (.int x0), .val (.int x1), .val (.int x2), .val (.int (1 : Int32)), .val (.int (0 : Int32)), .val (.int (0 : Int32)), .val (.int (x1 &&& (255 : Int32))), .val (.ref ob39), .val (.ref ob40), .unset, .unset, .unset] [(.int (0 : Int32))]) _ _ _
        refine own_to (fun t k => XS.istore X41.here hx rfl (hb hby at_165) rfl (l' := #[.val (.int x0), .val (.int x1), .val (.int x2), .val (.int (1 : Int32)), .val (.int (0 : Int32)), .val (.int (0 : Int32)), .val (.int (x1 &&& (255 : Int32))), .val (.ref ob39), .val (.ref ob40), .val (.int (0 : Int32)), .unset, .unset]) rfl k) ?_
        show own_Out p e below _ T41 (mkF m 167 #[.val (.int x0), .val (.int x1), .val (.int x2), .val (.int (1 : Int32)), .val (.int (0 : Int32)), .val (.int (0 : Int32)), .val (.int (x1 &&& (255 : Int32))), .val (.ref ob39), .val (.ref ob40), .val (.int (0 : Int32)), .unset, .unset] []) _ _ _
        refine own_to (fun t k => XS.aload X41.here hx rfl (hb hby at_167) rfl rfl k) ?_
        show own_Out p e below _ T41 (mkF m 169 #[.val (.int x0), .val (.int x1), .val (.int x2), .val (.int (1 : Int32)), .val (.int (0 : Int32)), .val (.int (0 : Int32)), .val (.int (x1 &&& (255 : Int32))), .val (.ref ob39), .val (.ref ob40), .val (.int (0 : Int32)), .unset, .unset] [(.ref ob40)]) _ _ _
        refine own_to (fun t k => XS.iload X41.here hx rfl (hb hby at_169) rfl k) ?_
        show own_Out p e below _ T41 (mkF m 171 #[.val (.int x0), .val (.int x1), .val (.int x2), .val (.int (1 : Int32)), .val (.int (0 : Int32)), .val (.int (0 : Int32)), .val (.int (x1 &&& (255 : Int32))), .val (.ref ob39), .val (.ref ob40), .val (.int (0 : Int32)), .unset, .unset] [(.int (x1 &&& (255 : Int32))), (.ref ob40)]) _ _ _
        refine own_callV X41 hx hZ hown (a := ob40) (argsL := [(.int (x1 &&& (255 : Int32)))]) (rest := []) (hw _ (List.mem_of_getElem? (i := 19) rfl)) (hw _ (List.mem_of_getElem? (i := 20) rfl)) (hw _ (List.mem_of_getElem? (i := 22) rfl)) (hw _ (List.mem_of_getElem? (i := 21) rfl)) (hw _ (List.mem_of_getElem? (i := 3) rfl)) (hw _ (List.mem_of_getElem? (i := 23) rfl)) (by decide) (rm4 l Z a0 hw ob40 (x1 &&& (255 : Int32)) (0 : Int32) (0 : Int32) ob39 0 (fun _ => 0) hh41 n0 Z0 E_ob40 F_ob40_bytes F_ob40_position F_ob40_end A_ob39 (by decide)) (by decide) (by decide) e41 E_ob40 rfl (by rw [hml]; rfl) (lenOf pd_5 rfl) rfl (W := 0) (by show 2 * 0 + _ ≤ _; exact Nat.le_of_eq rfl) (hb hby at_171) (by decide) (by decide) fun v42 T42 hh42 L42 X42 e42 hQ42 => ?_
        obtain ⟨rfl, NL42, he42⟩ := hQ42
        replace e42 := e42.trans he42
        have N42 := Fr.app N41 NL42
        show own_Out p e below _ T42 (mkF m 174 #[.val (.int x0), .val (.int x1), .val (.int x2), .val (.int (1 : Int32)), .val (.int (0 : Int32)), .val (.int (0 : Int32)), .val (.int (x1 &&& (255 : Int32))), .val (.ref ob39), .val (.ref ob40), .val (.int (0 : Int32)), .unset, .unset] [(.int (R4 ob40 (x1 &&& (255 : Int32)) (0 : Int32) (0 : Int32) ob39 0 (fun _ => 0)))]) _ _ _
        refine own_to (fun t k => XS.istore X42.here hx rfl (hb hby at_174) rfl (l' := #[.val (.int x0), .val (.int x1), .val (.int x2), .val (.int (1 : Int32)), .val (.int (0 : Int32)), .val (.int (0 : Int32)), .val (.int (x1 &&& (255 : Int32))), .val (.ref ob39), .val (.ref ob40), .val (.int (0 : Int32)), .val (.int (R4 ob40 (x1 &&& (255 : Int32)) (0 : Int32) (0 : Int32) ob39 0 (fun _ => 0))), .unset]) rfl k) ?_
        show own_Out p e below _ T42 (mkF m 176 #[.val (.int x0), .val (.int x1), .val (.int x2), .val (.int (1 : Int32)), .val (.int (0 : Int32)), .val (.int (0 : Int32)), .val (.int (x1 &&& (255 : Int32))), .val (.ref ob39), .val (.ref ob40), .val (.int (0 : Int32)), .val (.int (R4 ob40 (x1 &&& (255 : Int32)) (0 : Int32) (0 : Int32) ob39 0 (fun _ => 0))), .unset] []) _ _ _
        refine own_to (fun t k => XS.aload X42.here hx rfl (hb hby at_176) rfl rfl k) ?_
        show own_Out p e below _ T42 (mkF m 178 #[.val (.int x0), .val (.int x1), .val (.int x2), .val (.int (1 : Int32)), .val (.int (0 : Int32)), .val (.int (0 : Int32)), .val (.int (x1 &&& (255 : Int32))), .val (.ref ob39), .val (.ref ob40), .val (.int (0 : Int32)), .val (.int (R4 ob40 (x1 &&& (255 : Int32)) (0 : Int32) (0 : Int32) ob39 0 (fun _ => 0))), .unset] [(.ref ob40)]) _ _ _
        refine own_to (fun t k => XS.iload X42.here hx rfl (hb hby at_178) rfl k) ?_
        show own_Out p e below _ T42 (mkF m 180 #[.val (.int x0), .val (.int x1), .val (.int x2), .val (.int (1 : Int32)), .val (.int (0 : Int32)), .val (.int (0 : Int32)), .val (.int (x1 &&& (255 : Int32))), .val (.ref ob39), .val (.ref ob40), .val (.int (0 : Int32)), .val (.int (R4 ob40 (x1 &&& (255 : Int32)) (0 : Int32) (0 : Int32) ob39 0 (fun _ => 0))), .unset] [(.int (x1 &&& (255 : Int32))), (.ref ob40)]) _ _ _
        refine own_callV X42 hx hZ hown (a := ob40) (argsL := [(.int (x1 &&& (255 : Int32)))]) (rest := []) (hw _ (List.mem_of_getElem? (i := 19) rfl)) (hw _ (List.mem_of_getElem? (i := 20) rfl)) (hw _ (List.mem_of_getElem? (i := 22) rfl)) (hw _ (List.mem_of_getElem? (i := 21) rfl)) (hw _ (List.mem_of_getElem? (i := 3) rfl)) (hw _ (List.mem_of_getElem? (i := 23) rfl)) (by decide) (rm4 l Z a0 hw ob40 (x1 &&& (255 : Int32)) (0 : Int32) (0 : Int32) ob39 0 (fun _ => 0) hh41 n0 Z0 E_ob40 F_ob40_bytes F_ob40_position F_ob40_end A_ob39 (by decide)) (by decide) (by decide) e42 E_ob40 rfl (by rw [hml]; rfl) (lenOf pd_5 rfl) rfl (W := 0) (by show 2 * 0 + _ ≤ _; exact Nat.le_of_eq rfl) (hb hby at_180) (by decide) (by decide) fun v43 T43 hh43 L43 X43 e43 hQ43 => ?_
        obtain ⟨rfl, NL43, he43⟩ := hQ43
        replace e43 := e43.trans he43
        have N43 := Fr.app N42 NL43
        show own_Out p e below _ T43 (mkF m 183 #[.val (.int x0), .val (.int x1), .val (.int x2), .val (.int (1 : Int32)), .val (.int (0 : Int32)), .val (.int (0 : Int32)), .val (.int (x1 &&& (255 : Int32))), .val (.ref ob39), .val (.ref ob40), .val (.int (0 : Int32)), .val (.int (R4 ob40 (x1 &&& (255 : Int32)) (0 : Int32) (0 : Int32) ob39 0 (fun _ => 0))), .unset] [(.int (R4 ob40 (x1 &&& (255 : Int32)) (0 : Int32) (0 : Int32) ob39 0 (fun _ => 0)))]) _ _ _
        refine own_to (fun t k => XS.istore X43.here hx rfl (hb hby at_183) rfl (l' := #[.val (.int x0), .val (.int x1), .val (.int x2), .val (.int (1 : Int32)), .val (.int (0 : Int32)), .val (.int (0 : Int32)), .val (.int (x1 &&& (255 : Int32))), .val (.ref ob39), .val (.ref ob40), .val (.int (0 : Int32)), .val (.int (R4 ob40 (x1 &&& (255 : Int32)) (0 : Int32) (0 : Int32) ob39 0 (fun _ => 0))), .val (.int (R4 ob40 (x1 &&& (255 : Int32)) (0 : Int32) (0 : Int32) ob39 0 (fun _ => 0)))]) rfl k) ?_
        show own_Out p e below _ T43 (mkF m 185 #[.val (.int x0), .val (.int x1), .val (.int x2), .val (.int (1 : Int32)), .val (.int (0 : Int32)), .val (.int (0 : Int32)), .val (.int (x1 &&& (255 : Int32))), .val (.ref ob39), .val (.ref ob40), .val (.int (0 : Int32)), .val (.int (R4 ob40 (x1 &&& (255 : Int32)) (0 : Int32) (0 : Int32) ob39 0 (fun _ => 0))), .val (.int (R4 ob40 (x1 &&& (255 : Int32)) (0 : Int32) (0 : Int32) ob39 0 (fun _ => 0)))] []) _ _ _
        refine own_to (fun t k => XS.iload X43.here hx rfl (hb hby at_185) rfl k) ?_
        show own_Out p e below _ T43 (mkF m 187 #[.val (.int x0), .val (.int x1), .val (.int x2), .val (.int (1 : Int32)), .val (.int (0 : Int32)), .val (.int (0 : Int32)), .val (.int (x1 &&& (255 : Int32))), .val (.ref ob39), .val (.ref ob40), .val (.int (0 : Int32)), .val (.int (R4 ob40 (x1 &&& (255 : Int32)) (0 : Int32) (0 : Int32) ob39 0 (fun _ => 0))), .val (.int (R4 ob40 (x1 &&& (255 : Int32)) (0 : Int32) (0 : Int32) ob39 0 (fun _ => 0)))] [(.int (R4 ob40 (x1 &&& (255 : Int32)) (0 : Int32) (0 : Int32) ob39 0 (fun _ => 0)))]) _ _ _
        refine own_to (fun t k => XS.iload X43.here hx rfl (hb hby at_187) rfl k) ?_
        show own_Out p e below _ T43 (mkF m 189 #[.val (.int x0), .val (.int x1), .val (.int x2), .val (.int (1 : Int32)), .val (.int (0 : Int32)), .val (.int (0 : Int32)), .val (.int (x1 &&& (255 : Int32))), .val (.ref ob39), .val (.ref ob40), .val (.int (0 : Int32)), .val (.int (R4 ob40 (x1 &&& (255 : Int32)) (0 : Int32) (0 : Int32) ob39 0 (fun _ => 0))), .val (.int (R4 ob40 (x1 &&& (255 : Int32)) (0 : Int32) (0 : Int32) ob39 0 (fun _ => 0)))] [(.int (0 : Int32)), (.int (R4 ob40 (x1 &&& (255 : Int32)) (0 : Int32) (0 : Int32) ob39 0 (fun _ => 0)))]) _ _ _
        have hc189 : (R4 ob40 (x1 &&& (255 : Int32)) (0 : Int32) (0 : Int32) ob39 0 (fun _ => 0)) = (0 : Int32) := (own_ni _ _ _ _ _ _ _).1 (by decide)
        refine own_to (fun t k => XS.icmpNo X43.here hx rfl (hb hby at_189) rfl (teq hc189).2 k) ?_
        show own_Out p e below _ T43 (mkF m 192 #[.val (.int x0), .val (.int x1), .val (.int x2), .val (.int (1 : Int32)), .val (.int (0 : Int32)), .val (.int (0 : Int32)), .val (.int (x1 &&& (255 : Int32))), .val (.ref ob39), .val (.ref ob40), .val (.int (0 : Int32)), .val (.int (R4 ob40 (x1 &&& (255 : Int32)) (0 : Int32) (0 : Int32) ob39 0 (fun _ => 0))), .val (.int (R4 ob40 (x1 &&& (255 : Int32)) (0 : Int32) (0 : Int32) ob39 0 (fun _ => 0)))] []) _ _ _
        refine own_to (fun t k => XS.iload X43.here hx rfl (hb hby at_192) rfl k) ?_
        show own_Out p e below _ T43 (mkF m 194 #[.val (.int x0), .val (.int x1), .val (.int x2), .val (.int (1 : Int32)), .val (.int (0 : Int32)), .val (.int (0 : Int32)), .val (.int (x1 &&& (255 : Int32))), .val (.ref ob39), .val (.ref ob40), .val (.int (0 : Int32)), .val (.int (R4 ob40 (x1 &&& (255 : Int32)) (0 : Int32) (0 : Int32) ob39 0 (fun _ => 0))), .val (.int (R4 ob40 (x1 &&& (255 : Int32)) (0 : Int32) (0 : Int32) ob39 0 (fun _ => 0)))] [(.int (R4 ob40 (x1 &&& (255 : Int32)) (0 : Int32) (0 : Int32) ob39 0 (fun _ => 0)))]) _ _ _
        refine own_to (fun t k => XS.iload X43.here hx rfl (hb hby at_194) rfl k) ?_
        show own_Out p e below _ T43 (mkF m 196 #[.val (.int x0), .val (.int x1), .val (.int x2), .val (.int (1 : Int32)), .val (.int (0 : Int32)), .val (.int (0 : Int32)), .val (.int (x1 &&& (255 : Int32))), .val (.ref ob39), .val (.ref ob40), .val (.int (0 : Int32)), .val (.int (R4 ob40 (x1 &&& (255 : Int32)) (0 : Int32) (0 : Int32) ob39 0 (fun _ => 0))), .val (.int (R4 ob40 (x1 &&& (255 : Int32)) (0 : Int32) (0 : Int32) ob39 0 (fun _ => 0)))] [(.int (0 : Int32)), (.int (R4 ob40 (x1 &&& (255 : Int32)) (0 : Int32) (0 : Int32) ob39 0 (fun _ => 0)))]) _ _ _
        have hc196 : (R4 ob40 (x1 &&& (255 : Int32)) (0 : Int32) (0 : Int32) ob39 0 (fun _ => 0)) = (0 : Int32) := (own_ni _ _ _ _ _ _ _).1 (by decide)
        refine own_to (fun t k => XS.icmpNo X43.here hx rfl (hb hby at_196) rfl (teq hc196).2 k) ?_
        show own_Out p e below _ T43 (mkF m 199 #[.val (.int x0), .val (.int x1), .val (.int x2), .val (.int (1 : Int32)), .val (.int (0 : Int32)), .val (.int (0 : Int32)), .val (.int (x1 &&& (255 : Int32))), .val (.ref ob39), .val (.ref ob40), .val (.int (0 : Int32)), .val (.int (R4 ob40 (x1 &&& (255 : Int32)) (0 : Int32) (0 : Int32) ob39 0 (fun _ => 0))), .val (.int (R4 ob40 (x1 &&& (255 : Int32)) (0 : Int32) (0 : Int32) ob39 0 (fun _ => 0)))] []) _ _ _
        refine own_to (fun t k => XS.aload X43.here hx rfl (hb hby at_199) rfl rfl k) ?_
        show own_Out p e below _ T43 (mkF m 201 #[.val (.int x0), .val (.int x1), .val (.int x2), .val (.int (1 : Int32)), .val (.int (0 : Int32)), .val (.int (0 : Int32)), .val (.int (x1 &&& (255 : Int32))), .val (.ref ob39), .val (.ref ob40), .val (.int (0 : Int32)), .val (.int (R4 ob40 (x1 &&& (255 : Int32)) (0 : Int32) (0 : Int32) ob39 0 (fun _ => 0))), .val (.int (R4 ob40 (x1 &&& (255 : Int32)) (0 : Int32) (0 : Int32) ob39 0 (fun _ => 0)))] [(.ref ob40)]) _ _ _
        refine own_callV X43 hx hZ hown (a := ob40) (argsL := []) (rest := []) (hw _ (List.mem_of_getElem? (i := 29) rfl)) (hw _ (List.mem_of_getElem? (i := 25) rfl)) (hw _ (List.mem_of_getElem? (i := 27) rfl)) (hw _ (List.mem_of_getElem? (i := 26) rfl)) (hw _ (List.mem_of_getElem? (i := 3) rfl)) (hw _ (List.mem_of_getElem? (i := 28) rfl)) (by decide) (rm5 l Z a0 hw ob40 (0 : Int32) (0 : Int32) hh41 n0 Z0 F_ob40_position F_ob40_end) (by decide) (by decide) e43 E_ob40 rfl (by rw [hml]; rfl) (lenOf pd_1 rfl) rfl (W := 0) (by show 2 * 0 + _ ≤ _; exact Nat.le_of_eq rfl) (hb hby at_201) (by decide) (by decide) fun v44 T44 hh44 L44 X44 e44 hQ44 => ?_
        obtain ⟨rfl, NL44, he44⟩ := hQ44
        replace e44 := e44.trans he44
        have N44 := Fr.app N43 NL44
        show own_Out p e below _ T44 (mkF m 204 #[.val (.int x0), .val (.int x1), .val (.int x2), .val (.int (1 : Int32)), .val (.int (0 : Int32)), .val (.int (0 : Int32)), .val (.int (x1 &&& (255 : Int32))), .val (.ref ob39), .val (.ref ob40), .val (.int (0 : Int32)), .val (.int (R4 ob40 (x1 &&& (255 : Int32)) (0 : Int32) (0 : Int32) ob39 0 (fun _ => 0))), .val (.int (R4 ob40 (x1 &&& (255 : Int32)) (0 : Int32) (0 : Int32) ob39 0 (fun _ => 0)))] [(.int (R5 ob40 (0 : Int32) (0 : Int32)))]) _ _ _
        refine own_to (fun t k => XS.iload X44.here hx rfl (hb hby at_204) rfl k) ?_
        show own_Out p e below _ T44 (mkF m 206 #[.val (.int x0), .val (.int x1), .val (.int x2), .val (.int (1 : Int32)), .val (.int (0 : Int32)), .val (.int (0 : Int32)), .val (.int (x1 &&& (255 : Int32))), .val (.ref ob39), .val (.ref ob40), .val (.int (0 : Int32)), .val (.int (R4 ob40 (x1 &&& (255 : Int32)) (0 : Int32) (0 : Int32) ob39 0 (fun _ => 0))), .val (.int (R4 ob40 (x1 &&& (255 : Int32)) (0 : Int32) (0 : Int32) ob39 0 (fun _ => 0)))] [(.int (0 : Int32)), (.int (R5 ob40 (0 : Int32) (0 : Int32)))]) _ _ _
        have hc206 : (R5 ob40 (0 : Int32) (0 : Int32)) = (0 : Int32) := own_hn0 _ _ _ (by decide)
        refine own_to (fun t k => XS.icmpNo X44.here hx rfl (hb hby at_206) rfl (teq hc206).2 k) ?_
        show own_Out p e below _ T44 (mkF m 209 #[.val (.int x0), .val (.int x1), .val (.int x2), .val (.int (1 : Int32)), .val (.int (0 : Int32)), .val (.int (0 : Int32)), .val (.int (x1 &&& (255 : Int32))), .val (.ref ob39), .val (.ref ob40), .val (.int (0 : Int32)), .val (.int (R4 ob40 (x1 &&& (255 : Int32)) (0 : Int32) (0 : Int32) ob39 0 (fun _ => 0))), .val (.int (R4 ob40 (x1 &&& (255 : Int32)) (0 : Int32) (0 : Int32) ob39 0 (fun _ => 0)))] []) _ _ _
        refine own_to (fun t k => XS.iconst X44.here hx rfl (hb hby at_209) k) ?_
        show own_Out p e below _ T44 (mkF m 210 #[.val (.int x0), .val (.int x1), .val (.int x2), .val (.int (1 : Int32)), .val (.int (0 : Int32)), .val (.int (0 : Int32)), .val (.int (x1 &&& (255 : Int32))), .val (.ref ob39), .val (.ref ob40), .val (.int (0 : Int32)), .val (.int (R4 ob40 (x1 &&& (255 : Int32)) (0 : Int32) (0 : Int32) ob39 0 (fun _ => 0))), .val (.int (R4 ob40 (x1 &&& (255 : Int32)) (0 : Int32) (0 : Int32) ob39 0 (fun _ => 0)))] [(.int (1 : Int32))]) _ _ _
        refine own_to (fun t k => XS.goto X44.here hx rfl (pc0 := 210) (pc' := 214) rfl (hb hby at_210) (by decide) (by decide) k) ?_
        show own_Out p e below _ T44 (mkF m 214 #[.val (.int x0), .val (.int x1), .val (.int x2), .val (.int (1 : Int32)), .val (.int (0 : Int32)), .val (.int (0 : Int32)), .val (.int (x1 &&& (255 : Int32))), .val (.ref ob39), .val (.ref ob40), .val (.int (0 : Int32)), .val (.int (R4 ob40 (x1 &&& (255 : Int32)) (0 : Int32) (0 : Int32) ob39 0 (fun _ => 0))), .val (.int (R4 ob40 (x1 &&& (255 : Int32)) (0 : Int32) (0 : Int32) ob39 0 (fun _ => 0)))] [(.int (1 : Int32))]) _ _ _
        refine own_retVW X44 hS hk e44 hx hlk (w := .int (1 : Int32)) hret rfl (Or.inl ⟨rfl, by simp, _, rfl⟩) (hb hby at_214) (by decide) (by decide) ?_
        rw [e44]
        exact ⟨rfl, N44⟩
      · refine own_to (fun t k => XS.ifNo X0.here hx rfl (hb hby at_28) rfl ((if0 _ _).trans (feq hc28).1) k) ?_
        show own_Out p e below _ s₁ (mkF m 31 #[.val (.int x0), .val (.int x1), .val (.int x2), .val (.int (1 : Int32)), .val (.int (0 : Int32)), .unset, .unset, .unset, .unset, .unset, .unset, .unset] []) _ _ _
        refine own_to (fun t k => XS.iconst X0.here hx rfl (hb hby at_31) k) ?_
        show own_Out p e below _ s₁ (mkF m 32 #[.val (.int x0), .val (.int x1), .val (.int x2), .val (.int (1 : Int32)), .val (.int (0 : Int32)), .unset, .unset, .unset, .unset, .unset, .unset, .unset] [(.int (1 : Int32))]) _ _ _
        refine own_to (fun t k => XS.goto X0.here hx rfl (pc0 := 32) (pc' := 36) rfl (hb hby at_32) (by decide) (by decide) k) ?_
        show own_Out p e below _ s₁ (mkF m 36 #[.val (.int x0), .val (.int x1), .val (.int x2), .val (.int (1 : Int32)), .val (.int (0 : Int32)), .unset, .unset, .unset, .unset, .unset, .unset, .unset] [(.int (1 : Int32))]) _ _ _
        refine own_to (fun t k => XS.istore X0.here hx rfl (hb hby at_36) rfl (l' := #[.val (.int x0), .val (.int x1), .val (.int x2), .val (.int (1 : Int32)), .val (.int (0 : Int32)), .val (.int (1 : Int32)), .unset, .unset, .unset, .unset, .unset, .unset]) rfl k) ?_
        show own_Out p e below _ s₁ (mkF m 38 #[.val (.int x0), .val (.int x1), .val (.int x2), .val (.int (1 : Int32)), .val (.int (0 : Int32)), .val (.int (1 : Int32)), .unset, .unset, .unset, .unset, .unset, .unset] []) _ _ _
        refine own_to (fun t k => XS.iloadN X0.here hx rfl (hb hby at_38) rfl k) ?_
        show own_Out p e below _ s₁ (mkF m 39 #[.val (.int x0), .val (.int x1), .val (.int x2), .val (.int (1 : Int32)), .val (.int (0 : Int32)), .val (.int (1 : Int32)), .unset, .unset, .unset, .unset, .unset, .unset] [(.int (1 : Int32))]) _ _ _
        have hc39 : ¬ ((1 : Int32) = (0 : Int32)) := by decide
        refine own_to (fun t k => XS.ifNo X0.here hx rfl (hb hby at_39) rfl ((if0 _ _).trans (feq hc39).1) k) ?_
        show own_Out p e below _ s₁ (mkF m 42 #[.val (.int x0), .val (.int x1), .val (.int x2), .val (.int (1 : Int32)), .val (.int (0 : Int32)), .val (.int (1 : Int32)), .unset, .unset, .unset, .unset, .unset, .unset] []) _ _ _
        refine own_to (fun t k => XS.iloadN X0.here hx rfl (hb hby at_42) rfl k) ?_
        show own_Out p e below _ s₁ (mkF m 43 #[.val (.int x0), .val (.int x1), .val (.int x2), .val (.int (1 : Int32)), .val (.int (0 : Int32)), .val (.int (1 : Int32)), .unset, .unset, .unset, .unset, .unset, .unset] [(.int x1)]) _ _ _
        refine own_to (fun t k => XS.sipush X0.here hx rfl (hb hby at_43) k) ?_
        show own_Out p e below _ s₁ (mkF m 46 #[.val (.int x0), .val (.int x1), .val (.int x2), .val (.int (1 : Int32)), .val (.int (0 : Int32)), .val (.int (1 : Int32)), .unset, .unset, .unset, .unset, .unset, .unset] [(.int (255 : Int32)), (.int x1)]) _ _ _
        refine own_to (fun t k => XS.iand X0.here hx rfl (hb hby at_46) rfl k) ?_
        show own_Out p e below _ s₁ (mkF m 47 #[.val (.int x0), .val (.int x1), .val (.int x2), .val (.int (1 : Int32)), .val (.int (0 : Int32)), .val (.int (1 : Int32)), .unset, .unset, .unset, .unset, .unset, .unset] [(.int (x1 &&& (255 : Int32)))]) _ _ _
        refine own_to (fun t k => XS.goto X0.here hx rfl (pc0 := 47) (pc' := 51) rfl (hb hby at_47) (by decide) (by decide) k) ?_
        show own_Out p e below _ s₁ (mkF m 51 #[.val (.int x0), .val (.int x1), .val (.int x2), .val (.int (1 : Int32)), .val (.int (0 : Int32)), .val (.int (1 : Int32)), .unset, .unset, .unset, .unset, .unset, .unset] [(.int (x1 &&& (255 : Int32)))]) _ _ _
        refine own_to (fun t k => XS.istore X0.here hx rfl (hb hby at_51) rfl (l' := #[.val (.int x0), .val (.int x1), .val (.int x2), .val (.int (1 : Int32)), .val (.int (0 : Int32)), .val (.int (1 : Int32)), .val (.int (x1 &&& (255 : Int32))), .unset, .unset, .unset, .unset, .unset]) rfl k) ?_
        show own_Out p e below _ s₁ (mkF m 53 #[.val (.int x0), .val (.int x1), .val (.int x2), .val (.int (1 : Int32)), .val (.int (0 : Int32)), .val (.int (1 : Int32)), .val (.int (x1 &&& (255 : Int32))), .unset, .unset, .unset, .unset, .unset] []) _ _ _
        refine own_to (fun t k => XS.iload X0.here hx rfl (hb hby at_53) rfl k) ?_
        show own_Out p e below _ s₁ (mkF m 55 #[.val (.int x0), .val (.int x1), .val (.int x2), .val (.int (1 : Int32)), .val (.int (0 : Int32)), .val (.int (1 : Int32)), .val (.int (x1 &&& (255 : Int32))), .unset, .unset, .unset, .unset, .unset] [(.int (0 : Int32))]) _ _ _
        have hc55 : (0 : Int32) = (0 : Int32) := by decide
        refine own_to (fun t k => XS.ifYes X0.here hx rfl (pc0 := 55) (pc' := 100) rfl (hb hby at_55) rfl ((if0 _ _).trans (teq hc55).1) (by decide) (by decide) k) ?_
        show own_Out p e below _ s₁ (mkF m 100 #[.val (.int x0), .val (.int x1), .val (.int x2), .val (.int (1 : Int32)), .val (.int (0 : Int32)), .val (.int (1 : Int32)), .val (.int (x1 &&& (255 : Int32))), .unset, .unset, .unset, .unset, .unset] []) _ _ _
        refine own_to (fun t k => XS.iload X0.here hx rfl (hb hby at_100) rfl k) ?_
        show own_Out p e below _ s₁ (mkF m 102 #[.val (.int x0), .val (.int x1), .val (.int x2), .val (.int (1 : Int32)), .val (.int (0 : Int32)), .val (.int (1 : Int32)), .val (.int (x1 &&& (255 : Int32))), .unset, .unset, .unset, .unset, .unset] [(.int (1 : Int32))]) _ _ _
        have hc102 : ¬ ((1 : Int32) = (0 : Int32)) := by decide
        refine own_to (fun t k => XS.ifNo X0.here hx rfl (hb hby at_102) rfl ((if0 _ _).trans (feq hc102).1) k) ?_
        show own_Out p e below _ s₁ (mkF m 105 #[.val (.int x0), .val (.int x1), .val (.int x2), .val (.int (1 : Int32)), .val (.int (0 : Int32)), .val (.int (1 : Int32)), .val (.int (x1 &&& (255 : Int32))), .unset, .unset, .unset, .unset, .unset] []) _ _ _
        refine own_to (fun t k => XS.iconst X0.here hx rfl (hb hby at_105) k) ?_
        show own_Out p e below _ s₁ (mkF m 106 #[.val (.int x0), .val (.int x1), .val (.int x2), .val (.int (1 : Int32)), .val (.int (0 : Int32)), .val (.int (1 : Int32)), .val (.int (x1 &&& (255 : Int32))), .unset, .unset, .unset, .unset, .unset] [(.int (1 : Int32))]) _ _ _
        refine own_newA X0 hx hZ (hw _ (List.mem_of_getElem? (i := 0) rfl)) rfl e0 rfl (hb hby at_106) rfl (by decide) (cap := 1) (by decide) (by decide) (by decide) (by decide) fun T45 hh45 ob45 gb45 X45 e45 E45 A45 => ?_
        have g_ob45 : n0 ≤ ob45 := Nat.le_trans Z0 (Nat.le_of_eq gb45.symm)
        have Z0 := Nat.le_trans Z0 E45.1
        have hk := Nat.le_trans hk E45.1
        have A_ob45 : own_A Z hh45 ob45 .byte 1 (fun _ => 0) := A45
        show own_Out p e below _ T45 (mkF m 108 #[.val (.int x0), .val (.int x1), .val (.int x2), .val (.int (1 : Int32)), .val (.int (0 : Int32)), .val (.int (1 : Int32)), .val (.int (x1 &&& (255 : Int32))), .unset, .unset, .unset, .unset, .unset] [(.ref ob45)]) _ _ _
        refine own_to (fun t k => XS.dup X45.here hx rfl (hb hby at_108) rfl rfl k) ?_
        show own_Out p e below _ T45 (mkF m 109 #[.val (.int x0), .val (.int x1), .val (.int x2), .val (.int (1 : Int32)), .val (.int (0 : Int32)), .val (.int (1 : Int32)), .val (.int (x1 &&& (255 : Int32))), .unset, .unset, .unset, .unset, .unset] [(.ref ob45), (.ref ob45)]) _ _ _
        refine own_to (fun t k => XS.iconst X45.here hx rfl (hb hby at_109) k) ?_
        show own_Out p e below _ T45 (mkF m 110 #[.val (.int x0), .val (.int x1), .val (.int x2), .val (.int (1 : Int32)), .val (.int (0 : Int32)), .val (.int (1 : Int32)), .val (.int (x1 &&& (255 : Int32))), .unset, .unset, .unset, .unset, .unset] [(.int (0 : Int32)), (.ref ob45), (.ref ob45)]) _ _ _
        refine own_to (fun t k => XS.iloadN X45.here hx rfl (hb hby at_110) rfl k) ?_
        show own_Out p e below _ T45 (mkF m 111 #[.val (.int x0), .val (.int x1), .val (.int x2), .val (.int (1 : Int32)), .val (.int (0 : Int32)), .val (.int (1 : Int32)), .val (.int (x1 &&& (255 : Int32))), .unset, .unset, .unset, .unset, .unset] [(.int x1), (.int (0 : Int32)), (.ref ob45), (.ref ob45)]) _ _ _
        refine own_to (fun t k => XS.i2b X45.here hx rfl (hb hby at_111) rfl k) ?_
        show own_Out p e below _ T45 (mkF m 112 #[.val (.int x0), .val (.int x1), .val (.int x2), .val (.int (1 : Int32)), .val (.int (0 : Int32)), .val (.int (1 : Int32)), .val (.int (x1 &&& (255 : Int32))), .unset, .unset, .unset, .unset, .unset] [(.int (x1.toInt8.toInt32)), (.int (0 : Int32)), (.ref ob45), (.ref ob45)]) _ _ _
        refine own_stB X45 hx hZ e45 A_ob45 (by decide) (by decide) rfl rfl (hb hby at_112) fun T46 hh46 X46 e46 W46 A46 => ?_
        have A_ob45 := A46
        have Z0 := Nat.le_trans Z0 (Nat.le_of_eq W46.size.symm)
        have hk := Nat.le_trans hk (Nat.le_of_eq W46.size.symm)
        have N46 := own_fs (sl := Int32.toNatClampNeg (0 : Int32)) N0 g_ob45
        show own_Out p e below _ T46 (mkF m 113 #[.val (.int x0), .val (.int x1), .val (.int x2), .val (.int (1 : Int32)), .val (.int (0 : Int32)), .val (.int (1 : Int32)), .val (.int (x1 &&& (255 : Int32))), .unset, .unset, .unset, .unset, .unset] [(.ref ob45)]) _ _ _
        refine own_to (fun t k => XS.astore X46.here hx rfl (hb hby at_113) rfl rfl (l' := #[.val (.int x0), .val (.int x1), .val (.int x2), .val (.int (1 : Int32)), .val (.int (0 : Int32)), .val (.int (1 : Int32)), .val (.int (x1 &&& (255 : Int32))), .val (.ref ob45), .unset, .unset, .unset, .unset]) rfl k) ?_
        show own_Out p e below _ T46 (mkF m 115 #[.val (.int x0), .val (.int x1), .val (.int x2), .val (.int (1 : Int32)), .val (.int (0 : Int32)), .val (.int (1 : Int32)), .val (.int (x1 &&& (255 : Int32))), .val (.ref ob45), .unset, .unset, .unset, .unset] []) _ _ _
        refine own_to (fun t k => XS.goto X46.here hx rfl (pc0 := 115) (pc' := 123) rfl (hb hby at_115) (by decide) (by decide) k) ?_
        show own_Out p e below _ T46 (mkF m 123 #[.val (.int x0), .val (.int x1), .val (.int x2), .val (.int (1 : Int32)), .val (.int (0 : Int32)), .val (.int (1 : Int32)), .val (.int (x1 &&& (255 : Int32))), .val (.ref ob45), .unset, .unset, .unset, .unset] []) _ _ _
        refine own_new X46 hx hZ hown (hw _ (List.mem_of_getElem? (i := 1) rfl)) (hw _ (List.mem_of_getElem? (i := 2) rfl)) (hw _ (List.mem_of_getElem? (i := 3) rfl)) e46 rfl (hb hby at_123) (by decide) (by decide) fun T47 hh47 ob47 gb47 X47 e47 E47 A47 D47 => ?_
        have ne_ob45_ob47 : ob45 ≠ ob47 := Nat.ne_of_lt (Nat.lt_of_lt_of_le A_ob45.lt (Nat.le_of_eq gb47.symm))
        have ne_ob47_ob45 := Ne.symm ne_ob45_ob47
        have g_ob47 : n0 ≤ ob47 := Nat.le_trans Z0 (Nat.le_of_eq gb47.symm)
        have A_ob45 := A_ob45.ext E47
        have Z0 := Nat.le_trans Z0 E47.1
        have hk := Nat.le_trans hk E47.1
        have E_ob47 := A47
        have F_ob47_bytes : Fld Z hh47 ob47 "com/example/pathwarden/pathwarden/util/DerReader" "bytes" "[B" .null := D47 (Or.inr (hw _ (List.mem_of_getElem? (i := 14) rfl))) (ty := (.array .byte)) (by decide)
        have F_ob47_position : Fld Z hh47 ob47 "com/example/pathwarden/pathwarden/util/DerReader" "position" "I" (.int (0 : Int32)) := D47 (Or.inl (hw _ (List.mem_of_getElem? (i := 16) rfl))) (ty := .int) (by decide)
        have F_ob47_end : Fld Z hh47 ob47 "com/example/pathwarden/pathwarden/util/DerReader" "end" "I" (.int (0 : Int32)) := D47 (Or.inr (hw _ (List.mem_of_getElem? (i := 18) rfl))) (ty := .int) (by decide)
        show own_Out p e below _ T47 (mkF m 126 #[.val (.int x0), .val (.int x1), .val (.int x2), .val (.int (1 : Int32)), .val (.int (0 : Int32)), .val (.int (1 : Int32)), .val (.int (x1 &&& (255 : Int32))), .val (.ref ob45), .unset, .unset, .unset, .unset] [(.ref ob47)]) _ _ _
        refine own_to (fun t k => XS.dup X47.here hx rfl (hb hby at_126) rfl rfl k) ?_
        show own_Out p e below _ T47 (mkF m 127 #[.val (.int x0), .val (.int x1), .val (.int x2), .val (.int (1 : Int32)), .val (.int (0 : Int32)), .val (.int (1 : Int32)), .val (.int (x1 &&& (255 : Int32))), .val (.ref ob45), .unset, .unset, .unset, .unset] [(.ref ob47), (.ref ob47)]) _ _ _
        refine own_to (fun t k => XS.aload X47.here hx rfl (hb hby at_127) rfl rfl k) ?_
        show own_Out p e below _ T47 (mkF m 129 #[.val (.int x0), .val (.int x1), .val (.int x2), .val (.int (1 : Int32)), .val (.int (0 : Int32)), .val (.int (1 : Int32)), .val (.int (x1 &&& (255 : Int32))), .val (.ref ob45), .unset, .unset, .unset, .unset] [(.ref ob45), (.ref ob47), (.ref ob47)]) _ _ _
        refine own_callC X47 hx hZ hown (a := ob47) (argsL := [(.ref ob45)]) (rest := [(.ref ob47)]) rfl (hw _ (List.mem_of_getElem? (i := 4) rfl)) (hw _ (List.mem_of_getElem? (i := 5) rfl)) (hw _ (List.mem_of_getElem? (i := 3) rfl)) (hw _ (List.mem_of_getElem? (i := 6) rfl)) (by decide) (rm1 l Z a0 hw ob47 ob45 1 (own_upd (fun _ => 0) ((0 : Int32).toNatClampNeg) (nar .byte (x1.toInt8.toInt32))) hh47 n0 Z0 E_ob47 F_ob47_bytes F_ob47_position F_ob47_end g_ob47 A_ob45 ne_ob45_ob47) (by decide) (by decide) e47 rfl (by rw [hml]; rfl) (lenOf pd_4 rfl) rfl (W := 1) (by show 2 * 0 + _ ≤ _; exact Nat.le_of_eq rfl) (hb hby at_129) (by decide) (by decide) fun v48 T48 hh48 L48 X48 e48 hQ48 => ?_
        obtain ⟨rfl, NL48, KK48, P48_0, P48_1, P48_2⟩ := hQ48
        have A_ob45 := A_ob45.keep KK48 (by simp [ne_ob45_ob47])
        have E_ob47 := E_ob47.keep KK48
        have F_ob47_bytes := P48_0
        have F_ob47_position := P48_1
        have F_ob47_end := P48_2
        have Z0 := Nat.le_trans Z0 KK48.1
        have hk := Nat.le_trans hk KK48.1
        have N48 := Fr.app N46 NL48
        show own_Out p e below _ T48 (mkF m 132 #[.val (.int x0), .val (.int x1), .val (.int x2), .val (.int (1 : Int32)), .val (.int (0 : Int32)), .val (.int (1 : Int32)), .val (.int (x1 &&& (255 : Int32))), .val (.ref ob45), .unset, .unset, .unset, .unset] [(.ref ob47)]) _ _ _
        rw [show (Nat.toInt32 1) = (1 : Int32) from by decide] at F_ob47_end
        refine own_to (fun t k => XS.astore X48.here hx rfl (hb hby at_132) rfl rfl (l' := #[.val (.int x0), .val (.int x1), .val (.int x2), .val (.int (1 : Int32)), .val (.int (0 : Int32)), .val (.int (1 : Int32)), .val (.int (x1 &&& (255 : Int32))), .val (.ref ob45), .val (.ref ob47), .unset, .unset, .unset]) rfl k) ?_
        show own_Out p e below _ T48 (mkF m 134 #[.val (.int x0), .val (.int x1), .val (.int x2), .val (.int (1 : Int32)), .val (.int (0 : Int32)), .val (.int (1 : Int32)), .val (.int (x1 &&& (255 : Int32))), .val (.ref ob45), .val (.ref ob47), .unset, .unset, .unset] []) _ _ _
        refine own_to (fun t k => XS.iload X48.here hx rfl (hb hby at_134) rfl k) ?_
        show own_Out p e below _ T48 (mkF m 136 #[.val (.int x0), .val (.int x1), .val (.int x2), .val (.int (1 : Int32)), .val (.int (0 : Int32)), .val (.int (1 : Int32)), .val (.int (x1 &&& (255 : Int32))), .val (.ref ob45), .val (.ref ob47), .unset, .unset, .unset] [(.int (0 : Int32))]) _ _ _
        have hc136 : (0 : Int32) = (0 : Int32) := by decide
        refine own_to (fun t k => XS.ifYes X48.here hx rfl (pc0 := 136) (pc' := 145) rfl (hb hby at_136) rfl ((if0 _ _).trans (teq hc136).1) (by decide) (by decide) k) ?_
        show own_Out p e below _ T48 (mkF m 145 #[.val (.int x0), .val (.int x1), .val (.int x2), .val (.int (1 : Int32)), .val (.int (0 : Int32)), .val (.int (1 : Int32)), .val (.int (x1 &&& (255 : Int32))), .val (.ref ob45), .val (.ref ob47), .unset, .unset, .unset] []) _ _ _
        refine own_to (fun t k => XS.iload X48.here hx rfl (hb hby at_145) rfl k) ?_
        show own_Out p e below _ T48 (mkF m 147 #[.val (.int x0), .val (.int x1), .val (.int x2), .val (.int (1 : Int32)), .val (.int (0 : Int32)), .val (.int (1 : Int32)), .val (.int (x1 &&& (255 : Int32))), .val (.ref ob45), .val (.ref ob47), .unset, .unset, .unset] [(.int (1 : Int32))]) _ _ _
        have hc147 : ¬ ((1 : Int32) = (0 : Int32)) := by decide
        refine own_to (fun t k => XS.ifNo X48.here hx rfl (hb hby at_147) rfl ((if0 _ _).trans (feq hc147).1) k) ?_
        show own_Out p e below _ T48 (mkF m 150 #[.val (.int x0), .val (.int x1), .val (.int x2), .val (.int (1 : Int32)), .val (.int (0 : Int32)), .val (.int (1 : Int32)), .val (.int (x1 &&& (255 : Int32))), .val (.ref ob45), .val (.ref ob47), .unset, .unset, .unset] []) _ _ _
        refine own_to (fun t k => XS.iloadN X48.here hx rfl (hb hby at_150) rfl k) ?_
        show own_Out p e below _ T48 (mkF m 151 #[.val (.int x0), .val (.int x1), .val (.int x2), .val (.int (1 : Int32)), .val (.int (0 : Int32)), .val (.int (1 : Int32)), .val (.int (x1 &&& (255 : Int32))), .val (.ref ob45), .val (.ref ob47), .unset, .unset, .unset] [(.int x1)]) _ _ _
        refine own_to (fun t k => XS.sipush X48.here hx rfl (hb hby at_151) k) ?_
        show own_Out p e below _ T48 (mkF m 154 #[.val (.int x0), .val (.int x1), .val (.int x2), .val (.int (1 : Int32)), .val (.int (0 : Int32)), .val (.int (1 : Int32)), .val (.int (x1 &&& (255 : Int32))), .val (.ref ob45), .val (.ref ob47), .unset, .unset, .unset] [(.int (255 : Int32)), (.int x1)]) _ _ _
        refine own_to (fun t k => XS.iand X48.here hx rfl (hb hby at_154) rfl k) ?_
        show own_Out p e below _ T48 (mkF m 155 #[.val (.int x0), .val (.int x1), .val (.int x2), .val (.int (1 : Int32)), .val (.int (0 : Int32)), .val (.int (1 : Int32)), .val (.int (x1 &&& (255 : Int32))), .val (.ref ob45), .val (.ref ob47), .unset, .unset, .unset] [(.int (x1 &&& (255 : Int32)))]) _ _ _
        refine own_to (fun t k => XS.iload X48.here hx rfl (hb hby at_155) rfl k) ?_
        show own_Out p e below _ T48 (mkF m 157 #[.val (.int x0), .val (.int x1), .val (.int x2), .val (.int (1 : Int32)), .val (.int (0 : Int32)), .val (.int (1 : Int32)), .val (.int (x1 &&& (255 : Int32))), .val (.ref ob45), .val (.ref ob47), .unset, .unset, .unset] [(.int (x1 &&& (255 : Int32))), (.int (x1 &&& (255 : Int32)))]) _ _ _
        have hc157 : (x1 &&& (255 : Int32)) = (x1 &&& (255 : Int32)) := rfl
        refine own_to (fun t k => XS.icmpNo X48.here hx rfl (hb hby at_157) rfl (teq hc157).2 k) ?_
        show own_Out p e below _ T48 (mkF m 160 #[.val (.int x0), .val (.int x1), .val (.int x2), .val (.int (1 : Int32)), .val (.int (0 : Int32)), .val (.int (1 : Int32)), .val (.int (x1 &&& (255 : Int32))), .val (.ref ob45), .val (.ref ob47), .unset, .unset, .unset] []) _ _ _
        refine own_to (fun t k => XS.iconst X48.here hx rfl (hb hby at_160) k) ?_
        show own_Out p e below _ T48 (mkF m 161 #[.val (.int x0), .val (.int x1), .val (.int x2), .val (.int (1 : Int32)), .val (.int (0 : Int32)), .val (.int (1 : Int32)), .val (.int (x1 &&& (255 : Int32))), .val (.ref ob45), .val (.ref ob47), .unset, .unset, .unset] [(.int (1 : Int32))]) _ _ _
        refine own_to (fun t k => XS.goto X48.here hx rfl (pc0 := 161) (pc' := 165) rfl (hb hby at_161) (by decide) (by decide) k) ?_
        show own_Out p e below _ T48 (mkF m 165 #[.val (.int x0), .val (.int x1), .val (.int x2), .val (.int (1 : Int32)), .val (.int (0 : Int32)), .val (.int (1 : Int32)), .val (.int (x1 &&& (255 : Int32))), .val (.ref ob45), .val (.ref ob47), .unset, .unset, .unset] [(.int (1 : Int32))]) _ _ _
        refine own_to (fun t k => XS.istore X48.here hx rfl (hb hby at_165) rfl (l' := #[.val (.int x0), .val (.int x1), .val (.int x2), .val (.int (1 : Int32)), .val (.int (0 : Int32)), .val (.int (1 : Int32)), .val (.int (x1 &&& (255 : Int32))), .val (.ref ob45), .val (.ref ob47), .val (.int (1 : Int32)), .unset, .unset]) rfl k) ?_
        show own_Out p e below _ T48 (mkF m 167 #[.val (.int x0), .val (.int x1), .val (.int x2), .val (.int (1 : Int32)), .val (.int (0 : Int32)), .val (.int (1 : Int32)), .val (.int (x1 &&& (255 : Int32))), .val (.ref ob45), .val (.ref ob47), .val (.int (1 : Int32)), .unset, .unset] []) _ _ _
        refine own_to (fun t k => XS.aload X48.here hx rfl (hb hby at_167) rfl rfl k) ?_
        show own_Out p e below _ T48 (mkF m 169 #[.val (.int x0), .val (.int x1), .val (.int x2), .val (.int (1 : Int32)), .val (.int (0 : Int32)), .val (.int (1 : Int32)), .val (.int (x1 &&& (255 : Int32))), .val (.ref ob45), .val (.ref ob47), .val (.int (1 : Int32)), .unset, .unset] [(.ref ob47)]) _ _ _
        refine own_to (fun t k => XS.iload X48.here hx rfl (hb hby at_169) rfl k) ?_
        show own_Out p e below _ T48 (mkF m 171 #[.val (.int x0), .val (.int x1), .val (.int x2), .val (.int (1 : Int32)), .val (.int (0 : Int32)), .val (.int (1 : Int32)), .val (.int (x1 &&& (255 : Int32))), .val (.ref ob45), .val (.ref ob47), .val (.int (1 : Int32)), .unset, .unset] [(.int (x1 &&& (255 : Int32))), (.ref ob47)]) _ _ _
        refine own_callV X48 hx hZ hown (a := ob47) (argsL := [(.int (x1 &&& (255 : Int32)))]) (rest := []) (hw _ (List.mem_of_getElem? (i := 19) rfl)) (hw _ (List.mem_of_getElem? (i := 20) rfl)) (hw _ (List.mem_of_getElem? (i := 22) rfl)) (hw _ (List.mem_of_getElem? (i := 21) rfl)) (hw _ (List.mem_of_getElem? (i := 3) rfl)) (hw _ (List.mem_of_getElem? (i := 23) rfl)) (by decide) (rm4 l Z a0 hw ob47 (x1 &&& (255 : Int32)) (0 : Int32) (1 : Int32) ob45 1 (own_upd (fun _ => 0) ((0 : Int32).toNatClampNeg) (nar .byte (x1.toInt8.toInt32))) hh48 n0 Z0 E_ob47 F_ob47_bytes F_ob47_position F_ob47_end A_ob45 (by decide)) (by decide) (by decide) e48 E_ob47 rfl (by rw [hml]; rfl) (lenOf pd_5 rfl) rfl (W := 0) (by show 2 * 0 + _ ≤ _; exact Nat.le_of_eq rfl) (hb hby at_171) (by decide) (by decide) fun v49 T49 hh49 L49 X49 e49 hQ49 => ?_
        obtain ⟨rfl, NL49, he49⟩ := hQ49
        replace e49 := e49.trans he49
        have N49 := Fr.app N48 NL49
        show own_Out p e below _ T49 (mkF m 174 #[.val (.int x0), .val (.int x1), .val (.int x2), .val (.int (1 : Int32)), .val (.int (0 : Int32)), .val (.int (1 : Int32)), .val (.int (x1 &&& (255 : Int32))), .val (.ref ob45), .val (.ref ob47), .val (.int (1 : Int32)), .unset, .unset] [(.int (R4 ob47 (x1 &&& (255 : Int32)) (0 : Int32) (1 : Int32) ob45 1 (own_upd (fun _ => 0) ((0 : Int32).toNatClampNeg) (nar .byte (x1.toInt8.toInt32)))))]) _ _ _
        refine own_to (fun t k => XS.istore X49.here hx rfl (hb hby at_174) rfl (l' := #[.val (.int x0), .val (.int x1), .val (.int x2), .val (.int (1 : Int32)), .val (.int (0 : Int32)), .val (.int (1 : Int32)), .val (.int (x1 &&& (255 : Int32))), .val (.ref ob45), .val (.ref ob47), .val (.int (1 : Int32)), .val (.int (R4 ob47 (x1 &&& (255 : Int32)) (0 : Int32) (1 : Int32) ob45 1 (own_upd (fun _ => 0) ((0 : Int32).toNatClampNeg) (nar .byte (x1.toInt8.toInt32))))), .unset]) rfl k) ?_
        show own_Out p e below _ T49 (mkF m 176 #[.val (.int x0), .val (.int x1), .val (.int x2), .val (.int (1 : Int32)), .val (.int (0 : Int32)), .val (.int (1 : Int32)), .val (.int (x1 &&& (255 : Int32))), .val (.ref ob45), .val (.ref ob47), .val (.int (1 : Int32)), .val (.int (R4 ob47 (x1 &&& (255 : Int32)) (0 : Int32) (1 : Int32) ob45 1 (own_upd (fun _ => 0) ((0 : Int32).toNatClampNeg) (nar .byte (x1.toInt8.toInt32))))), .unset] []) _ _ _
        refine own_to (fun t k => XS.aload X49.here hx rfl (hb hby at_176) rfl rfl k) ?_
        show own_Out p e below _ T49 (mkF m 178 #[.val (.int x0), .val (.int x1), .val (.int x2), .val (.int (1 : Int32)), .val (.int (0 : Int32)), .val (.int (1 : Int32)), .val (.int (x1 &&& (255 : Int32))), .val (.ref ob45), .val (.ref ob47), .val (.int (1 : Int32)), .val (.int (R4 ob47 (x1 &&& (255 : Int32)) (0 : Int32) (1 : Int32) ob45 1 (own_upd (fun _ => 0) ((0 : Int32).toNatClampNeg) (nar .byte (x1.toInt8.toInt32))))), .unset] [(.ref ob47)]) _ _ _
        refine own_to (fun t k => XS.iload X49.here hx rfl (hb hby at_178) rfl k) ?_
        show own_Out p e below _ T49 (mkF m 180 #[.val (.int x0), .val (.int x1), .val (.int x2), .val (.int (1 : Int32)), .val (.int (0 : Int32)), .val (.int (1 : Int32)), .val (.int (x1 &&& (255 : Int32))), .val (.ref ob45), .val (.ref ob47), .val (.int (1 : Int32)), .val (.int (R4 ob47 (x1 &&& (255 : Int32)) (0 : Int32) (1 : Int32) ob45 1 (own_upd (fun _ => 0) ((0 : Int32).toNatClampNeg) (nar .byte (x1.toInt8.toInt32))))), .unset] [(.int (x1 &&& (255 : Int32))), (.ref ob47)]) _ _ _
        refine own_callV X49 hx hZ hown (a := ob47) (argsL := [(.int (x1 &&& (255 : Int32)))]) (rest := []) (hw _ (List.mem_of_getElem? (i := 19) rfl)) (hw _ (List.mem_of_getElem? (i := 20) rfl)) (hw _ (List.mem_of_getElem? (i := 22) rfl)) (hw _ (List.mem_of_getElem? (i := 21) rfl)) (hw _ (List.mem_of_getElem? (i := 3) rfl)) (hw _ (List.mem_of_getElem? (i := 23) rfl)) (by decide) (rm4 l Z a0 hw ob47 (x1 &&& (255 : Int32)) (0 : Int32) (1 : Int32) ob45 1 (own_upd (fun _ => 0) ((0 : Int32).toNatClampNeg) (nar .byte (x1.toInt8.toInt32))) hh48 n0 Z0 E_ob47 F_ob47_bytes F_ob47_position F_ob47_end A_ob45 (by decide)) (by decide) (by decide) e49 E_ob47 rfl (by rw [hml]; rfl) (lenOf pd_5 rfl) rfl (W := 0) (by show 2 * 0 + _ ≤ _; exact Nat.le_of_eq rfl) (hb hby at_180) (by decide) (by decide) fun v50 T50 hh50 L50 X50 e50 hQ50 => ?_
        obtain ⟨rfl, NL50, he50⟩ := hQ50
        replace e50 := e50.trans he50
        have N50 := Fr.app N49 NL50
        show own_Out p e below _ T50 (mkF m 183 #[.val (.int x0), .val (.int x1), .val (.int x2), .val (.int (1 : Int32)), .val (.int (0 : Int32)), .val (.int (1 : Int32)), .val (.int (x1 &&& (255 : Int32))), .val (.ref ob45), .val (.ref ob47), .val (.int (1 : Int32)), .val (.int (R4 ob47 (x1 &&& (255 : Int32)) (0 : Int32) (1 : Int32) ob45 1 (own_upd (fun _ => 0) ((0 : Int32).toNatClampNeg) (nar .byte (x1.toInt8.toInt32))))), .unset] [(.int (R4 ob47 (x1 &&& (255 : Int32)) (0 : Int32) (1 : Int32) ob45 1 (own_upd (fun _ => 0) ((0 : Int32).toNatClampNeg) (nar .byte (x1.toInt8.toInt32)))))]) _ _ _
        refine own_to (fun t k => XS.istore X50.here hx rfl (hb hby at_183) rfl (l' := #[.val (.int x0), .val (.int x1), .val (.int x2), .val (.int (1 : Int32)), .val (.int (0 : Int32)), .val (.int (1 : Int32)), .val (.int (x1 &&& (255 : Int32))), .val (.ref ob45), .val (.ref ob47), .val (.int (1 : Int32)), .val (.int (R4 ob47 (x1 &&& (255 : Int32)) (0 : Int32) (1 : Int32) ob45 1 (own_upd (fun _ => 0) ((0 : Int32).toNatClampNeg) (nar .byte (x1.toInt8.toInt32))))), .val (.int (R4 ob47 (x1 &&& (255 : Int32)) (0 : Int32) (1 : Int32) ob45 1 (own_upd (fun _ => 0) ((0 : Int32).toNatClampNeg) (nar .byte (x1.toInt8.toInt32)))))]) rfl k) ?_
        show own_Out p e below _ T50 (mkF m 185 #[.val (.int x0), .val (.int x1), .val (.int x2), .val (.int (1 : Int32)), .val (.int (0 : Int32)), .val (.int (1 : Int32)), .val (.int (x1 &&& (255 : Int32))), .val (.ref ob45), .val (.ref ob47), .val (.int (1 : Int32)), .val (.int (R4 ob47 (x1 &&& (255 : Int32)) (0 : Int32) (1 : Int32) ob45 1 (own_upd (fun _ => 0) ((0 : Int32).toNatClampNeg) (nar .byte (x1.toInt8.toInt32))))), .val (.int (R4 ob47 (x1 &&& (255 : Int32)) (0 : Int32) (1 : Int32) ob45 1 (own_upd (fun _ => 0) ((0 : Int32).toNatClampNeg) (nar .byte (x1.toInt8.toInt32)))))] []) _ _ _
        refine own_to (fun t k => XS.iload X50.here hx rfl (hb hby at_185) rfl k) ?_
        show own_Out p e below _ T50 (mkF m 187 #[.val (.int x0), .val (.int x1), .val (.int x2), .val (.int (1 : Int32)), .val (.int (0 : Int32)), .val (.int (1 : Int32)), .val (.int (x1 &&& (255 : Int32))), .val (.ref ob45), .val (.ref ob47), .val (.int (1 : Int32)), .val (.int (R4 ob47 (x1 &&& (255 : Int32)) (0 : Int32) (1 : Int32) ob45 1 (own_upd (fun _ => 0) ((0 : Int32).toNatClampNeg) (nar .byte (x1.toInt8.toInt32))))), .val (.int (R4 ob47 (x1 &&& (255 : Int32)) (0 : Int32) (1 : Int32) ob45 1 (own_upd (fun _ => 0) ((0 : Int32).toNatClampNeg) (nar .byte (x1.toInt8.toInt32)))))] [(.int (R4 ob47 (x1 &&& (255 : Int32)) (0 : Int32) (1 : Int32) ob45 1 (own_upd (fun _ => 0) ((0 : Int32).toNatClampNeg) (nar .byte (x1.toInt8.toInt32)))))]) _ _ _
        refine own_to (fun t k => XS.iload X50.here hx rfl (hb hby at_187) rfl k) ?_
        show own_Out p e below _ T50 (mkF m 189 #[.val (.int x0), .val (.int x1), .val (.int x2), .val (.int (1 : Int32)), .val (.int (0 : Int32)), .val (.int (1 : Int32)), .val (.int (x1 &&& (255 : Int32))), .val (.ref ob45), .val (.ref ob47), .val (.int (1 : Int32)), .val (.int (R4 ob47 (x1 &&& (255 : Int32)) (0 : Int32) (1 : Int32) ob45 1 (own_upd (fun _ => 0) ((0 : Int32).toNatClampNeg) (nar .byte (x1.toInt8.toInt32))))), .val (.int (R4 ob47 (x1 &&& (255 : Int32)) (0 : Int32) (1 : Int32) ob45 1 (own_upd (fun _ => 0) ((0 : Int32).toNatClampNeg) (nar .byte (x1.toInt8.toInt32)))))] [(.int (1 : Int32)), (.int (R4 ob47 (x1 &&& (255 : Int32)) (0 : Int32) (1 : Int32) ob45 1 (own_upd (fun _ => 0) ((0 : Int32).toNatClampNeg) (nar .byte (x1.toInt8.toInt32)))))]) _ _ _
        have hc189 : (R4 ob47 (x1 &&& (255 : Int32)) (0 : Int32) (1 : Int32) ob45 1 (own_upd (fun _ => 0) ((0 : Int32).toNatClampNeg) (nar .byte (x1.toInt8.toInt32)))) = (1 : Int32) := (own_ni _ _ _ _ _ _ _).2.1 (by decide) (((congrArg (fun z => z &&& (255 : Int32)) (own_hit (by decide))).trans (own_by x1)).trans rfl)
        refine own_to (fun t k => XS.icmpNo X50.here hx rfl (hb hby at_189) rfl (teq hc189).2 k) ?_
        show own_Out p e below _ T50 (mkF m 192 #[.val (.int x0), .val (.int x1), .val (.int x2), .val (.int (1 : Int32)), .val (.int (0 : Int32)), .val (.int (1 : Int32)), .val (.int (x1 &&& (255 : Int32))), .val (.ref ob45), .val (.ref ob47), .val (.int (1 : Int32)), .val (.int (R4 ob47 (x1 &&& (255 : Int32)) (0 : Int32) (1 : Int32) ob45 1 (own_upd (fun _ => 0) ((0 : Int32).toNatClampNeg) (nar .byte (x1.toInt8.toInt32))))), .val (.int (R4 ob47 (x1 &&& (255 : Int32)) (0 : Int32) (1 : Int32) ob45 1 (own_upd (fun _ => 0) ((0 : Int32).toNatClampNeg) (nar .byte (x1.toInt8.toInt32)))))] []) _ _ _
        refine own_to (fun t k => XS.iload X50.here hx rfl (hb hby at_192) rfl k) ?_
        show own_Out p e below _ T50 (mkF m 194 #[.val (.int x0), .val (.int x1), .val (.int x2), .val (.int (1 : Int32)), .val (.int (0 : Int32)), .val (.int (1 : Int32)), .val (.int (x1 &&& (255 : Int32))), .val (.ref ob45), .val (.ref ob47), .val (.int (1 : Int32)), .val (.int (R4 ob47 (x1 &&& (255 : Int32)) (0 : Int32) (1 : Int32) ob45 1 (own_upd (fun _ => 0) ((0 : Int32).toNatClampNeg) (nar .byte (x1.toInt8.toInt32))))), .val (.int (R4 ob47 (x1 &&& (255 : Int32)) (0 : Int32) (1 : Int32) ob45 1 (own_upd (fun _ => 0) ((0 : Int32).toNatClampNeg) (nar .byte (x1.toInt8.toInt32)))))] [(.int (R4 ob47 (x1 &&& (255 : Int32)) (0 : Int32) (1 : Int32) ob45 1 (own_upd (fun _ => 0) ((0 : Int32).toNatClampNeg) (nar .byte (x1.toInt8.toInt32)))))]) _ _ _
        refine own_to (fun t k => XS.iload X50.here hx rfl (hb hby at_194) rfl k) ?_
        show own_Out p e below _ T50 (mkF m 196 #[.val (.int x0), .val (.int x1), .val (.int x2), .val (.int (1 : Int32)), .val (.int (0 : Int32)), .val (.int (1 : Int32)), .val (.int (x1 &&& (255 : Int32))), .val (.ref ob45), .val (.ref ob47), .val (.int (1 : Int32)), .val (.int (R4 ob47 (x1 &&& (255 : Int32)) (0 : Int32) (1 : Int32) ob45 1 (own_upd (fun _ => 0) ((0 : Int32).toNatClampNeg) (nar .byte (x1.toInt8.toInt32))))), .val (.int (R4 ob47 (x1 &&& (255 : Int32)) (0 : Int32) (1 : Int32) ob45 1 (own_upd (fun _ => 0) ((0 : Int32).toNatClampNeg) (nar .byte (x1.toInt8.toInt32)))))] [(.int (1 : Int32)), (.int (R4 ob47 (x1 &&& (255 : Int32)) (0 : Int32) (1 : Int32) ob45 1 (own_upd (fun _ => 0) ((0 : Int32).toNatClampNeg) (nar .byte (x1.toInt8.toInt32)))))]) _ _ _
        have hc196 : (R4 ob47 (x1 &&& (255 : Int32)) (0 : Int32) (1 : Int32) ob45 1 (own_upd (fun _ => 0) ((0 : Int32).toNatClampNeg) (nar .byte (x1.toInt8.toInt32)))) = (1 : Int32) := (own_ni _ _ _ _ _ _ _).2.1 (by decide) (((congrArg (fun z => z &&& (255 : Int32)) (own_hit (by decide))).trans (own_by x1)).trans rfl)
        refine own_to (fun t k => XS.icmpNo X50.here hx rfl (hb hby at_196) rfl (teq hc196).2 k) ?_
        show own_Out p e below _ T50 (mkF m 199 #[.val (.int x0), .val (.int x1), .val (.int x2), .val (.int (1 : Int32)), .val (.int (0 : Int32)), .val (.int (1 : Int32)), .val (.int (x1 &&& (255 : Int32))), .val (.ref ob45), .val (.ref ob47), .val (.int (1 : Int32)), .val (.int (R4 ob47 (x1 &&& (255 : Int32)) (0 : Int32) (1 : Int32) ob45 1 (own_upd (fun _ => 0) ((0 : Int32).toNatClampNeg) (nar .byte (x1.toInt8.toInt32))))), .val (.int (R4 ob47 (x1 &&& (255 : Int32)) (0 : Int32) (1 : Int32) ob45 1 (own_upd (fun _ => 0) ((0 : Int32).toNatClampNeg) (nar .byte (x1.toInt8.toInt32)))))] []) _ _ _
        refine own_to (fun t k => XS.aload X50.here hx rfl (hb hby at_199) rfl rfl k) ?_
        show own_Out p e below _ T50 (mkF m 201 #[.val (.int x0), .val (.int x1), .val (.int x2), .val (.int (1 : Int32)), .val (.int (0 : Int32)), .val (.int (1 : Int32)), .val (.int (x1 &&& (255 : Int32))), .val (.ref ob45), .val (.ref ob47), .val (.int (1 : Int32)), .val (.int (R4 ob47 (x1 &&& (255 : Int32)) (0 : Int32) (1 : Int32) ob45 1 (own_upd (fun _ => 0) ((0 : Int32).toNatClampNeg) (nar .byte (x1.toInt8.toInt32))))), .val (.int (R4 ob47 (x1 &&& (255 : Int32)) (0 : Int32) (1 : Int32) ob45 1 (own_upd (fun _ => 0) ((0 : Int32).toNatClampNeg) (nar .byte (x1.toInt8.toInt32)))))] [(.ref ob47)]) _ _ _
        refine own_callV X50 hx hZ hown (a := ob47) (argsL := []) (rest := []) (hw _ (List.mem_of_getElem? (i := 29) rfl)) (hw _ (List.mem_of_getElem? (i := 25) rfl)) (hw _ (List.mem_of_getElem? (i := 27) rfl)) (hw _ (List.mem_of_getElem? (i := 26) rfl)) (hw _ (List.mem_of_getElem? (i := 3) rfl)) (hw _ (List.mem_of_getElem? (i := 28) rfl)) (by decide) (rm5 l Z a0 hw ob47 (0 : Int32) (1 : Int32) hh48 n0 Z0 F_ob47_position F_ob47_end) (by decide) (by decide) e50 E_ob47 rfl (by rw [hml]; rfl) (lenOf pd_1 rfl) rfl (W := 0) (by show 2 * 0 + _ ≤ _; exact Nat.le_of_eq rfl) (hb hby at_201) (by decide) (by decide) fun v51 T51 hh51 L51 X51 e51 hQ51 => ?_
        obtain ⟨rfl, NL51, he51⟩ := hQ51
        replace e51 := e51.trans he51
        have N51 := Fr.app N50 NL51
        show own_Out p e below _ T51 (mkF m 204 #[.val (.int x0), .val (.int x1), .val (.int x2), .val (.int (1 : Int32)), .val (.int (0 : Int32)), .val (.int (1 : Int32)), .val (.int (x1 &&& (255 : Int32))), .val (.ref ob45), .val (.ref ob47), .val (.int (1 : Int32)), .val (.int (R4 ob47 (x1 &&& (255 : Int32)) (0 : Int32) (1 : Int32) ob45 1 (own_upd (fun _ => 0) ((0 : Int32).toNatClampNeg) (nar .byte (x1.toInt8.toInt32))))), .val (.int (R4 ob47 (x1 &&& (255 : Int32)) (0 : Int32) (1 : Int32) ob45 1 (own_upd (fun _ => 0) ((0 : Int32).toNatClampNeg) (nar .byte (x1.toInt8.toInt32)))))] [(.int (R5 ob47 (0 : Int32) (1 : Int32)))]) _ _ _
        refine own_to (fun t k => XS.iload X51.here hx rfl (hb hby at_204) rfl k) ?_
        show own_Out p e below _ T51 (mkF m 206 #[.val (.int x0), .val (.int x1), .val (.int x2), .val (.int (1 : Int32)), .val (.int (0 : Int32)), .val (.int (1 : Int32)), .val (.int (x1 &&& (255 : Int32))), .val (.ref ob45), .val (.ref ob47), .val (.int (1 : Int32)), .val (.int (R4 ob47 (x1 &&& (255 : Int32)) (0 : Int32) (1 : Int32) ob45 1 (own_upd (fun _ => 0) ((0 : Int32).toNatClampNeg) (nar .byte (x1.toInt8.toInt32))))), .val (.int (R4 ob47 (x1 &&& (255 : Int32)) (0 : Int32) (1 : Int32) ob45 1 (own_upd (fun _ => 0) ((0 : Int32).toNatClampNeg) (nar .byte (x1.toInt8.toInt32)))))] [(.int (1 : Int32)), (.int (R5 ob47 (0 : Int32) (1 : Int32)))]) _ _ _
        have hc206 : (R5 ob47 (0 : Int32) (1 : Int32)) = (1 : Int32) := own_hn1 _ _ _ (by decide)
        refine own_to (fun t k => XS.icmpNo X51.here hx rfl (hb hby at_206) rfl (teq hc206).2 k) ?_
        show own_Out p e below _ T51 (mkF m 209 #[.val (.int x0), .val (.int x1), .val (.int x2), .val (.int (1 : Int32)), .val (.int (0 : Int32)), .val (.int (1 : Int32)), .val (.int (x1 &&& (255 : Int32))), .val (.ref ob45), .val (.ref ob47), .val (.int (1 : Int32)), .val (.int (R4 ob47 (x1 &&& (255 : Int32)) (0 : Int32) (1 : Int32) ob45 1 (own_upd (fun _ => 0) ((0 : Int32).toNatClampNeg) (nar .byte (x1.toInt8.toInt32))))), .val (.int (R4 ob47 (x1 &&& (255 : Int32)) (0 : Int32) (1 : Int32) ob45 1 (own_upd (fun _ => 0) ((0 : Int32).toNatClampNeg) (nar .byte (x1.toInt8.toInt32)))))] []) _ _ _
        refine own_to (fun t k => XS.iconst X51.here hx rfl (hb hby at_209) k) ?_
        show own_Out p e below _ T51 (mkF m 210 #[.val (.int x0), .val (.int x1), .val (.int x2), .val (.int (1 : Int32)), .val (.int (0 : Int32)), .val (.int (1 : Int32)), .val (.int (x1 &&& (255 : Int32))), .val (.ref ob45), .val (.ref ob47), .val (.int (1 : Int32)), .val (.int (R4 ob47 (x1 &&& (255 : Int32)) (0 : Int32) (1 : Int32) ob45 1 (own_upd (fun _ => 0) ((0 : Int32).toNatClampNeg) (nar .byte (x1.toInt8.toInt32))))), .val (.int (R4 ob47 (x1 &&& (255 : Int32)) (0 : Int32) (1 : Int32) ob45 1 (own_upd (fun _ => 0) ((0 : Int32).toNatClampNeg) (nar .byte (x1.toInt8.toInt32)))))] [(.int (1 : Int32))]) _ _ _
        refine own_to (fun t k => XS.goto X51.here hx rfl (pc0 := 210) (pc' := 214) rfl (hb hby at_210) (by decide) (by decide) k) ?_
        show own_Out p e below _ T51 (mkF m 214 #[.val (.int x0), .val (.int x1), .val (.int x2), .val (.int (1 : Int32)), .val (.int (0 : Int32)), .val (.int (1 : Int32)), .val (.int (x1 &&& (255 : Int32))), .val (.ref ob45), .val (.ref ob47), .val (.int (1 : Int32)), .val (.int (R4 ob47 (x1 &&& (255 : Int32)) (0 : Int32) (1 : Int32) ob45 1 (own_upd (fun _ => 0) ((0 : Int32).toNatClampNeg) (nar .byte (x1.toInt8.toInt32))))), .val (.int (R4 ob47 (x1 &&& (255 : Int32)) (0 : Int32) (1 : Int32) ob45 1 (own_upd (fun _ => 0) ((0 : Int32).toNatClampNeg) (nar .byte (x1.toInt8.toInt32)))))] [(.int (1 : Int32))]) _ _ _
        refine own_retVW X51 hS hk e51 hx hlk (w := .int (1 : Int32)) hret rfl (Or.inl ⟨rfl, by simp, _, rfl⟩) (hb hby at_214) (by decide) (by decide) ?_
        rw [e51]
        exact ⟨rfl, N51⟩
    · refine own_to (fun t k => XS.ifNo X0.here hx rfl (hb hby at_15) rfl ((if0 _ _).trans (feq hc15).1) k) ?_
      show own_Out p e below _ s₁ (mkF m 18 #[.val (.int x0), .val (.int x1), .val (.int x2), .val (.int (1 : Int32)), .unset, .unset, .unset, .unset, .unset, .unset, .unset, .unset] []) _ _ _
      refine own_to (fun t k => XS.iconst X0.here hx rfl (hb hby at_18) k) ?_
      show own_Out p e below _ s₁ (mkF m 19 #[.val (.int x0), .val (.int x1), .val (.int x2), .val (.int (1 : Int32)), .unset, .unset, .unset, .unset, .unset, .unset, .unset, .unset] [(.int (1 : Int32))]) _ _ _
      refine own_to (fun t k => XS.goto X0.here hx rfl (pc0 := 19) (pc' := 23) rfl (hb hby at_19) (by decide) (by decide) k) ?_
      show own_Out p e below _ s₁ (mkF m 23 #[.val (.int x0), .val (.int x1), .val (.int x2), .val (.int (1 : Int32)), .unset, .unset, .unset, .unset, .unset, .unset, .unset, .unset] [(.int (1 : Int32))]) _ _ _
      refine own_to (fun t k => XS.istore X0.here hx rfl (hb hby at_23) rfl (l' := #[.val (.int x0), .val (.int x1), .val (.int x2), .val (.int (1 : Int32)), .val (.int (1 : Int32)), .unset, .unset, .unset, .unset, .unset, .unset, .unset]) rfl k) ?_
      show own_Out p e below _ s₁ (mkF m 25 #[.val (.int x0), .val (.int x1), .val (.int x2), .val (.int (1 : Int32)), .val (.int (1 : Int32)), .unset, .unset, .unset, .unset, .unset, .unset, .unset] []) _ _ _
      refine own_to (fun t k => XS.iloadN X0.here hx rfl (hb hby at_25) rfl k) ?_
      show own_Out p e below _ s₁ (mkF m 26 #[.val (.int x0), .val (.int x1), .val (.int x2), .val (.int (1 : Int32)), .val (.int (1 : Int32)), .unset, .unset, .unset, .unset, .unset, .unset, .unset] [(.int x0)]) _ _ _
      refine own_to (fun t k => XS.iconst X0.here hx rfl (hb hby at_26) k) ?_
      show own_Out p e below _ s₁ (mkF m 27 #[.val (.int x0), .val (.int x1), .val (.int x2), .val (.int (1 : Int32)), .val (.int (1 : Int32)), .unset, .unset, .unset, .unset, .unset, .unset, .unset] [(.int (4 : Int32)), (.int x0)]) _ _ _
      refine own_to (fun t k => XS.iand X0.here hx rfl (hb hby at_27) rfl k) ?_
      show own_Out p e below _ s₁ (mkF m 28 #[.val (.int x0), .val (.int x1), .val (.int x2), .val (.int (1 : Int32)), .val (.int (1 : Int32)), .unset, .unset, .unset, .unset, .unset, .unset, .unset] [(.int (x0 &&& (4 : Int32)))]) _ _ _
      by_cases hc28 : (x0 &&& (4 : Int32)) = (0 : Int32)
      · refine own_to (fun t k => XS.ifYes X0.here hx rfl (pc0 := 28) (pc' := 35) rfl (hb hby at_28) rfl ((if0 _ _).trans (teq hc28).1) (by decide) (by decide) k) ?_
        show own_Out p e below _ s₁ (mkF m 35 #[.val (.int x0), .val (.int x1), .val (.int x2), .val (.int (1 : Int32)), .val (.int (1 : Int32)), .unset, .unset, .unset, .unset, .unset, .unset, .unset] []) _ _ _
        refine own_to (fun t k => XS.iconst X0.here hx rfl (hb hby at_35) k) ?_
        show own_Out p e below _ s₁ (mkF m 36 #[.val (.int x0), .val (.int x1), .val (.int x2), .val (.int (1 : Int32)), .val (.int (1 : Int32)), .unset, .unset, .unset, .unset, .unset, .unset, .unset] [(.int (0 : Int32))]) _ _ _
        refine own_to (fun t k => XS.istore X0.here hx rfl (hb hby at_36) rfl (l' := #[.val (.int x0), .val (.int x1), .val (.int x2), .val (.int (1 : Int32)), .val (.int (1 : Int32)), .val (.int (0 : Int32)), .unset, .unset, .unset, .unset, .unset, .unset]) rfl k) ?_
        show own_Out p e below _ s₁ (mkF m 38 #[.val (.int x0), .val (.int x1), .val (.int x2), .val (.int (1 : Int32)), .val (.int (1 : Int32)), .val (.int (0 : Int32)), .unset, .unset, .unset, .unset, .unset, .unset] []) _ _ _
        refine own_to (fun t k => XS.iloadN X0.here hx rfl (hb hby at_38) rfl k) ?_
        show own_Out p e below _ s₁ (mkF m 39 #[.val (.int x0), .val (.int x1), .val (.int x2), .val (.int (1 : Int32)), .val (.int (1 : Int32)), .val (.int (0 : Int32)), .unset, .unset, .unset, .unset, .unset, .unset] [(.int (1 : Int32))]) _ _ _
        have hc39 : ¬ ((1 : Int32) = (0 : Int32)) := by decide
        refine own_to (fun t k => XS.ifNo X0.here hx rfl (hb hby at_39) rfl ((if0 _ _).trans (feq hc39).1) k) ?_
        show own_Out p e below _ s₁ (mkF m 42 #[.val (.int x0), .val (.int x1), .val (.int x2), .val (.int (1 : Int32)), .val (.int (1 : Int32)), .val (.int (0 : Int32)), .unset, .unset, .unset, .unset, .unset, .unset] []) _ _ _
        refine own_to (fun t k => XS.iloadN X0.here hx rfl (hb hby at_42) rfl k) ?_
        show own_Out p e below _ s₁ (mkF m 43 #[.val (.int x0), .val (.int x1), .val (.int x2), .val (.int (1 : Int32)), .val (.int (1 : Int32)), .val (.int (0 : Int32)), .unset, .unset, .unset, .unset, .unset, .unset] [(.int x1)]) _ _ _
        refine own_to (fun t k => XS.sipush X0.here hx rfl (hb hby at_43) k) ?_
        show own_Out p e below _ s₁ (mkF m 46 #[.val (.int x0), .val (.int x1), .val (.int x2), .val (.int (1 : Int32)), .val (.int (1 : Int32)), .val (.int (0 : Int32)), .unset, .unset, .unset, .unset, .unset, .unset] [(.int (255 : Int32)), (.int x1)]) _ _ _
        refine own_to (fun t k => XS.iand X0.here hx rfl (hb hby at_46) rfl k) ?_
        show own_Out p e below _ s₁ (mkF m 47 #[.val (.int x0), .val (.int x1), .val (.int x2), .val (.int (1 : Int32)), .val (.int (1 : Int32)), .val (.int (0 : Int32)), .unset, .unset, .unset, .unset, .unset, .unset] [(.int (x1 &&& (255 : Int32)))]) _ _ _
        refine own_to (fun t k => XS.goto X0.here hx rfl (pc0 := 47) (pc' := 51) rfl (hb hby at_47) (by decide) (by decide) k) ?_
        show own_Out p e below _ s₁ (mkF m 51 #[.val (.int x0), .val (.int x1), .val (.int x2), .val (.int (1 : Int32)), .val (.int (1 : Int32)), .val (.int (0 : Int32)), .unset, .unset, .unset, .unset, .unset, .unset] [(.int (x1 &&& (255 : Int32)))]) _ _ _
        refine own_to (fun t k => XS.istore X0.here hx rfl (hb hby at_51) rfl (l' := #[.val (.int x0), .val (.int x1), .val (.int x2), .val (.int (1 : Int32)), .val (.int (1 : Int32)), .val (.int (0 : Int32)), .val (.int (x1 &&& (255 : Int32))), .unset, .unset, .unset, .unset, .unset]) rfl k) ?_
        show own_Out p e below _ s₁ (mkF m 53 #[.val (.int x0), .val (.int x1), .val (.int x2), .val (.int (1 : Int32)), .val (.int (1 : Int32)), .val (.int (0 : Int32)), .val (.int (x1 &&& (255 : Int32))), .unset, .unset, .unset, .unset, .unset] []) _ _ _
        refine own_to (fun t k => XS.iload X0.here hx rfl (hb hby at_53) rfl k) ?_
        show own_Out p e below _ s₁ (mkF m 55 #[.val (.int x0), .val (.int x1), .val (.int x2), .val (.int (1 : Int32)), .val (.int (1 : Int32)), .val (.int (0 : Int32)), .val (.int (x1 &&& (255 : Int32))), .unset, .unset, .unset, .unset, .unset] [(.int (1 : Int32))]) _ _ _
        have hc55 : ¬ ((1 : Int32) = (0 : Int32)) := by decide
        refine own_to (fun t k => XS.ifNo X0.here hx rfl (hb hby at_55) rfl ((if0 _ _).trans (feq hc55).1) k) ?_
        show own_Out p e below _ s₁ (mkF m 58 #[.val (.int x0), .val (.int x1), .val (.int x2), .val (.int (1 : Int32)), .val (.int (1 : Int32)), .val (.int (0 : Int32)), .val (.int (x1 &&& (255 : Int32))), .unset, .unset, .unset, .unset, .unset] []) _ _ _
        refine own_to (fun t k => XS.iload X0.here hx rfl (hb hby at_58) rfl k) ?_
        show own_Out p e below _ s₁ (mkF m 60 #[.val (.int x0), .val (.int x1), .val (.int x2), .val (.int (1 : Int32)), .val (.int (1 : Int32)), .val (.int (0 : Int32)), .val (.int (x1 &&& (255 : Int32))), .unset, .unset, .unset, .unset, .unset] [(.int (0 : Int32))]) _ _ _
        have hc60 : (0 : Int32) = (0 : Int32) := by decide
        refine own_to (fun t k => XS.ifYes X0.here hx rfl (pc0 := 60) (pc' := 84) rfl (hb hby at_60) rfl ((if0 _ _).trans (teq hc60).1) (by decide) (by decide) k) ?_
        show own_Out p e below _ s₁ (mkF m 84 #[.val (.int x0), .val (.int x1), .val (.int x2), .val (.int (1 : Int32)), .val (.int (1 : Int32)), .val (.int (0 : Int32)), .val (.int (x1 &&& (255 : Int32))), .unset, .unset, .unset, .unset, .unset] []) _ _ _
        refine own_to (fun t k => XS.iconst X0.here hx rfl (hb hby at_84) k) ?_
        show own_Out p e below _ s₁ (mkF m 85 #[.val (.int x0), .val (.int x1), .val (.int x2), .val (.int (1 : Int32)), .val (.int (1 : Int32)), .val (.int (0 : Int32)), .val (.int (x1 &&& (255 : Int32))), .unset, .unset, .unset, .unset, .unset] [(.int (2 : Int32))]) _ _ _
        refine own_newA X0 hx hZ (hw _ (List.mem_of_getElem? (i := 0) rfl)) rfl e0 rfl (hb hby at_85) rfl (by decide) (cap := 2) (by decide) (by decide) (by decide) (by decide) fun T52 hh52 ob52 gb52 X52 e52 E52 A52 => ?_
        have g_ob52 : n0 ≤ ob52 := Nat.le_trans Z0 (Nat.le_of_eq gb52.symm)
        have Z0 := Nat.le_trans Z0 E52.1
        have hk := Nat.le_trans hk E52.1
        have A_ob52 : own_A Z hh52 ob52 .byte 2 (fun _ => 0) := A52
        show own_Out p e below _ T52 (mkF m 87 #[.val (.int x0), .val (.int x1), .val (.int x2), .val (.int (1 : Int32)), .val (.int (1 : Int32)), .val (.int (0 : Int32)), .val (.int (x1 &&& (255 : Int32))), .unset, .unset, .unset, .unset, .unset] [(.ref ob52)]) _ _ _
        refine own_to (fun t k => XS.dup X52.here hx rfl (hb hby at_87) rfl rfl k) ?_
        show own_Out p e below _ T52 (mkF m 88 #[.val (.int x0), .val (.int x1), .val (.int x2), .val (.int (1 : Int32)), .val (.int (1 : Int32)), .val (.int (0 : Int32)), .val (.int (x1 &&& (255 : Int32))), .unset, .unset, .unset, .unset, .unset] [(.ref ob52), (.ref ob52)]) _ _ _
        refine own_to (fun t k => XS.iconst X52.here hx rfl (hb hby at_88) k) ?_
        show own_Out p e below _ T52 (mkF m 89 #[.val (.int x0), .val (.int x1), .val (.int x2), .val (.int (1 : Int32)), .val (.int (1 : Int32)), .val (.int (0 : Int32)), .val (.int (x1 &&& (255 : Int32))), .unset, .unset, .unset, .unset, .unset] [(.int (0 : Int32)), (.ref ob52), (.ref ob52)]) _ _ _
        refine own_to (fun t k => XS.iconst X52.here hx rfl (hb hby at_89) k) ?_
        show own_Out p e below _ T52 (mkF m 90 #[.val (.int x0), .val (.int x1), .val (.int x2), .val (.int (1 : Int32)), .val (.int (1 : Int32)), .val (.int (0 : Int32)), .val (.int (x1 &&& (255 : Int32))), .unset, .unset, .unset, .unset, .unset] [(.int (5 : Int32)), (.int (0 : Int32)), (.ref ob52), (.ref ob52)]) _ _ _
        refine own_stB X52 hx hZ e52 A_ob52 (by decide) (by decide) rfl rfl (hb hby at_90) fun T53 hh53 X53 e53 W53 A53 => ?_
        have A_ob52 := A53
        have Z0 := Nat.le_trans Z0 (Nat.le_of_eq W53.size.symm)
        have hk := Nat.le_trans hk (Nat.le_of_eq W53.size.symm)
        have N53 := own_fs (sl := Int32.toNatClampNeg (0 : Int32)) N0 g_ob52
        show own_Out p e below _ T53 (mkF m 91 #[.val (.int x0), .val (.int x1), .val (.int x2), .val (.int (1 : Int32)), .val (.int (1 : Int32)), .val (.int (0 : Int32)), .val (.int (x1 &&& (255 : Int32))), .unset, .unset, .unset, .unset, .unset] [(.ref ob52)]) _ _ _
        refine own_to (fun t k => XS.dup X53.here hx rfl (hb hby at_91) rfl rfl k) ?_
        show own_Out p e below _ T53 (mkF m 92 #[.val (.int x0), .val (.int x1), .val (.int x2), .val (.int (1 : Int32)), .val (.int (1 : Int32)), .val (.int (0 : Int32)), .val (.int (x1 &&& (255 : Int32))), .unset, .unset, .unset, .unset, .unset] [(.ref ob52), (.ref ob52)]) _ _ _
        refine own_to (fun t k => XS.iconst X53.here hx rfl (hb hby at_92) k) ?_
        show own_Out p e below _ T53 (mkF m 93 #[.val (.int x0), .val (.int x1), .val (.int x2), .val (.int (1 : Int32)), .val (.int (1 : Int32)), .val (.int (0 : Int32)), .val (.int (x1 &&& (255 : Int32))), .unset, .unset, .unset, .unset, .unset] [(.int (1 : Int32)), (.ref ob52), (.ref ob52)]) _ _ _
        refine own_to (fun t k => XS.iconst X53.here hx rfl (hb hby at_93) k) ?_
        show own_Out p e below _ T53 (mkF m 94 #[.val (.int x0), .val (.int x1), .val (.int x2), .val (.int (1 : Int32)), .val (.int (1 : Int32)), .val (.int (0 : Int32)), .val (.int (x1 &&& (255 : Int32))), .unset, .unset, .unset, .unset, .unset] [(.int (0 : Int32)), (.int (1 : Int32)), (.ref ob52), (.ref ob52)]) _ _ _
        refine own_stB X53 hx hZ e53 A_ob52 (by decide) (by decide) rfl rfl (hb hby at_94) fun T54 hh54 X54 e54 W54 A54 => ?_
        have A_ob52 := A54
        have Z0 := Nat.le_trans Z0 (Nat.le_of_eq W54.size.symm)
        have hk := Nat.le_trans hk (Nat.le_of_eq W54.size.symm)
        have N54 := own_fs (sl := Int32.toNatClampNeg (1 : Int32)) N53 g_ob52
        show own_Out p e below _ T54 (mkF m 95 #[.val (.int x0), .val (.int x1), .val (.int x2), .val (.int (1 : Int32)), .val (.int (1 : Int32)), .val (.int (0 : Int32)), .val (.int (x1 &&& (255 : Int32))), .unset, .unset, .unset, .unset, .unset] [(.ref ob52)]) _ _ _
        refine own_to (fun t k => XS.astore X54.here hx rfl (hb hby at_95) rfl rfl (l' := #[.val (.int x0), .val (.int x1), .val (.int x2), .val (.int (1 : Int32)), .val (.int (1 : Int32)), .val (.int (0 : Int32)), .val (.int (x1 &&& (255 : Int32))), .val (.ref ob52), .unset, .unset, .unset, .unset]) rfl k) ?_
        show own_Out p e below _ T54 (mkF m 97 #[.val (.int x0), .val (.int x1), .val (.int x2), .val (.int (1 : Int32)), .val (.int (1 : Int32)), .val (.int (0 : Int32)), .val (.int (x1 &&& (255 : Int32))), .val (.ref ob52), .unset, .unset, .unset, .unset] []) _ _ _
        refine own_to (fun t k => XS.goto X54.here hx rfl (pc0 := 97) (pc' := 123) rfl (hb hby at_97) (by decide) (by decide) k) ?_
        show own_Out p e below _ T54 (mkF m 123 #[.val (.int x0), .val (.int x1), .val (.int x2), .val (.int (1 : Int32)), .val (.int (1 : Int32)), .val (.int (0 : Int32)), .val (.int (x1 &&& (255 : Int32))), .val (.ref ob52), .unset, .unset, .unset, .unset] []) _ _ _
        refine own_new X54 hx hZ hown (hw _ (List.mem_of_getElem? (i := 1) rfl)) (hw _ (List.mem_of_getElem? (i := 2) rfl)) (hw _ (List.mem_of_getElem? (i := 3) rfl)) e54 rfl (hb hby at_123) (by decide) (by decide) fun T55 hh55 ob55 gb55 X55 e55 E55 A55 D55 => ?_
        have ne_ob52_ob55 : ob52 ≠ ob55 := Nat.ne_of_lt (Nat.lt_of_lt_of_le A_ob52.lt (Nat.le_of_eq gb55.symm))
        have ne_ob55_ob52 := Ne.symm ne_ob52_ob55
        have g_ob55 : n0 ≤ ob55 := Nat.le_trans Z0 (Nat.le_of_eq gb55.symm)
        have A_ob52 := A_ob52.ext E55
        have Z0 := Nat.le_trans Z0 E55.1
        have hk := Nat.le_trans hk E55.1
        have E_ob55 := A55
        have F_ob55_bytes : Fld Z hh55 ob55 "com/example/pathwarden/pathwarden/util/DerReader" "bytes" "[B" .null := D55 (Or.inr (hw _ (List.mem_of_getElem? (i := 14) rfl))) (ty := (.array .byte)) (by decide)
        have F_ob55_position : Fld Z hh55 ob55 "com/example/pathwarden/pathwarden/util/DerReader" "position" "I" (.int (0 : Int32)) := D55 (Or.inl (hw _ (List.mem_of_getElem? (i := 16) rfl))) (ty := .int) (by decide)
        have F_ob55_end : Fld Z hh55 ob55 "com/example/pathwarden/pathwarden/util/DerReader" "end" "I" (.int (0 : Int32)) := D55 (Or.inr (hw _ (List.mem_of_getElem? (i := 18) rfl))) (ty := .int) (by decide)
        show own_Out p e below _ T55 (mkF m 126 #[.val (.int x0), .val (.int x1), .val (.int x2), .val (.int (1 : Int32)), .val (.int (1 : Int32)), .val (.int (0 : Int32)), .val (.int (x1 &&& (255 : Int32))), .val (.ref ob52), .unset, .unset, .unset, .unset] [(.ref ob55)]) _ _ _
        refine own_to (fun t k => XS.dup X55.here hx rfl (hb hby at_126) rfl rfl k) ?_
        show own_Out p e below _ T55 (mkF m 127 #[.val (.int x0), .val (.int x1), .val (.int x2), .val (.int (1 : Int32)), .val (.int (1 : Int32)), .val (.int (0 : Int32)), .val (.int (x1 &&& (255 : Int32))), .val (.ref ob52), .unset, .unset, .unset, .unset] [(.ref ob55), (.ref ob55)]) _ _ _
        refine own_to (fun t k => XS.aload X55.here hx rfl (hb hby at_127) rfl rfl k) ?_
        show own_Out p e below _ T55 (mkF m 129 #[.val (.int x0), .val (.int x1), .val (.int x2), .val (.int (1 : Int32)), .val (.int (1 : Int32)), .val (.int (0 : Int32)), .val (.int (x1 &&& (255 : Int32))), .val (.ref ob52), .unset, .unset, .unset, .unset] [(.ref ob52), (.ref ob55), (.ref ob55)]) _ _ _
        refine own_callC X55 hx hZ hown (a := ob55) (argsL := [(.ref ob52)]) (rest := [(.ref ob55)]) rfl (hw _ (List.mem_of_getElem? (i := 4) rfl)) (hw _ (List.mem_of_getElem? (i := 5) rfl)) (hw _ (List.mem_of_getElem? (i := 3) rfl)) (hw _ (List.mem_of_getElem? (i := 6) rfl)) (by decide) (rm1 l Z a0 hw ob55 ob52 2 (own_upd (own_upd (fun _ => 0) ((0 : Int32).toNatClampNeg) (nar .byte (5 : Int32))) ((1 : Int32).toNatClampNeg) (nar .byte (0 : Int32))) hh55 n0 Z0 E_ob55 F_ob55_bytes F_ob55_position F_ob55_end g_ob55 A_ob52 ne_ob52_ob55) (by decide) (by decide) e55 rfl (by rw [hml]; rfl) (lenOf pd_4 rfl) rfl (W := 1) (by show 2 * 0 + _ ≤ _; exact Nat.le_of_eq rfl) (hb hby at_129) (by decide) (by decide) fun v56 T56 hh56 L56 X56 e56 hQ56 => ?_
        obtain ⟨rfl, NL56, KK56, P56_0, P56_1, P56_2⟩ := hQ56
        have A_ob52 := A_ob52.keep KK56 (by simp [ne_ob52_ob55])
        have E_ob55 := E_ob55.keep KK56
        have F_ob55_bytes := P56_0
        have F_ob55_position := P56_1
        have F_ob55_end := P56_2
        have Z0 := Nat.le_trans Z0 KK56.1
        have hk := Nat.le_trans hk KK56.1
        have N56 := Fr.app N54 NL56
        show own_Out p e below _ T56 (mkF m 132 #[.val (.int x0), .val (.int x1), .val (.int x2), .val (.int (1 : Int32)), .val (.int (1 : Int32)), .val (.int (0 : Int32)), .val (.int (x1 &&& (255 : Int32))), .val (.ref ob52), .unset, .unset, .unset, .unset] [(.ref ob55)]) _ _ _
        rw [show (Nat.toInt32 2) = (2 : Int32) from by decide] at F_ob55_end
        refine own_to (fun t k => XS.astore X56.here hx rfl (hb hby at_132) rfl rfl (l' := #[.val (.int x0), .val (.int x1), .val (.int x2), .val (.int (1 : Int32)), .val (.int (1 : Int32)), .val (.int (0 : Int32)), .val (.int (x1 &&& (255 : Int32))), .val (.ref ob52), .val (.ref ob55), .unset, .unset, .unset]) rfl k) ?_
        show own_Out p e below _ T56 (mkF m 134 #[.val (.int x0), .val (.int x1), .val (.int x2), .val (.int (1 : Int32)), .val (.int (1 : Int32)), .val (.int (0 : Int32)), .val (.int (x1 &&& (255 : Int32))), .val (.ref ob52), .val (.ref ob55), .unset, .unset, .unset] []) _ _ _
        refine own_to (fun t k => XS.iload X56.here hx rfl (hb hby at_134) rfl k) ?_
        show own_Out p e below _ T56 (mkF m 136 #[.val (.int x0), .val (.int x1), .val (.int x2), .val (.int (1 : Int32)), .val (.int (1 : Int32)), .val (.int (0 : Int32)), .val (.int (x1 &&& (255 : Int32))), .val (.ref ob52), .val (.ref ob55), .unset, .unset, .unset] [(.int (1 : Int32))]) _ _ _
        have hc136 : ¬ ((1 : Int32) = (0 : Int32)) := by decide
        refine own_to (fun t k => XS.ifNo X56.here hx rfl (hb hby at_136) rfl ((if0 _ _).trans (feq hc136).1) k) ?_
        show own_Out p e below _ T56 (mkF m 139 #[.val (.int x0), .val (.int x1), .val (.int x2), .val (.int (1 : Int32)), .val (.int (1 : Int32)), .val (.int (0 : Int32)), .val (.int (x1 &&& (255 : Int32))), .val (.ref ob52), .val (.ref ob55), .unset, .unset, .unset] []) _ _ _
        refine own_to (fun t k => XS.aload X56.here hx rfl (hb hby at_139) rfl rfl k) ?_
        show own_Out p e below _ T56 (mkF m 141 #[.val (.int x0), .val (.int x1), .val (.int x2), .val (.int (1 : Int32)), .val (.int (1 : Int32)), .val (.int (0 : Int32)), .val (.int (x1 &&& (255 : Int32))), .val (.ref ob52), .val (.ref ob55), .unset, .unset, .unset] [(.ref ob55)]) _ _ _
        refine own_callVW X56 hx hZ hown hS hk (a := ob55) (argsL := []) (rest := []) (hw _ (List.mem_of_getElem? (i := 30) rfl)) (hw _ (List.mem_of_getElem? (i := 31) rfl)) (hw _ (List.mem_of_getElem? (i := 33) rfl)) (hw _ (List.mem_of_getElem? (i := 32) rfl)) (hw _ (List.mem_of_getElem? (i := 3) rfl)) (hw _ (List.mem_of_getElem? (i := 34) rfl)) (by decide) (rm6 l Z a0 hw ob55 (0 : Int32) (2 : Int32) ob52 2 (own_upd (own_upd (fun _ => 0) ((0 : Int32).toNatClampNeg) (nar .byte (5 : Int32))) ((1 : Int32).toNatClampNeg) (nar .byte (0 : Int32))) (5 : Int32) (0 : Int32) hh56 n0 Z0 E_ob55 F_ob55_bytes F_ob55_position F_ob55_end A_ob52 g_ob55 ne_ob52_ob55 (by decide) (by decide) ((show (5 : Int32) = ((nar .byte (5 : Int32)) &&& (255 : Int32)) from by decide).trans (congrArg (fun z => z &&& (255 : Int32)) ((own_miss (by decide)).trans (own_hit (by decide)))).symm) (by decide) (by decide) ((show (0 : Int32) = ((nar .byte (0 : Int32)) &&& (255 : Int32)) from by decide).trans (congrArg (fun z => z &&& (255 : Int32)) (own_hit (by decide))).symm) (by decide) (by decide) (by decide)) (by decide) (by decide) e56 E_ob55 rfl (by rw [hml]; rfl) (lenOf pd_6 rfl) rfl (W := 0) (by show 2 * 0 + _ ≤ _; exact Nat.le_of_eq rfl) (hb hby at_141) (by decide) (by decide) fun v57 T57 hh57 L57 X57 e57 hQ57 hZ hown hS => ?_
        obtain ⟨NL57, KK57, ob57el, rfl, szc_ob57el, P57_0, P57_1, P57_2, P57_3, P57_4, P57_5, P57_6, P57_7, P57_8⟩ := hQ57
        have ne_ob52_ob57el : ob52 ≠ ob57el := Nat.ne_of_lt (Nat.lt_of_lt_of_le A_ob52.lt szc_ob57el)
        have ne_ob57el_ob52 := Ne.symm ne_ob52_ob57el
        have ne_ob55_ob57el : ob55 ≠ ob57el := Nat.ne_of_lt (Nat.lt_of_lt_of_le E_ob55.lt szc_ob57el)
        have ne_ob57el_ob55 := Ne.symm ne_ob55_ob57el
        have g_ob57el : n0 ≤ ob57el := Nat.le_trans Z0 szc_ob57el
        have A_ob52 := A_ob52.keep KK57 (by simp [ne_ob52_ob55])
        have E_ob55 := E_ob55.keep KK57
        have F_ob55_bytes := P57_0
        have F_ob55_position := P57_1
        have F_ob55_end := P57_2
        have E_ob57el := P57_3
        have F_ob57el_bytes := P57_4
        have F_ob57el_tag := P57_5
        have F_ob57el_start := P57_6
        have F_ob57el_contents := P57_7
        have F_ob57el_end := P57_8
        have Z0 := Nat.le_trans Z0 KK57.1
        have hk := Nat.le_refl hh57.size
        have N57 := Fr.app N56 NL57
        show own_Out p e below _ T57 (mkF m 144 #[.val (.int x0), .val (.int x1), .val (.int x2), .val (.int (1 : Int32)), .val (.int (1 : Int32)), .val (.int (0 : Int32)), .val (.int (x1 &&& (255 : Int32))), .val (.ref ob52), .val (.ref ob55), .unset, .unset, .unset] [(.ref ob57el)]) _ _ _
        rw [show ((((0 : Int32) + (1 : Int32)) + (1 : Int32)) + (((0 : Int32).toInt64).toInt32)) = (2 : Int32) from by decide] at F_ob55_position
        rw [show (((0 : Int32) + (1 : Int32)) + (1 : Int32)) = (2 : Int32) from by decide] at F_ob57el_contents
        rw [show ((((0 : Int32) + (1 : Int32)) + (1 : Int32)) + (((0 : Int32).toInt64).toInt32)) = (2 : Int32) from by decide] at F_ob57el_end
        refine own_to (fun t k => XS.pop X57.here hx rfl (hb hby at_144) rfl rfl k) ?_
        show own_Out p e below _ T57 (mkF m 145 #[.val (.int x0), .val (.int x1), .val (.int x2), .val (.int (1 : Int32)), .val (.int (1 : Int32)), .val (.int (0 : Int32)), .val (.int (x1 &&& (255 : Int32))), .val (.ref ob52), .val (.ref ob55), .unset, .unset, .unset] []) _ _ _
        refine own_to (fun t k => XS.iload X57.here hx rfl (hb hby at_145) rfl k) ?_
        show own_Out p e below _ T57 (mkF m 147 #[.val (.int x0), .val (.int x1), .val (.int x2), .val (.int (1 : Int32)), .val (.int (1 : Int32)), .val (.int (0 : Int32)), .val (.int (x1 &&& (255 : Int32))), .val (.ref ob52), .val (.ref ob55), .unset, .unset, .unset] [(.int (0 : Int32))]) _ _ _
        have hc147 : (0 : Int32) = (0 : Int32) := by decide
        refine own_to (fun t k => XS.ifYes X57.here hx rfl (pc0 := 147) (pc' := 164) rfl (hb hby at_147) rfl ((if0 _ _).trans (teq hc147).1) (by decide) (by decide) k) ?_
        show own_Out p e below _ T57 (mkF m 164 #[.val (.int x0), .val (.int x1), .val (.int x2), .val (.int (1 : Int32)), .val (.int (1 : Int32)), .val (.int (0 : Int32)), .val (.int (x1 &&& (255 : Int32))), .val (.ref ob52), .val (.ref ob55), .unset, .unset, .unset] []) _ _ _
        refine own_to (fun t k => XS.iconst X57.here hx rfl (hb hby at_164) k) ?_
        show own_Out p e below _ T57 (mkF m 165 #[.val (.int x0), .val (.int x1), .val (.int x2), .val (.int (1 : Int32)), .val (.int (1 : Int32)), .val (.int (0 : Int32)), .val (.int (x1 &&& (255 : Int32))), .val (.ref ob52), .val (.ref ob55), .unset, .unset, .unset] [(.int (0 : Int32))]) _ _ _
        refine own_to (fun t k => XS.istore X57.here hx rfl (hb hby at_165) rfl (l' := #[.val (.int x0), .val (.int x1), .val (.int x2), .val (.int (1 : Int32)), .val (.int (1 : Int32)), .val (.int (0 : Int32)), .val (.int (x1 &&& (255 : Int32))), .val (.ref ob52), .val (.ref ob55), .val (.int (0 : Int32)), .unset, .unset]) rfl k) ?_
        show own_Out p e below _ T57 (mkF m 167 #[.val (.int x0), .val (.int x1), .val (.int x2), .val (.int (1 : Int32)), .val (.int (1 : Int32)), .val (.int (0 : Int32)), .val (.int (x1 &&& (255 : Int32))), .val (.ref ob52), .val (.ref ob55), .val (.int (0 : Int32)), .unset, .unset] []) _ _ _
        refine own_to (fun t k => XS.aload X57.here hx rfl (hb hby at_167) rfl rfl k) ?_
        show own_Out p e below _ T57 (mkF m 169 #[.val (.int x0), .val (.int x1), .val (.int x2), .val (.int (1 : Int32)), .val (.int (1 : Int32)), .val (.int (0 : Int32)), .val (.int (x1 &&& (255 : Int32))), .val (.ref ob52), .val (.ref ob55), .val (.int (0 : Int32)), .unset, .unset] [(.ref ob55)]) _ _ _
        refine own_to (fun t k => XS.iload X57.here hx rfl (hb hby at_169) rfl k) ?_
        show own_Out p e below _ T57 (mkF m 171 #[.val (.int x0), .val (.int x1), .val (.int x2), .val (.int (1 : Int32)), .val (.int (1 : Int32)), .val (.int (0 : Int32)), .val (.int (x1 &&& (255 : Int32))), .val (.ref ob52), .val (.ref ob55), .val (.int (0 : Int32)), .unset, .unset] [(.int (x1 &&& (255 : Int32))), (.ref ob55)]) _ _ _
        refine own_callV X57 hx hZ hown (a := ob55) (argsL := [(.int (x1 &&& (255 : Int32)))]) (rest := []) (hw _ (List.mem_of_getElem? (i := 19) rfl)) (hw _ (List.mem_of_getElem? (i := 20) rfl)) (hw _ (List.mem_of_getElem? (i := 22) rfl)) (hw _ (List.mem_of_getElem? (i := 21) rfl)) (hw _ (List.mem_of_getElem? (i := 3) rfl)) (hw _ (List.mem_of_getElem? (i := 23) rfl)) (by decide) (rm4 l Z a0 hw ob55 (x1 &&& (255 : Int32)) (2 : Int32) (2 : Int32) ob52 2 (own_upd (own_upd (fun _ => 0) ((0 : Int32).toNatClampNeg) (nar .byte (5 : Int32))) ((1 : Int32).toNatClampNeg) (nar .byte (0 : Int32))) hh57 n0 Z0 E_ob55 F_ob55_bytes F_ob55_position F_ob55_end A_ob52 (by decide)) (by decide) (by decide) e57 E_ob55 rfl (by rw [hml]; rfl) (lenOf pd_5 rfl) rfl (W := 0) (by show 2 * 0 + _ ≤ _; exact Nat.le_of_eq rfl) (hb hby at_171) (by decide) (by decide) fun v58 T58 hh58 L58 X58 e58 hQ58 => ?_
        obtain ⟨rfl, NL58, he58⟩ := hQ58
        replace e58 := e58.trans he58
        have N58 := Fr.app N57 NL58
        show own_Out p e below _ T58 (mkF m 174 #[.val (.int x0), .val (.int x1), .val (.int x2), .val (.int (1 : Int32)), .val (.int (1 : Int32)), .val (.int (0 : Int32)), .val (.int (x1 &&& (255 : Int32))), .val (.ref ob52), .val (.ref ob55), .val (.int (0 : Int32)), .unset, .unset] [(.int (R4 ob55 (x1 &&& (255 : Int32)) (2 : Int32) (2 : Int32) ob52 2 (own_upd (own_upd (fun _ => 0) ((0 : Int32).toNatClampNeg) (nar .byte (5 : Int32))) ((1 : Int32).toNatClampNeg) (nar .byte (0 : Int32)))))]) _ _ _
        refine own_to (fun t k => XS.istore X58.here hx rfl (hb hby at_174) rfl (l' := #[.val (.int x0), .val (.int x1), .val (.int x2), .val (.int (1 : Int32)), .val (.int (1 : Int32)), .val (.int (0 : Int32)), .val (.int (x1 &&& (255 : Int32))), .val (.ref ob52), .val (.ref ob55), .val (.int (0 : Int32)), .val (.int (R4 ob55 (x1 &&& (255 : Int32)) (2 : Int32) (2 : Int32) ob52 2 (own_upd (own_upd (fun _ => 0) ((0 : Int32).toNatClampNeg) (nar .byte (5 : Int32))) ((1 : Int32).toNatClampNeg) (nar .byte (0 : Int32))))), .unset]) rfl k) ?_
        show own_Out p e below _ T58 (mkF m 176 #[.val (.int x0), .val (.int x1), .val (.int x2), .val (.int (1 : Int32)), .val (.int (1 : Int32)), .val (.int (0 : Int32)), .val (.int (x1 &&& (255 : Int32))), .val (.ref ob52), .val (.ref ob55), .val (.int (0 : Int32)), .val (.int (R4 ob55 (x1 &&& (255 : Int32)) (2 : Int32) (2 : Int32) ob52 2 (own_upd (own_upd (fun _ => 0) ((0 : Int32).toNatClampNeg) (nar .byte (5 : Int32))) ((1 : Int32).toNatClampNeg) (nar .byte (0 : Int32))))), .unset] []) _ _ _
        refine own_to (fun t k => XS.aload X58.here hx rfl (hb hby at_176) rfl rfl k) ?_
        show own_Out p e below _ T58 (mkF m 178 #[.val (.int x0), .val (.int x1), .val (.int x2), .val (.int (1 : Int32)), .val (.int (1 : Int32)), .val (.int (0 : Int32)), .val (.int (x1 &&& (255 : Int32))), .val (.ref ob52), .val (.ref ob55), .val (.int (0 : Int32)), .val (.int (R4 ob55 (x1 &&& (255 : Int32)) (2 : Int32) (2 : Int32) ob52 2 (own_upd (own_upd (fun _ => 0) ((0 : Int32).toNatClampNeg) (nar .byte (5 : Int32))) ((1 : Int32).toNatClampNeg) (nar .byte (0 : Int32))))), .unset] [(.ref ob55)]) _ _ _
        refine own_to (fun t k => XS.iload X58.here hx rfl (hb hby at_178) rfl k) ?_
        show own_Out p e below _ T58 (mkF m 180 #[.val (.int x0), .val (.int x1), .val (.int x2), .val (.int (1 : Int32)), .val (.int (1 : Int32)), .val (.int (0 : Int32)), .val (.int (x1 &&& (255 : Int32))), .val (.ref ob52), .val (.ref ob55), .val (.int (0 : Int32)), .val (.int (R4 ob55 (x1 &&& (255 : Int32)) (2 : Int32) (2 : Int32) ob52 2 (own_upd (own_upd (fun _ => 0) ((0 : Int32).toNatClampNeg) (nar .byte (5 : Int32))) ((1 : Int32).toNatClampNeg) (nar .byte (0 : Int32))))), .unset] [(.int (x1 &&& (255 : Int32))), (.ref ob55)]) _ _ _
        refine own_callV X58 hx hZ hown (a := ob55) (argsL := [(.int (x1 &&& (255 : Int32)))]) (rest := []) (hw _ (List.mem_of_getElem? (i := 19) rfl)) (hw _ (List.mem_of_getElem? (i := 20) rfl)) (hw _ (List.mem_of_getElem? (i := 22) rfl)) (hw _ (List.mem_of_getElem? (i := 21) rfl)) (hw _ (List.mem_of_getElem? (i := 3) rfl)) (hw _ (List.mem_of_getElem? (i := 23) rfl)) (by decide) (rm4 l Z a0 hw ob55 (x1 &&& (255 : Int32)) (2 : Int32) (2 : Int32) ob52 2 (own_upd (own_upd (fun _ => 0) ((0 : Int32).toNatClampNeg) (nar .byte (5 : Int32))) ((1 : Int32).toNatClampNeg) (nar .byte (0 : Int32))) hh57 n0 Z0 E_ob55 F_ob55_bytes F_ob55_position F_ob55_end A_ob52 (by decide)) (by decide) (by decide) e58 E_ob55 rfl (by rw [hml]; rfl) (lenOf pd_5 rfl) rfl (W := 0) (by show 2 * 0 + _ ≤ _; exact Nat.le_of_eq rfl) (hb hby at_180) (by decide) (by decide) fun v59 T59 hh59 L59 X59 e59 hQ59 => ?_
        obtain ⟨rfl, NL59, he59⟩ := hQ59
        replace e59 := e59.trans he59
        have N59 := Fr.app N58 NL59
        show own_Out p e below _ T59 (mkF m 183 #[.val (.int x0), .val (.int x1), .val (.int x2), .val (.int (1 : Int32)), .val (.int (1 : Int32)), .val (.int (0 : Int32)), .val (.int (x1 &&& (255 : Int32))), .val (.ref ob52), .val (.ref ob55), .val (.int (0 : Int32)), .val (.int (R4 ob55 (x1 &&& (255 : Int32)) (2 : Int32) (2 : Int32) ob52 2 (own_upd (own_upd (fun _ => 0) ((0 : Int32).toNatClampNeg) (nar .byte (5 : Int32))) ((1 : Int32).toNatClampNeg) (nar .byte (0 : Int32))))), .unset] [(.int (R4 ob55 (x1 &&& (255 : Int32)) (2 : Int32) (2 : Int32) ob52 2 (own_upd (own_upd (fun _ => 0) ((0 : Int32).toNatClampNeg) (nar .byte (5 : Int32))) ((1 : Int32).toNatClampNeg) (nar .byte (0 : Int32)))))]) _ _ _
        refine own_to (fun t k => XS.istore X59.here hx rfl (hb hby at_183) rfl (l' := #[.val (.int x0), .val (.int x1), .val (.int x2), .val (.int (1 : Int32)), .val (.int (1 : Int32)), .val (.int (0 : Int32)), .val (.int (x1 &&& (255 : Int32))), .val (.ref ob52), .val (.ref ob55), .val (.int (0 : Int32)), .val (.int (R4 ob55 (x1 &&& (255 : Int32)) (2 : Int32) (2 : Int32) ob52 2 (own_upd (own_upd (fun _ => 0) ((0 : Int32).toNatClampNeg) (nar .byte (5 : Int32))) ((1 : Int32).toNatClampNeg) (nar .byte (0 : Int32))))), .val (.int (R4 ob55 (x1 &&& (255 : Int32)) (2 : Int32) (2 : Int32) ob52 2 (own_upd (own_upd (fun _ => 0) ((0 : Int32).toNatClampNeg) (nar .byte (5 : Int32))) ((1 : Int32).toNatClampNeg) (nar .byte (0 : Int32)))))]) rfl k) ?_
        show own_Out p e below _ T59 (mkF m 185 #[.val (.int x0), .val (.int x1), .val (.int x2), .val (.int (1 : Int32)), .val (.int (1 : Int32)), .val (.int (0 : Int32)), .val (.int (x1 &&& (255 : Int32))), .val (.ref ob52), .val (.ref ob55), .val (.int (0 : Int32)), .val (.int (R4 ob55 (x1 &&& (255 : Int32)) (2 : Int32) (2 : Int32) ob52 2 (own_upd (own_upd (fun _ => 0) ((0 : Int32).toNatClampNeg) (nar .byte (5 : Int32))) ((1 : Int32).toNatClampNeg) (nar .byte (0 : Int32))))), .val (.int (R4 ob55 (x1 &&& (255 : Int32)) (2 : Int32) (2 : Int32) ob52 2 (own_upd (own_upd (fun _ => 0) ((0 : Int32).toNatClampNeg) (nar .byte (5 : Int32))) ((1 : Int32).toNatClampNeg) (nar .byte (0 : Int32)))))] []) _ _ _
        refine own_to (fun t k => XS.iload X59.here hx rfl (hb hby at_185) rfl k) ?_
        show own_Out p e below _ T59 (mkF m 187 #[.val (.int x0), .val (.int x1), .val (.int x2), .val (.int (1 : Int32)), .val (.int (1 : Int32)), .val (.int (0 : Int32)), .val (.int (x1 &&& (255 : Int32))), .val (.ref ob52), .val (.ref ob55), .val (.int (0 : Int32)), .val (.int (R4 ob55 (x1 &&& (255 : Int32)) (2 : Int32) (2 : Int32) ob52 2 (own_upd (own_upd (fun _ => 0) ((0 : Int32).toNatClampNeg) (nar .byte (5 : Int32))) ((1 : Int32).toNatClampNeg) (nar .byte (0 : Int32))))), .val (.int (R4 ob55 (x1 &&& (255 : Int32)) (2 : Int32) (2 : Int32) ob52 2 (own_upd (own_upd (fun _ => 0) ((0 : Int32).toNatClampNeg) (nar .byte (5 : Int32))) ((1 : Int32).toNatClampNeg) (nar .byte (0 : Int32)))))] [(.int (R4 ob55 (x1 &&& (255 : Int32)) (2 : Int32) (2 : Int32) ob52 2 (own_upd (own_upd (fun _ => 0) ((0 : Int32).toNatClampNeg) (nar .byte (5 : Int32))) ((1 : Int32).toNatClampNeg) (nar .byte (0 : Int32)))))]) _ _ _
        refine own_to (fun t k => XS.iload X59.here hx rfl (hb hby at_187) rfl k) ?_
        show own_Out p e below _ T59 (mkF m 189 #[.val (.int x0), .val (.int x1), .val (.int x2), .val (.int (1 : Int32)), .val (.int (1 : Int32)), .val (.int (0 : Int32)), .val (.int (x1 &&& (255 : Int32))), .val (.ref ob52), .val (.ref ob55), .val (.int (0 : Int32)), .val (.int (R4 ob55 (x1 &&& (255 : Int32)) (2 : Int32) (2 : Int32) ob52 2 (own_upd (own_upd (fun _ => 0) ((0 : Int32).toNatClampNeg) (nar .byte (5 : Int32))) ((1 : Int32).toNatClampNeg) (nar .byte (0 : Int32))))), .val (.int (R4 ob55 (x1 &&& (255 : Int32)) (2 : Int32) (2 : Int32) ob52 2 (own_upd (own_upd (fun _ => 0) ((0 : Int32).toNatClampNeg) (nar .byte (5 : Int32))) ((1 : Int32).toNatClampNeg) (nar .byte (0 : Int32)))))] [(.int (0 : Int32)), (.int (R4 ob55 (x1 &&& (255 : Int32)) (2 : Int32) (2 : Int32) ob52 2 (own_upd (own_upd (fun _ => 0) ((0 : Int32).toNatClampNeg) (nar .byte (5 : Int32))) ((1 : Int32).toNatClampNeg) (nar .byte (0 : Int32)))))]) _ _ _
        have hc189 : (R4 ob55 (x1 &&& (255 : Int32)) (2 : Int32) (2 : Int32) ob52 2 (own_upd (own_upd (fun _ => 0) ((0 : Int32).toNatClampNeg) (nar .byte (5 : Int32))) ((1 : Int32).toNatClampNeg) (nar .byte (0 : Int32)))) = (0 : Int32) := (own_ni _ _ _ _ _ _ _).1 (by decide)
        refine own_to (fun t k => XS.icmpNo X59.here hx rfl (hb hby at_189) rfl (teq hc189).2 k) ?_
        show own_Out p e below _ T59 (mkF m 192 #[.val (.int x0), .val (.int x1), .val (.int x2), .val (.int (1 : Int32)), .val (.int (1 : Int32)), .val (.int (0 : Int32)), .val (.int (x1 &&& (255 : Int32))), .val (.ref ob52), .val (.ref ob55), .val (.int (0 : Int32)), .val (.int (R4 ob55 (x1 &&& (255 : Int32)) (2 : Int32) (2 : Int32) ob52 2 (own_upd (own_upd (fun _ => 0) ((0 : Int32).toNatClampNeg) (nar .byte (5 : Int32))) ((1 : Int32).toNatClampNeg) (nar .byte (0 : Int32))))), .val (.int (R4 ob55 (x1 &&& (255 : Int32)) (2 : Int32) (2 : Int32) ob52 2 (own_upd (own_upd (fun _ => 0) ((0 : Int32).toNatClampNeg) (nar .byte (5 : Int32))) ((1 : Int32).toNatClampNeg) (nar .byte (0 : Int32)))))] []) _ _ _
        refine own_to (fun t k => XS.iload X59.here hx rfl (hb hby at_192) rfl k) ?_
        show own_Out p e below _ T59 (mkF m 194 #[.val (.int x0), .val (.int x1), .val (.int x2), .val (.int (1 : Int32)), .val (.int (1 : Int32)), .val (.int (0 : Int32)), .val (.int (x1 &&& (255 : Int32))), .val (.ref ob52), .val (.ref ob55), .val (.int (0 : Int32)), .val (.int (R4 ob55 (x1 &&& (255 : Int32)) (2 : Int32) (2 : Int32) ob52 2 (own_upd (own_upd (fun _ => 0) ((0 : Int32).toNatClampNeg) (nar .byte (5 : Int32))) ((1 : Int32).toNatClampNeg) (nar .byte (0 : Int32))))), .val (.int (R4 ob55 (x1 &&& (255 : Int32)) (2 : Int32) (2 : Int32) ob52 2 (own_upd (own_upd (fun _ => 0) ((0 : Int32).toNatClampNeg) (nar .byte (5 : Int32))) ((1 : Int32).toNatClampNeg) (nar .byte (0 : Int32)))))] [(.int (R4 ob55 (x1 &&& (255 : Int32)) (2 : Int32) (2 : Int32) ob52 2 (own_upd (own_upd (fun _ => 0) ((0 : Int32).toNatClampNeg) (nar .byte (5 : Int32))) ((1 : Int32).toNatClampNeg) (nar .byte (0 : Int32)))))]) _ _ _
        refine own_to (fun t k => XS.iload X59.here hx rfl (hb hby at_194) rfl k) ?_
        show own_Out p e below _ T59 (mkF m 196 #[.val (.int x0), .val (.int x1), .val (.int x2), .val (.int (1 : Int32)), .val (.int (1 : Int32)), .val (.int (0 : Int32)), .val (.int (x1 &&& (255 : Int32))), .val (.ref ob52), .val (.ref ob55), .val (.int (0 : Int32)), .val (.int (R4 ob55 (x1 &&& (255 : Int32)) (2 : Int32) (2 : Int32) ob52 2 (own_upd (own_upd (fun _ => 0) ((0 : Int32).toNatClampNeg) (nar .byte (5 : Int32))) ((1 : Int32).toNatClampNeg) (nar .byte (0 : Int32))))), .val (.int (R4 ob55 (x1 &&& (255 : Int32)) (2 : Int32) (2 : Int32) ob52 2 (own_upd (own_upd (fun _ => 0) ((0 : Int32).toNatClampNeg) (nar .byte (5 : Int32))) ((1 : Int32).toNatClampNeg) (nar .byte (0 : Int32)))))] [(.int (0 : Int32)), (.int (R4 ob55 (x1 &&& (255 : Int32)) (2 : Int32) (2 : Int32) ob52 2 (own_upd (own_upd (fun _ => 0) ((0 : Int32).toNatClampNeg) (nar .byte (5 : Int32))) ((1 : Int32).toNatClampNeg) (nar .byte (0 : Int32)))))]) _ _ _
        have hc196 : (R4 ob55 (x1 &&& (255 : Int32)) (2 : Int32) (2 : Int32) ob52 2 (own_upd (own_upd (fun _ => 0) ((0 : Int32).toNatClampNeg) (nar .byte (5 : Int32))) ((1 : Int32).toNatClampNeg) (nar .byte (0 : Int32)))) = (0 : Int32) := (own_ni _ _ _ _ _ _ _).1 (by decide)
        refine own_to (fun t k => XS.icmpNo X59.here hx rfl (hb hby at_196) rfl (teq hc196).2 k) ?_
        show own_Out p e below _ T59 (mkF m 199 #[.val (.int x0), .val (.int x1), .val (.int x2), .val (.int (1 : Int32)), .val (.int (1 : Int32)), .val (.int (0 : Int32)), .val (.int (x1 &&& (255 : Int32))), .val (.ref ob52), .val (.ref ob55), .val (.int (0 : Int32)), .val (.int (R4 ob55 (x1 &&& (255 : Int32)) (2 : Int32) (2 : Int32) ob52 2 (own_upd (own_upd (fun _ => 0) ((0 : Int32).toNatClampNeg) (nar .byte (5 : Int32))) ((1 : Int32).toNatClampNeg) (nar .byte (0 : Int32))))), .val (.int (R4 ob55 (x1 &&& (255 : Int32)) (2 : Int32) (2 : Int32) ob52 2 (own_upd (own_upd (fun _ => 0) ((0 : Int32).toNatClampNeg) (nar .byte (5 : Int32))) ((1 : Int32).toNatClampNeg) (nar .byte (0 : Int32)))))] []) _ _ _
        refine own_to (fun t k => XS.aload X59.here hx rfl (hb hby at_199) rfl rfl k) ?_
        show own_Out p e below _ T59 (mkF m 201 #[.val (.int x0), .val (.int x1), .val (.int x2), .val (.int (1 : Int32)), .val (.int (1 : Int32)), .val (.int (0 : Int32)), .val (.int (x1 &&& (255 : Int32))), .val (.ref ob52), .val (.ref ob55), .val (.int (0 : Int32)), .val (.int (R4 ob55 (x1 &&& (255 : Int32)) (2 : Int32) (2 : Int32) ob52 2 (own_upd (own_upd (fun _ => 0) ((0 : Int32).toNatClampNeg) (nar .byte (5 : Int32))) ((1 : Int32).toNatClampNeg) (nar .byte (0 : Int32))))), .val (.int (R4 ob55 (x1 &&& (255 : Int32)) (2 : Int32) (2 : Int32) ob52 2 (own_upd (own_upd (fun _ => 0) ((0 : Int32).toNatClampNeg) (nar .byte (5 : Int32))) ((1 : Int32).toNatClampNeg) (nar .byte (0 : Int32)))))] [(.ref ob55)]) _ _ _
        refine own_callV X59 hx hZ hown (a := ob55) (argsL := []) (rest := []) (hw _ (List.mem_of_getElem? (i := 29) rfl)) (hw _ (List.mem_of_getElem? (i := 25) rfl)) (hw _ (List.mem_of_getElem? (i := 27) rfl)) (hw _ (List.mem_of_getElem? (i := 26) rfl)) (hw _ (List.mem_of_getElem? (i := 3) rfl)) (hw _ (List.mem_of_getElem? (i := 28) rfl)) (by decide) (rm5 l Z a0 hw ob55 (2 : Int32) (2 : Int32) hh57 n0 Z0 F_ob55_position F_ob55_end) (by decide) (by decide) e59 E_ob55 rfl (by rw [hml]; rfl) (lenOf pd_1 rfl) rfl (W := 0) (by show 2 * 0 + _ ≤ _; exact Nat.le_of_eq rfl) (hb hby at_201) (by decide) (by decide) fun v60 T60 hh60 L60 X60 e60 hQ60 => ?_
        obtain ⟨rfl, NL60, he60⟩ := hQ60
        replace e60 := e60.trans he60
        have N60 := Fr.app N59 NL60
        show own_Out p e below _ T60 (mkF m 204 #[.val (.int x0), .val (.int x1), .val (.int x2), .val (.int (1 : Int32)), .val (.int (1 : Int32)), .val (.int (0 : Int32)), .val (.int (x1 &&& (255 : Int32))), .val (.ref ob52), .val (.ref ob55), .val (.int (0 : Int32)), .val (.int (R4 ob55 (x1 &&& (255 : Int32)) (2 : Int32) (2 : Int32) ob52 2 (own_upd (own_upd (fun _ => 0) ((0 : Int32).toNatClampNeg) (nar .byte (5 : Int32))) ((1 : Int32).toNatClampNeg) (nar .byte (0 : Int32))))), .val (.int (R4 ob55 (x1 &&& (255 : Int32)) (2 : Int32) (2 : Int32) ob52 2 (own_upd (own_upd (fun _ => 0) ((0 : Int32).toNatClampNeg) (nar .byte (5 : Int32))) ((1 : Int32).toNatClampNeg) (nar .byte (0 : Int32)))))] [(.int (R5 ob55 (2 : Int32) (2 : Int32)))]) _ _ _
        refine own_to (fun t k => XS.iload X60.here hx rfl (hb hby at_204) rfl k) ?_
        show own_Out p e below _ T60 (mkF m 206 #[.val (.int x0), .val (.int x1), .val (.int x2), .val (.int (1 : Int32)), .val (.int (1 : Int32)), .val (.int (0 : Int32)), .val (.int (x1 &&& (255 : Int32))), .val (.ref ob52), .val (.ref ob55), .val (.int (0 : Int32)), .val (.int (R4 ob55 (x1 &&& (255 : Int32)) (2 : Int32) (2 : Int32) ob52 2 (own_upd (own_upd (fun _ => 0) ((0 : Int32).toNatClampNeg) (nar .byte (5 : Int32))) ((1 : Int32).toNatClampNeg) (nar .byte (0 : Int32))))), .val (.int (R4 ob55 (x1 &&& (255 : Int32)) (2 : Int32) (2 : Int32) ob52 2 (own_upd (own_upd (fun _ => 0) ((0 : Int32).toNatClampNeg) (nar .byte (5 : Int32))) ((1 : Int32).toNatClampNeg) (nar .byte (0 : Int32)))))] [(.int (0 : Int32)), (.int (R5 ob55 (2 : Int32) (2 : Int32)))]) _ _ _
        have hc206 : (R5 ob55 (2 : Int32) (2 : Int32)) = (0 : Int32) := own_hn0 _ _ _ (by decide)
        refine own_to (fun t k => XS.icmpNo X60.here hx rfl (hb hby at_206) rfl (teq hc206).2 k) ?_
        show own_Out p e below _ T60 (mkF m 209 #[.val (.int x0), .val (.int x1), .val (.int x2), .val (.int (1 : Int32)), .val (.int (1 : Int32)), .val (.int (0 : Int32)), .val (.int (x1 &&& (255 : Int32))), .val (.ref ob52), .val (.ref ob55), .val (.int (0 : Int32)), .val (.int (R4 ob55 (x1 &&& (255 : Int32)) (2 : Int32) (2 : Int32) ob52 2 (own_upd (own_upd (fun _ => 0) ((0 : Int32).toNatClampNeg) (nar .byte (5 : Int32))) ((1 : Int32).toNatClampNeg) (nar .byte (0 : Int32))))), .val (.int (R4 ob55 (x1 &&& (255 : Int32)) (2 : Int32) (2 : Int32) ob52 2 (own_upd (own_upd (fun _ => 0) ((0 : Int32).toNatClampNeg) (nar .byte (5 : Int32))) ((1 : Int32).toNatClampNeg) (nar .byte (0 : Int32)))))] []) _ _ _
        refine own_to (fun t k => XS.iconst X60.here hx rfl (hb hby at_209) k) ?_
        show own_Out p e below _ T60 (mkF m 210 #[.val (.int x0), .val (.int x1), .val (.int x2), .val (.int (1 : Int32)), .val (.int (1 : Int32)), .val (.int (0 : Int32)), .val (.int (x1 &&& (255 : Int32))), .val (.ref ob52), .val (.ref ob55), .val (.int (0 : Int32)), .val (.int (R4 ob55 (x1 &&& (255 : Int32)) (2 : Int32) (2 : Int32) ob52 2 (own_upd (own_upd (fun _ => 0) ((0 : Int32).toNatClampNeg) (nar .byte (5 : Int32))) ((1 : Int32).toNatClampNeg) (nar .byte (0 : Int32))))), .val (.int (R4 ob55 (x1 &&& (255 : Int32)) (2 : Int32) (2 : Int32) ob52 2 (own_upd (own_upd (fun _ => 0) ((0 : Int32).toNatClampNeg) (nar .byte (5 : Int32))) ((1 : Int32).toNatClampNeg) (nar .byte (0 : Int32)))))] [(.int (1 : Int32))]) _ _ _
        refine own_to (fun t k => XS.goto X60.here hx rfl (pc0 := 210) (pc' := 214) rfl (hb hby at_210) (by decide) (by decide) k) ?_
        show own_Out p e below _ T60 (mkF m 214 #[.val (.int x0), .val (.int x1), .val (.int x2), .val (.int (1 : Int32)), .val (.int (1 : Int32)), .val (.int (0 : Int32)), .val (.int (x1 &&& (255 : Int32))), .val (.ref ob52), .val (.ref ob55), .val (.int (0 : Int32)), .val (.int (R4 ob55 (x1 &&& (255 : Int32)) (2 : Int32) (2 : Int32) ob52 2 (own_upd (own_upd (fun _ => 0) ((0 : Int32).toNatClampNeg) (nar .byte (5 : Int32))) ((1 : Int32).toNatClampNeg) (nar .byte (0 : Int32))))), .val (.int (R4 ob55 (x1 &&& (255 : Int32)) (2 : Int32) (2 : Int32) ob52 2 (own_upd (own_upd (fun _ => 0) ((0 : Int32).toNatClampNeg) (nar .byte (5 : Int32))) ((1 : Int32).toNatClampNeg) (nar .byte (0 : Int32)))))] [(.int (1 : Int32))]) _ _ _
        refine own_retVW X60 hS hk e60 hx hlk (w := .int (1 : Int32)) hret rfl (Or.inl ⟨rfl, by simp, _, rfl⟩) (hb hby at_214) (by decide) (by decide) ?_
        rw [e60]
        exact ⟨rfl, N60⟩
      · refine own_to (fun t k => XS.ifNo X0.here hx rfl (hb hby at_28) rfl ((if0 _ _).trans (feq hc28).1) k) ?_
        show own_Out p e below _ s₁ (mkF m 31 #[.val (.int x0), .val (.int x1), .val (.int x2), .val (.int (1 : Int32)), .val (.int (1 : Int32)), .unset, .unset, .unset, .unset, .unset, .unset, .unset] []) _ _ _
        refine own_to (fun t k => XS.iconst X0.here hx rfl (hb hby at_31) k) ?_
        show own_Out p e below _ s₁ (mkF m 32 #[.val (.int x0), .val (.int x1), .val (.int x2), .val (.int (1 : Int32)), .val (.int (1 : Int32)), .unset, .unset, .unset, .unset, .unset, .unset, .unset] [(.int (1 : Int32))]) _ _ _
        refine own_to (fun t k => XS.goto X0.here hx rfl (pc0 := 32) (pc' := 36) rfl (hb hby at_32) (by decide) (by decide) k) ?_
        show own_Out p e below _ s₁ (mkF m 36 #[.val (.int x0), .val (.int x1), .val (.int x2), .val (.int (1 : Int32)), .val (.int (1 : Int32)), .unset, .unset, .unset, .unset, .unset, .unset, .unset] [(.int (1 : Int32))]) _ _ _
        refine own_to (fun t k => XS.istore X0.here hx rfl (hb hby at_36) rfl (l' := #[.val (.int x0), .val (.int x1), .val (.int x2), .val (.int (1 : Int32)), .val (.int (1 : Int32)), .val (.int (1 : Int32)), .unset, .unset, .unset, .unset, .unset, .unset]) rfl k) ?_
        show own_Out p e below _ s₁ (mkF m 38 #[.val (.int x0), .val (.int x1), .val (.int x2), .val (.int (1 : Int32)), .val (.int (1 : Int32)), .val (.int (1 : Int32)), .unset, .unset, .unset, .unset, .unset, .unset] []) _ _ _
        refine own_to (fun t k => XS.iloadN X0.here hx rfl (hb hby at_38) rfl k) ?_
        show own_Out p e below _ s₁ (mkF m 39 #[.val (.int x0), .val (.int x1), .val (.int x2), .val (.int (1 : Int32)), .val (.int (1 : Int32)), .val (.int (1 : Int32)), .unset, .unset, .unset, .unset, .unset, .unset] [(.int (1 : Int32))]) _ _ _
        have hc39 : ¬ ((1 : Int32) = (0 : Int32)) := by decide
        refine own_to (fun t k => XS.ifNo X0.here hx rfl (hb hby at_39) rfl ((if0 _ _).trans (feq hc39).1) k) ?_
        show own_Out p e below _ s₁ (mkF m 42 #[.val (.int x0), .val (.int x1), .val (.int x2), .val (.int (1 : Int32)), .val (.int (1 : Int32)), .val (.int (1 : Int32)), .unset, .unset, .unset, .unset, .unset, .unset] []) _ _ _
        refine own_to (fun t k => XS.iloadN X0.here hx rfl (hb hby at_42) rfl k) ?_
        show own_Out p e below _ s₁ (mkF m 43 #[.val (.int x0), .val (.int x1), .val (.int x2), .val (.int (1 : Int32)), .val (.int (1 : Int32)), .val (.int (1 : Int32)), .unset, .unset, .unset, .unset, .unset, .unset] [(.int x1)]) _ _ _
        refine own_to (fun t k => XS.sipush X0.here hx rfl (hb hby at_43) k) ?_
        show own_Out p e below _ s₁ (mkF m 46 #[.val (.int x0), .val (.int x1), .val (.int x2), .val (.int (1 : Int32)), .val (.int (1 : Int32)), .val (.int (1 : Int32)), .unset, .unset, .unset, .unset, .unset, .unset] [(.int (255 : Int32)), (.int x1)]) _ _ _
        refine own_to (fun t k => XS.iand X0.here hx rfl (hb hby at_46) rfl k) ?_
        show own_Out p e below _ s₁ (mkF m 47 #[.val (.int x0), .val (.int x1), .val (.int x2), .val (.int (1 : Int32)), .val (.int (1 : Int32)), .val (.int (1 : Int32)), .unset, .unset, .unset, .unset, .unset, .unset] [(.int (x1 &&& (255 : Int32)))]) _ _ _
        refine own_to (fun t k => XS.goto X0.here hx rfl (pc0 := 47) (pc' := 51) rfl (hb hby at_47) (by decide) (by decide) k) ?_
        show own_Out p e below _ s₁ (mkF m 51 #[.val (.int x0), .val (.int x1), .val (.int x2), .val (.int (1 : Int32)), .val (.int (1 : Int32)), .val (.int (1 : Int32)), .unset, .unset, .unset, .unset, .unset, .unset] [(.int (x1 &&& (255 : Int32)))]) _ _ _
        refine own_to (fun t k => XS.istore X0.here hx rfl (hb hby at_51) rfl (l' := #[.val (.int x0), .val (.int x1), .val (.int x2), .val (.int (1 : Int32)), .val (.int (1 : Int32)), .val (.int (1 : Int32)), .val (.int (x1 &&& (255 : Int32))), .unset, .unset, .unset, .unset, .unset]) rfl k) ?_
        show own_Out p e below _ s₁ (mkF m 53 #[.val (.int x0), .val (.int x1), .val (.int x2), .val (.int (1 : Int32)), .val (.int (1 : Int32)), .val (.int (1 : Int32)), .val (.int (x1 &&& (255 : Int32))), .unset, .unset, .unset, .unset, .unset] []) _ _ _
        refine own_to (fun t k => XS.iload X0.here hx rfl (hb hby at_53) rfl k) ?_
        show own_Out p e below _ s₁ (mkF m 55 #[.val (.int x0), .val (.int x1), .val (.int x2), .val (.int (1 : Int32)), .val (.int (1 : Int32)), .val (.int (1 : Int32)), .val (.int (x1 &&& (255 : Int32))), .unset, .unset, .unset, .unset, .unset] [(.int (1 : Int32))]) _ _ _
        have hc55 : ¬ ((1 : Int32) = (0 : Int32)) := by decide
        refine own_to (fun t k => XS.ifNo X0.here hx rfl (hb hby at_55) rfl ((if0 _ _).trans (feq hc55).1) k) ?_
        show own_Out p e below _ s₁ (mkF m 58 #[.val (.int x0), .val (.int x1), .val (.int x2), .val (.int (1 : Int32)), .val (.int (1 : Int32)), .val (.int (1 : Int32)), .val (.int (x1 &&& (255 : Int32))), .unset, .unset, .unset, .unset, .unset] []) _ _ _
        refine own_to (fun t k => XS.iload X0.here hx rfl (hb hby at_58) rfl k) ?_
        show own_Out p e below _ s₁ (mkF m 60 #[.val (.int x0), .val (.int x1), .val (.int x2), .val (.int (1 : Int32)), .val (.int (1 : Int32)), .val (.int (1 : Int32)), .val (.int (x1 &&& (255 : Int32))), .unset, .unset, .unset, .unset, .unset] [(.int (1 : Int32))]) _ _ _
        have hc60 : ¬ ((1 : Int32) = (0 : Int32)) := by decide
        refine own_to (fun t k => XS.ifNo X0.here hx rfl (hb hby at_60) rfl ((if0 _ _).trans (feq hc60).1) k) ?_
        show own_Out p e below _ s₁ (mkF m 63 #[.val (.int x0), .val (.int x1), .val (.int x2), .val (.int (1 : Int32)), .val (.int (1 : Int32)), .val (.int (1 : Int32)), .val (.int (x1 &&& (255 : Int32))), .unset, .unset, .unset, .unset, .unset] []) _ _ _
        refine own_to (fun t k => XS.iconst X0.here hx rfl (hb hby at_63) k) ?_
        show own_Out p e below _ s₁ (mkF m 64 #[.val (.int x0), .val (.int x1), .val (.int x2), .val (.int (1 : Int32)), .val (.int (1 : Int32)), .val (.int (1 : Int32)), .val (.int (x1 &&& (255 : Int32))), .unset, .unset, .unset, .unset, .unset] [(.int (3 : Int32))]) _ _ _
        refine own_newA X0 hx hZ (hw _ (List.mem_of_getElem? (i := 0) rfl)) rfl e0 rfl (hb hby at_64) rfl (by decide) (cap := 3) (by decide) (by decide) (by decide) (by decide) fun T61 hh61 ob61 gb61 X61 e61 E61 A61 => ?_
        have g_ob61 : n0 ≤ ob61 := Nat.le_trans Z0 (Nat.le_of_eq gb61.symm)
        have Z0 := Nat.le_trans Z0 E61.1
        have hk := Nat.le_trans hk E61.1
        have A_ob61 : own_A Z hh61 ob61 .byte 3 (fun _ => 0) := A61
        show own_Out p e below _ T61 (mkF m 66 #[.val (.int x0), .val (.int x1), .val (.int x2), .val (.int (1 : Int32)), .val (.int (1 : Int32)), .val (.int (1 : Int32)), .val (.int (x1 &&& (255 : Int32))), .unset, .unset, .unset, .unset, .unset] [(.ref ob61)]) _ _ _
        refine own_to (fun t k => XS.dup X61.here hx rfl (hb hby at_66) rfl rfl k) ?_
        show own_Out p e below _ T61 (mkF m 67 #[.val (.int x0), .val (.int x1), .val (.int x2), .val (.int (1 : Int32)), .val (.int (1 : Int32)), .val (.int (1 : Int32)), .val (.int (x1 &&& (255 : Int32))), .unset, .unset, .unset, .unset, .unset] [(.ref ob61), (.ref ob61)]) _ _ _
        refine own_to (fun t k => XS.iconst X61.here hx rfl (hb hby at_67) k) ?_
        show own_Out p e below _ T61 (mkF m 68 #[.val (.int x0), .val (.int x1), .val (.int x2), .val (.int (1 : Int32)), .val (.int (1 : Int32)), .val (.int (1 : Int32)), .val (.int (x1 &&& (255 : Int32))), .unset, .unset, .unset, .unset, .unset] [(.int (0 : Int32)), (.ref ob61), (.ref ob61)]) _ _ _
        refine own_to (fun t k => XS.iconst X61.here hx rfl (hb hby at_68) k) ?_
        show own_Out p e below _ T61 (mkF m 69 #[.val (.int x0), .val (.int x1), .val (.int x2), .val (.int (1 : Int32)), .val (.int (1 : Int32)), .val (.int (1 : Int32)), .val (.int (x1 &&& (255 : Int32))), .unset, .unset, .unset, .unset, .unset] [(.int (5 : Int32)), (.int (0 : Int32)), (.ref ob61), (.ref ob61)]) _ _ _
        refine own_stB X61 hx hZ e61 A_ob61 (by decide) (by decide) rfl rfl (hb hby at_69) fun T62 hh62 X62 e62 W62 A62 => ?_
        have A_ob61 := A62
        have Z0 := Nat.le_trans Z0 (Nat.le_of_eq W62.size.symm)
        have hk := Nat.le_trans hk (Nat.le_of_eq W62.size.symm)
        have N62 := own_fs (sl := Int32.toNatClampNeg (0 : Int32)) N0 g_ob61
        show own_Out p e below _ T62 (mkF m 70 #[.val (.int x0), .val (.int x1), .val (.int x2), .val (.int (1 : Int32)), .val (.int (1 : Int32)), .val (.int (1 : Int32)), .val (.int (x1 &&& (255 : Int32))), .unset, .unset, .unset, .unset, .unset] [(.ref ob61)]) _ _ _
        refine own_to (fun t k => XS.dup X62.here hx rfl (hb hby at_70) rfl rfl k) ?_
        show own_Out p e below _ T62 (mkF m 71 #[.val (.int x0), .val (.int x1), .val (.int x2), .val (.int (1 : Int32)), .val (.int (1 : Int32)), .val (.int (1 : Int32)), .val (.int (x1 &&& (255 : Int32))), .unset, .unset, .unset, .unset, .unset] [(.ref ob61), (.ref ob61)]) _ _ _
        refine own_to (fun t k => XS.iconst X62.here hx rfl (hb hby at_71) k) ?_
        show own_Out p e below _ T62 (mkF m 72 #[.val (.int x0), .val (.int x1), .val (.int x2), .val (.int (1 : Int32)), .val (.int (1 : Int32)), .val (.int (1 : Int32)), .val (.int (x1 &&& (255 : Int32))), .unset, .unset, .unset, .unset, .unset] [(.int (1 : Int32)), (.ref ob61), (.ref ob61)]) _ _ _
        refine own_to (fun t k => XS.iconst X62.here hx rfl (hb hby at_72) k) ?_
        show own_Out p e below _ T62 (mkF m 73 #[.val (.int x0), .val (.int x1), .val (.int x2), .val (.int (1 : Int32)), .val (.int (1 : Int32)), .val (.int (1 : Int32)), .val (.int (x1 &&& (255 : Int32))), .unset, .unset, .unset, .unset, .unset] [(.int (0 : Int32)), (.int (1 : Int32)), (.ref ob61), (.ref ob61)]) _ _ _
        refine own_stB X62 hx hZ e62 A_ob61 (by decide) (by decide) rfl rfl (hb hby at_73) fun T63 hh63 X63 e63 W63 A63 => ?_
        have A_ob61 := A63
        have Z0 := Nat.le_trans Z0 (Nat.le_of_eq W63.size.symm)
        have hk := Nat.le_trans hk (Nat.le_of_eq W63.size.symm)
        have N63 := own_fs (sl := Int32.toNatClampNeg (1 : Int32)) N62 g_ob61
        show own_Out p e below _ T63 (mkF m 74 #[.val (.int x0), .val (.int x1), .val (.int x2), .val (.int (1 : Int32)), .val (.int (1 : Int32)), .val (.int (1 : Int32)), .val (.int (x1 &&& (255 : Int32))), .unset, .unset, .unset, .unset, .unset] [(.ref ob61)]) _ _ _
        refine own_to (fun t k => XS.dup X63.here hx rfl (hb hby at_74) rfl rfl k) ?_
        show own_Out p e below _ T63 (mkF m 75 #[.val (.int x0), .val (.int x1), .val (.int x2), .val (.int (1 : Int32)), .val (.int (1 : Int32)), .val (.int (1 : Int32)), .val (.int (x1 &&& (255 : Int32))), .unset, .unset, .unset, .unset, .unset] [(.ref ob61), (.ref ob61)]) _ _ _
        refine own_to (fun t k => XS.iconst X63.here hx rfl (hb hby at_75) k) ?_
        show own_Out p e below _ T63 (mkF m 76 #[.val (.int x0), .val (.int x1), .val (.int x2), .val (.int (1 : Int32)), .val (.int (1 : Int32)), .val (.int (1 : Int32)), .val (.int (x1 &&& (255 : Int32))), .unset, .unset, .unset, .unset, .unset] [(.int (2 : Int32)), (.ref ob61), (.ref ob61)]) _ _ _
        refine own_to (fun t k => XS.iloadN X63.here hx rfl (hb hby at_76) rfl k) ?_
        show own_Out p e below _ T63 (mkF m 77 #[.val (.int x0), .val (.int x1), .val (.int x2), .val (.int (1 : Int32)), .val (.int (1 : Int32)), .val (.int (1 : Int32)), .val (.int (x1 &&& (255 : Int32))), .unset, .unset, .unset, .unset, .unset] [(.int x1), (.int (2 : Int32)), (.ref ob61), (.ref ob61)]) _ _ _
        refine own_to (fun t k => XS.i2b X63.here hx rfl (hb hby at_77) rfl k) ?_
        show own_Out p e below _ T63 (mkF m 78 #[.val (.int x0), .val (.int x1), .val (.int x2), .val (.int (1 : Int32)), .val (.int (1 : Int32)), .val (.int (1 : Int32)), .val (.int (x1 &&& (255 : Int32))), .unset, .unset, .unset, .unset, .unset] [(.int (x1.toInt8.toInt32)), (.int (2 : Int32)), (.ref ob61), (.ref ob61)]) _ _ _
        refine own_stB X63 hx hZ e63 A_ob61 (by decide) (by decide) rfl rfl (hb hby at_78) fun T64 hh64 X64 e64 W64 A64 => ?_
        have A_ob61 := A64
        have Z0 := Nat.le_trans Z0 (Nat.le_of_eq W64.size.symm)
        have hk := Nat.le_trans hk (Nat.le_of_eq W64.size.symm)
        have N64 := own_fs (sl := Int32.toNatClampNeg (2 : Int32)) N63 g_ob61
        show own_Out p e below _ T64 (mkF m 79 #[.val (.int x0), .val (.int x1), .val (.int x2), .val (.int (1 : Int32)), .val (.int (1 : Int32)), .val (.int (1 : Int32)), .val (.int (x1 &&& (255 : Int32))), .unset, .unset, .unset, .unset, .unset] [(.ref ob61)]) _ _ _
        refine own_to (fun t k => XS.astore X64.here hx rfl (hb hby at_79) rfl rfl (l' := #[.val (.int x0), .val (.int x1), .val (.int x2), .val (.int (1 : Int32)), .val (.int (1 : Int32)), .val (.int (1 : Int32)), .val (.int (x1 &&& (255 : Int32))), .val (.ref ob61), .unset, .unset, .unset, .unset]) rfl k) ?_
        show own_Out p e below _ T64 (mkF m 81 #[.val (.int x0), .val (.int x1), .val (.int x2), .val (.int (1 : Int32)), .val (.int (1 : Int32)), .val (.int (1 : Int32)), .val (.int (x1 &&& (255 : Int32))), .val (.ref ob61), .unset, .unset, .unset, .unset] []) _ _ _
        refine own_to (fun t k => XS.goto X64.here hx rfl (pc0 := 81) (pc' := 123) rfl (hb hby at_81) (by decide) (by decide) k) ?_
        show own_Out p e below _ T64 (mkF m 123 #[.val (.int x0), .val (.int x1), .val (.int x2), .val (.int (1 : Int32)), .val (.int (1 : Int32)), .val (.int (1 : Int32)), .val (.int (x1 &&& (255 : Int32))), .val (.ref ob61), .unset, .unset, .unset, .unset] []) _ _ _
        refine own_new X64 hx hZ hown (hw _ (List.mem_of_getElem? (i := 1) rfl)) (hw _ (List.mem_of_getElem? (i := 2) rfl)) (hw _ (List.mem_of_getElem? (i := 3) rfl)) e64 rfl (hb hby at_123) (by decide) (by decide) fun T65 hh65 ob65 gb65 X65 e65 E65 A65 D65 => ?_
        have ne_ob61_ob65 : ob61 ≠ ob65 := Nat.ne_of_lt (Nat.lt_of_lt_of_le A_ob61.lt (Nat.le_of_eq gb65.symm))
        have ne_ob65_ob61 := Ne.symm ne_ob61_ob65
        have g_ob65 : n0 ≤ ob65 := Nat.le_trans Z0 (Nat.le_of_eq gb65.symm)
        have A_ob61 := A_ob61.ext E65
        have Z0 := Nat.le_trans Z0 E65.1
        have hk := Nat.le_trans hk E65.1
        have E_ob65 := A65
        have F_ob65_bytes : Fld Z hh65 ob65 "com/example/pathwarden/pathwarden/util/DerReader" "bytes" "[B" .null := D65 (Or.inr (hw _ (List.mem_of_getElem? (i := 14) rfl))) (ty := (.array .byte)) (by decide)
        have F_ob65_position : Fld Z hh65 ob65 "com/example/pathwarden/pathwarden/util/DerReader" "position" "I" (.int (0 : Int32)) := D65 (Or.inl (hw _ (List.mem_of_getElem? (i := 16) rfl))) (ty := .int) (by decide)
        have F_ob65_end : Fld Z hh65 ob65 "com/example/pathwarden/pathwarden/util/DerReader" "end" "I" (.int (0 : Int32)) := D65 (Or.inr (hw _ (List.mem_of_getElem? (i := 18) rfl))) (ty := .int) (by decide)
        show own_Out p e below _ T65 (mkF m 126 #[.val (.int x0), .val (.int x1), .val (.int x2), .val (.int (1 : Int32)), .val (.int (1 : Int32)), .val (.int (1 : Int32)), .val (.int (x1 &&& (255 : Int32))), .val (.ref ob61), .unset, .unset, .unset, .unset] [(.ref ob65)]) _ _ _
        refine own_to (fun t k => XS.dup X65.here hx rfl (hb hby at_126) rfl rfl k) ?_
        show own_Out p e below _ T65 (mkF m 127 #[.val (.int x0), .val (.int x1), .val (.int x2), .val (.int (1 : Int32)), .val (.int (1 : Int32)), .val (.int (1 : Int32)), .val (.int (x1 &&& (255 : Int32))), .val (.ref ob61), .unset, .unset, .unset, .unset] [(.ref ob65), (.ref ob65)]) _ _ _
        refine own_to (fun t k => XS.aload X65.here hx rfl (hb hby at_127) rfl rfl k) ?_
        show own_Out p e below _ T65 (mkF m 129 #[.val (.int x0), .val (.int x1), .val (.int x2), .val (.int (1 : Int32)), .val (.int (1 : Int32)), .val (.int (1 : Int32)), .val (.int (x1 &&& (255 : Int32))), .val (.ref ob61), .unset, .unset, .unset, .unset] [(.ref ob61), (.ref ob65), (.ref ob65)]) _ _ _
        refine own_callC X65 hx hZ hown (a := ob65) (argsL := [(.ref ob61)]) (rest := [(.ref ob65)]) rfl (hw _ (List.mem_of_getElem? (i := 4) rfl)) (hw _ (List.mem_of_getElem? (i := 5) rfl)) (hw _ (List.mem_of_getElem? (i := 3) rfl)) (hw _ (List.mem_of_getElem? (i := 6) rfl)) (by decide) (rm1 l Z a0 hw ob65 ob61 3 (own_upd (own_upd (own_upd (fun _ => 0) ((0 : Int32).toNatClampNeg) (nar .byte (5 : Int32))) ((1 : Int32).toNatClampNeg) (nar .byte (0 : Int32))) ((2 : Int32).toNatClampNeg) (nar .byte (x1.toInt8.toInt32))) hh65 n0 Z0 E_ob65 F_ob65_bytes F_ob65_position F_ob65_end g_ob65 A_ob61 ne_ob61_ob65) (by decide) (by decide) e65 rfl (by rw [hml]; rfl) (lenOf pd_4 rfl) rfl (W := 1) (by show 2 * 0 + _ ≤ _; exact Nat.le_of_eq rfl) (hb hby at_129) (by decide) (by decide) fun v66 T66 hh66 L66 X66 e66 hQ66 => ?_
        obtain ⟨rfl, NL66, KK66, P66_0, P66_1, P66_2⟩ := hQ66
        have A_ob61 := A_ob61.keep KK66 (by simp [ne_ob61_ob65])
        have E_ob65 := E_ob65.keep KK66
        have F_ob65_bytes := P66_0
        have F_ob65_position := P66_1
        have F_ob65_end := P66_2
        have Z0 := Nat.le_trans Z0 KK66.1
        have hk := Nat.le_trans hk KK66.1
        have N66 := Fr.app N64 NL66
        show own_Out p e below _ T66 (mkF m 132 #[.val (.int x0), .val (.int x1), .val (.int x2), .val (.int (1 : Int32)), .val (.int (1 : Int32)), .val (.int (1 : Int32)), .val (.int (x1 &&& (255 : Int32))), .val (.ref ob61), .unset, .unset, .unset, .unset] [(.ref ob65)]) _ _ _
        rw [show (Nat.toInt32 3) = (3 : Int32) from by decide] at F_ob65_end
        refine own_to (fun t k => XS.astore X66.here hx rfl (hb hby at_132) rfl rfl (l' := #[.val (.int x0), .val (.int x1), .val (.int x2), .val (.int (1 : Int32)), .val (.int (1 : Int32)), .val (.int (1 : Int32)), .val (.int (x1 &&& (255 : Int32))), .val (.ref ob61), .val (.ref ob65), .unset, .unset, .unset]) rfl k) ?_
        show own_Out p e below _ T66 (mkF m 134 #[.val (.int x0), .val (.int x1), .val (.int x2), .val (.int (1 : Int32)), .val (.int (1 : Int32)), .val (.int (1 : Int32)), .val (.int (x1 &&& (255 : Int32))), .val (.ref ob61), .val (.ref ob65), .unset, .unset, .unset] []) _ _ _
        refine own_to (fun t k => XS.iload X66.here hx rfl (hb hby at_134) rfl k) ?_
        show own_Out p e below _ T66 (mkF m 136 #[.val (.int x0), .val (.int x1), .val (.int x2), .val (.int (1 : Int32)), .val (.int (1 : Int32)), .val (.int (1 : Int32)), .val (.int (x1 &&& (255 : Int32))), .val (.ref ob61), .val (.ref ob65), .unset, .unset, .unset] [(.int (1 : Int32))]) _ _ _
        have hc136 : ¬ ((1 : Int32) = (0 : Int32)) := by decide
        refine own_to (fun t k => XS.ifNo X66.here hx rfl (hb hby at_136) rfl ((if0 _ _).trans (feq hc136).1) k) ?_
        show own_Out p e below _ T66 (mkF m 139 #[.val (.int x0), .val (.int x1), .val (.int x2), .val (.int (1 : Int32)), .val (.int (1 : Int32)), .val (.int (1 : Int32)), .val (.int (x1 &&& (255 : Int32))), .val (.ref ob61), .val (.ref ob65), .unset, .unset, .unset] []) _ _ _
        refine own_to (fun t k => XS.aload X66.here hx rfl (hb hby at_139) rfl rfl k) ?_
        show own_Out p e below _ T66 (mkF m 141 #[.val (.int x0), .val (.int x1), .val (.int x2), .val (.int (1 : Int32)), .val (.int (1 : Int32)), .val (.int (1 : Int32)), .val (.int (x1 &&& (255 : Int32))), .val (.ref ob61), .val (.ref ob65), .unset, .unset, .unset] [(.ref ob65)]) _ _ _
        refine own_callVW X66 hx hZ hown hS hk (a := ob65) (argsL := []) (rest := []) (hw _ (List.mem_of_getElem? (i := 30) rfl)) (hw _ (List.mem_of_getElem? (i := 31) rfl)) (hw _ (List.mem_of_getElem? (i := 33) rfl)) (hw _ (List.mem_of_getElem? (i := 32) rfl)) (hw _ (List.mem_of_getElem? (i := 3) rfl)) (hw _ (List.mem_of_getElem? (i := 34) rfl)) (by decide) (rm6 l Z a0 hw ob65 (0 : Int32) (3 : Int32) ob61 3 (own_upd (own_upd (own_upd (fun _ => 0) ((0 : Int32).toNatClampNeg) (nar .byte (5 : Int32))) ((1 : Int32).toNatClampNeg) (nar .byte (0 : Int32))) ((2 : Int32).toNatClampNeg) (nar .byte (x1.toInt8.toInt32))) (5 : Int32) (0 : Int32) hh66 n0 Z0 E_ob65 F_ob65_bytes F_ob65_position F_ob65_end A_ob61 g_ob65 ne_ob61_ob65 (by decide) (by decide) ((show (5 : Int32) = ((nar .byte (5 : Int32)) &&& (255 : Int32)) from by decide).trans (congrArg (fun z => z &&& (255 : Int32)) ((own_miss (by decide)).trans ((own_miss (by decide)).trans (own_hit (by decide))))).symm) (by decide) (by decide) ((show (0 : Int32) = ((nar .byte (0 : Int32)) &&& (255 : Int32)) from by decide).trans (congrArg (fun z => z &&& (255 : Int32)) ((own_miss (by decide)).trans (own_hit (by decide)))).symm) (by decide) (by decide) (by decide)) (by decide) (by decide) e66 E_ob65 rfl (by rw [hml]; rfl) (lenOf pd_6 rfl) rfl (W := 0) (by show 2 * 0 + _ ≤ _; exact Nat.le_of_eq rfl) (hb hby at_141) (by decide) (by decide) fun v67 T67 hh67 L67 X67 e67 hQ67 hZ hown hS => ?_
        obtain ⟨NL67, KK67, ob67el, rfl, szc_ob67el, P67_0, P67_1, P67_2, P67_3, P67_4, P67_5, P67_6, P67_7, P67_8⟩ := hQ67
        have ne_ob61_ob67el : ob61 ≠ ob67el := Nat.ne_of_lt (Nat.lt_of_lt_of_le A_ob61.lt szc_ob67el)
        have ne_ob67el_ob61 := Ne.symm ne_ob61_ob67el
        have ne_ob65_ob67el : ob65 ≠ ob67el := Nat.ne_of_lt (Nat.lt_of_lt_of_le E_ob65.lt szc_ob67el)
        have ne_ob67el_ob65 := Ne.symm ne_ob65_ob67el
        have g_ob67el : n0 ≤ ob67el := Nat.le_trans Z0 szc_ob67el
        have A_ob61 := A_ob61.keep KK67 (by simp [ne_ob61_ob65])
        have E_ob65 := E_ob65.keep KK67
        have F_ob65_bytes := P67_0
        have F_ob65_position := P67_1
        have F_ob65_end := P67_2
        have E_ob67el := P67_3
        have F_ob67el_bytes := P67_4
        have F_ob67el_tag := P67_5
        have F_ob67el_start := P67_6
        have F_ob67el_contents := P67_7
        have F_ob67el_end := P67_8
        have Z0 := Nat.le_trans Z0 KK67.1
        have hk := Nat.le_refl hh67.size
        have N67 := Fr.app N66 NL67
        show own_Out p e below _ T67 (mkF m 144 #[.val (.int x0), .val (.int x1), .val (.int x2), .val (.int (1 : Int32)), .val (.int (1 : Int32)), .val (.int (1 : Int32)), .val (.int (x1 &&& (255 : Int32))), .val (.ref ob61), .val (.ref ob65), .unset, .unset, .unset] [(.ref ob67el)]) _ _ _
        rw [show ((((0 : Int32) + (1 : Int32)) + (1 : Int32)) + (((0 : Int32).toInt64).toInt32)) = (2 : Int32) from by decide] at F_ob65_position
        rw [show (((0 : Int32) + (1 : Int32)) + (1 : Int32)) = (2 : Int32) from by decide] at F_ob67el_contents
        rw [show ((((0 : Int32) + (1 : Int32)) + (1 : Int32)) + (((0 : Int32).toInt64).toInt32)) = (2 : Int32) from by decide] at F_ob67el_end
        refine own_to (fun t k => XS.pop X67.here hx rfl (hb hby at_144) rfl rfl k) ?_
        show own_Out p e below _ T67 (mkF m 145 #[.val (.int x0), .val (.int x1), .val (.int x2), .val (.int (1 : Int32)), .val (.int (1 : Int32)), .val (.int (1 : Int32)), .val (.int (x1 &&& (255 : Int32))), .val (.ref ob61), .val (.ref ob65), .unset, .unset, .unset] []) _ _ _
        refine own_to (fun t k => XS.iload X67.here hx rfl (hb hby at_145) rfl k) ?_
        show own_Out p e below _ T67 (mkF m 147 #[.val (.int x0), .val (.int x1), .val (.int x2), .val (.int (1 : Int32)), .val (.int (1 : Int32)), .val (.int (1 : Int32)), .val (.int (x1 &&& (255 : Int32))), .val (.ref ob61), .val (.ref ob65), .unset, .unset, .unset] [(.int (1 : Int32))]) _ _ _
        have hc147 : ¬ ((1 : Int32) = (0 : Int32)) := by decide
        refine own_to (fun t k => XS.ifNo X67.here hx rfl (hb hby at_147) rfl ((if0 _ _).trans (feq hc147).1) k) ?_
        show own_Out p e below _ T67 (mkF m 150 #[.val (.int x0), .val (.int x1), .val (.int x2), .val (.int (1 : Int32)), .val (.int (1 : Int32)), .val (.int (1 : Int32)), .val (.int (x1 &&& (255 : Int32))), .val (.ref ob61), .val (.ref ob65), .unset, .unset, .unset] []) _ _ _
        refine own_to (fun t k => XS.iloadN X67.here hx rfl (hb hby at_150) rfl k) ?_
        show own_Out p e below _ T67 (mkF m 151 #[.val (.int x0), .val (.int x1), .val (.int x2), .val (.int (1 : Int32)), .val (.int (1 : Int32)), .val (.int (1 : Int32)), .val (.int (x1 &&& (255 : Int32))), .val (.ref ob61), .val (.ref ob65), .unset, .unset, .unset] [(.int x1)]) _ _ _
        refine own_to (fun t k => XS.sipush X67.here hx rfl (hb hby at_151) k) ?_
        show own_Out p e below _ T67 (mkF m 154 #[.val (.int x0), .val (.int x1), .val (.int x2), .val (.int (1 : Int32)), .val (.int (1 : Int32)), .val (.int (1 : Int32)), .val (.int (x1 &&& (255 : Int32))), .val (.ref ob61), .val (.ref ob65), .unset, .unset, .unset] [(.int (255 : Int32)), (.int x1)]) _ _ _
        refine own_to (fun t k => XS.iand X67.here hx rfl (hb hby at_154) rfl k) ?_
        show own_Out p e below _ T67 (mkF m 155 #[.val (.int x0), .val (.int x1), .val (.int x2), .val (.int (1 : Int32)), .val (.int (1 : Int32)), .val (.int (1 : Int32)), .val (.int (x1 &&& (255 : Int32))), .val (.ref ob61), .val (.ref ob65), .unset, .unset, .unset] [(.int (x1 &&& (255 : Int32)))]) _ _ _
        refine own_to (fun t k => XS.iload X67.here hx rfl (hb hby at_155) rfl k) ?_
        show own_Out p e below _ T67 (mkF m 157 #[.val (.int x0), .val (.int x1), .val (.int x2), .val (.int (1 : Int32)), .val (.int (1 : Int32)), .val (.int (1 : Int32)), .val (.int (x1 &&& (255 : Int32))), .val (.ref ob61), .val (.ref ob65), .unset, .unset, .unset] [(.int (x1 &&& (255 : Int32))), (.int (x1 &&& (255 : Int32)))]) _ _ _
        have hc157 : (x1 &&& (255 : Int32)) = (x1 &&& (255 : Int32)) := rfl
        refine own_to (fun t k => XS.icmpNo X67.here hx rfl (hb hby at_157) rfl (teq hc157).2 k) ?_
        show own_Out p e below _ T67 (mkF m 160 #[.val (.int x0), .val (.int x1), .val (.int x2), .val (.int (1 : Int32)), .val (.int (1 : Int32)), .val (.int (1 : Int32)), .val (.int (x1 &&& (255 : Int32))), .val (.ref ob61), .val (.ref ob65), .unset, .unset, .unset] []) _ _ _
        refine own_to (fun t k => XS.iconst X67.here hx rfl (hb hby at_160) k) ?_
        show own_Out p e below _ T67 (mkF m 161 #[.val (.int x0), .val (.int x1), .val (.int x2), .val (.int (1 : Int32)), .val (.int (1 : Int32)), .val (.int (1 : Int32)), .val (.int (x1 &&& (255 : Int32))), .val (.ref ob61), .val (.ref ob65), .unset, .unset, .unset] [(.int (1 : Int32))]) _ _ _
        refine own_to (fun t k => XS.goto X67.here hx rfl (pc0 := 161) (pc' := 165) rfl (hb hby at_161) (by decide) (by decide) k) ?_
        show own_Out p e below _ T67 (mkF m 165 #[.val (.int x0), .val (.int x1), .val (.int x2), .val (.int (1 : Int32)), .val (.int (1 : Int32)), .val (.int (1 : Int32)), .val (.int (x1 &&& (255 : Int32))), .val (.ref ob61), .val (.ref ob65), .unset, .unset, .unset] [(.int (1 : Int32))]) _ _ _
        refine own_to (fun t k => XS.istore X67.here hx rfl (hb hby at_165) rfl (l' := #[.val (.int x0), .val (.int x1), .val (.int x2), .val (.int (1 : Int32)), .val (.int (1 : Int32)), .val (.int (1 : Int32)), .val (.int (x1 &&& (255 : Int32))), .val (.ref ob61), .val (.ref ob65), .val (.int (1 : Int32)), .unset, .unset]) rfl k) ?_
        show own_Out p e below _ T67 (mkF m 167 #[.val (.int x0), .val (.int x1), .val (.int x2), .val (.int (1 : Int32)), .val (.int (1 : Int32)), .val (.int (1 : Int32)), .val (.int (x1 &&& (255 : Int32))), .val (.ref ob61), .val (.ref ob65), .val (.int (1 : Int32)), .unset, .unset] []) _ _ _
        refine own_to (fun t k => XS.aload X67.here hx rfl (hb hby at_167) rfl rfl k) ?_
        show own_Out p e below _ T67 (mkF m 169 #[.val (.int x0), .val (.int x1), .val (.int x2), .val (.int (1 : Int32)), .val (.int (1 : Int32)), .val (.int (1 : Int32)), .val (.int (x1 &&& (255 : Int32))), .val (.ref ob61), .val (.ref ob65), .val (.int (1 : Int32)), .unset, .unset] [(.ref ob65)]) _ _ _
        refine own_to (fun t k => XS.iload X67.here hx rfl (hb hby at_169) rfl k) ?_
        show own_Out p e below _ T67 (mkF m 171 #[.val (.int x0), .val (.int x1), .val (.int x2), .val (.int (1 : Int32)), .val (.int (1 : Int32)), .val (.int (1 : Int32)), .val (.int (x1 &&& (255 : Int32))), .val (.ref ob61), .val (.ref ob65), .val (.int (1 : Int32)), .unset, .unset] [(.int (x1 &&& (255 : Int32))), (.ref ob65)]) _ _ _
        refine own_callV X67 hx hZ hown (a := ob65) (argsL := [(.int (x1 &&& (255 : Int32)))]) (rest := []) (hw _ (List.mem_of_getElem? (i := 19) rfl)) (hw _ (List.mem_of_getElem? (i := 20) rfl)) (hw _ (List.mem_of_getElem? (i := 22) rfl)) (hw _ (List.mem_of_getElem? (i := 21) rfl)) (hw _ (List.mem_of_getElem? (i := 3) rfl)) (hw _ (List.mem_of_getElem? (i := 23) rfl)) (by decide) (rm4 l Z a0 hw ob65 (x1 &&& (255 : Int32)) (2 : Int32) (3 : Int32) ob61 3 (own_upd (own_upd (own_upd (fun _ => 0) ((0 : Int32).toNatClampNeg) (nar .byte (5 : Int32))) ((1 : Int32).toNatClampNeg) (nar .byte (0 : Int32))) ((2 : Int32).toNatClampNeg) (nar .byte (x1.toInt8.toInt32))) hh67 n0 Z0 E_ob65 F_ob65_bytes F_ob65_position F_ob65_end A_ob61 (by decide)) (by decide) (by decide) e67 E_ob65 rfl (by rw [hml]; rfl) (lenOf pd_5 rfl) rfl (W := 0) (by show 2 * 0 + _ ≤ _; exact Nat.le_of_eq rfl) (hb hby at_171) (by decide) (by decide) fun v68 T68 hh68 L68 X68 e68 hQ68 => ?_
        obtain ⟨rfl, NL68, he68⟩ := hQ68
        replace e68 := e68.trans he68
        have N68 := Fr.app N67 NL68
        show own_Out p e below _ T68 (mkF m 174 #[.val (.int x0), .val (.int x1), .val (.int x2), .val (.int (1 : Int32)), .val (.int (1 : Int32)), .val (.int (1 : Int32)), .val (.int (x1 &&& (255 : Int32))), .val (.ref ob61), .val (.ref ob65), .val (.int (1 : Int32)), .unset, .unset] [(.int (R4 ob65 (x1 &&& (255 : Int32)) (2 : Int32) (3 : Int32) ob61 3 (own_upd (own_upd (own_upd (fun _ => 0) ((0 : Int32).toNatClampNeg) (nar .byte (5 : Int32))) ((1 : Int32).toNatClampNeg) (nar .byte (0 : Int32))) ((2 : Int32).toNatClampNeg) (nar .byte (x1.toInt8.toInt32)))))]) _ _ _
        refine own_to (fun t k => XS.istore X68.here hx rfl (hb hby at_174) rfl (l' := #[.val (.int x0), .val (.int x1), .val (.int x2), .val (.int (1 : Int32)), .val (.int (1 : Int32)), .val (.int (1 : Int32)), .val (.int (x1 &&& (255 : Int32))), .val (.ref ob61), .val (.ref ob65), .val (.int (1 : Int32)), .val (.int (R4 ob65 (x1 &&& (255 : Int32)) (2 : Int32) (3 : Int32) ob61 3 (own_upd (own_upd (own_upd (fun _ => 0) ((0 : Int32).toNatClampNeg) (nar .byte (5 : Int32))) ((1 : Int32).toNatClampNeg) (nar .byte (0 : Int32))) ((2 : Int32).toNatClampNeg) (nar .byte (x1.toInt8.toInt32))))), .unset]) rfl k) ?_
        show own_Out p e below _ T68 (mkF m 176 #[.val (.int x0), .val (.int x1), .val (.int x2), .val (.int (1 : Int32)), .val (.int (1 : Int32)), .val (.int (1 : Int32)), .val (.int (x1 &&& (255 : Int32))), .val (.ref ob61), .val (.ref ob65), .val (.int (1 : Int32)), .val (.int (R4 ob65 (x1 &&& (255 : Int32)) (2 : Int32) (3 : Int32) ob61 3 (own_upd (own_upd (own_upd (fun _ => 0) ((0 : Int32).toNatClampNeg) (nar .byte (5 : Int32))) ((1 : Int32).toNatClampNeg) (nar .byte (0 : Int32))) ((2 : Int32).toNatClampNeg) (nar .byte (x1.toInt8.toInt32))))), .unset] []) _ _ _
        refine own_to (fun t k => XS.aload X68.here hx rfl (hb hby at_176) rfl rfl k) ?_
        show own_Out p e below _ T68 (mkF m 178 #[.val (.int x0), .val (.int x1), .val (.int x2), .val (.int (1 : Int32)), .val (.int (1 : Int32)), .val (.int (1 : Int32)), .val (.int (x1 &&& (255 : Int32))), .val (.ref ob61), .val (.ref ob65), .val (.int (1 : Int32)), .val (.int (R4 ob65 (x1 &&& (255 : Int32)) (2 : Int32) (3 : Int32) ob61 3 (own_upd (own_upd (own_upd (fun _ => 0) ((0 : Int32).toNatClampNeg) (nar .byte (5 : Int32))) ((1 : Int32).toNatClampNeg) (nar .byte (0 : Int32))) ((2 : Int32).toNatClampNeg) (nar .byte (x1.toInt8.toInt32))))), .unset] [(.ref ob65)]) _ _ _
        refine own_to (fun t k => XS.iload X68.here hx rfl (hb hby at_178) rfl k) ?_
        show own_Out p e below _ T68 (mkF m 180 #[.val (.int x0), .val (.int x1), .val (.int x2), .val (.int (1 : Int32)), .val (.int (1 : Int32)), .val (.int (1 : Int32)), .val (.int (x1 &&& (255 : Int32))), .val (.ref ob61), .val (.ref ob65), .val (.int (1 : Int32)), .val (.int (R4 ob65 (x1 &&& (255 : Int32)) (2 : Int32) (3 : Int32) ob61 3 (own_upd (own_upd (own_upd (fun _ => 0) ((0 : Int32).toNatClampNeg) (nar .byte (5 : Int32))) ((1 : Int32).toNatClampNeg) (nar .byte (0 : Int32))) ((2 : Int32).toNatClampNeg) (nar .byte (x1.toInt8.toInt32))))), .unset] [(.int (x1 &&& (255 : Int32))), (.ref ob65)]) _ _ _
        refine own_callV X68 hx hZ hown (a := ob65) (argsL := [(.int (x1 &&& (255 : Int32)))]) (rest := []) (hw _ (List.mem_of_getElem? (i := 19) rfl)) (hw _ (List.mem_of_getElem? (i := 20) rfl)) (hw _ (List.mem_of_getElem? (i := 22) rfl)) (hw _ (List.mem_of_getElem? (i := 21) rfl)) (hw _ (List.mem_of_getElem? (i := 3) rfl)) (hw _ (List.mem_of_getElem? (i := 23) rfl)) (by decide) (rm4 l Z a0 hw ob65 (x1 &&& (255 : Int32)) (2 : Int32) (3 : Int32) ob61 3 (own_upd (own_upd (own_upd (fun _ => 0) ((0 : Int32).toNatClampNeg) (nar .byte (5 : Int32))) ((1 : Int32).toNatClampNeg) (nar .byte (0 : Int32))) ((2 : Int32).toNatClampNeg) (nar .byte (x1.toInt8.toInt32))) hh67 n0 Z0 E_ob65 F_ob65_bytes F_ob65_position F_ob65_end A_ob61 (by decide)) (by decide) (by decide) e68 E_ob65 rfl (by rw [hml]; rfl) (lenOf pd_5 rfl) rfl (W := 0) (by show 2 * 0 + _ ≤ _; exact Nat.le_of_eq rfl) (hb hby at_180) (by decide) (by decide) fun v69 T69 hh69 L69 X69 e69 hQ69 => ?_
        obtain ⟨rfl, NL69, he69⟩ := hQ69
        replace e69 := e69.trans he69
        have N69 := Fr.app N68 NL69
        show own_Out p e below _ T69 (mkF m 183 #[.val (.int x0), .val (.int x1), .val (.int x2), .val (.int (1 : Int32)), .val (.int (1 : Int32)), .val (.int (1 : Int32)), .val (.int (x1 &&& (255 : Int32))), .val (.ref ob61), .val (.ref ob65), .val (.int (1 : Int32)), .val (.int (R4 ob65 (x1 &&& (255 : Int32)) (2 : Int32) (3 : Int32) ob61 3 (own_upd (own_upd (own_upd (fun _ => 0) ((0 : Int32).toNatClampNeg) (nar .byte (5 : Int32))) ((1 : Int32).toNatClampNeg) (nar .byte (0 : Int32))) ((2 : Int32).toNatClampNeg) (nar .byte (x1.toInt8.toInt32))))), .unset] [(.int (R4 ob65 (x1 &&& (255 : Int32)) (2 : Int32) (3 : Int32) ob61 3 (own_upd (own_upd (own_upd (fun _ => 0) ((0 : Int32).toNatClampNeg) (nar .byte (5 : Int32))) ((1 : Int32).toNatClampNeg) (nar .byte (0 : Int32))) ((2 : Int32).toNatClampNeg) (nar .byte (x1.toInt8.toInt32)))))]) _ _ _
        refine own_to (fun t k => XS.istore X69.here hx rfl (hb hby at_183) rfl (l' := #[.val (.int x0), .val (.int x1), .val (.int x2), .val (.int (1 : Int32)), .val (.int (1 : Int32)), .val (.int (1 : Int32)), .val (.int (x1 &&& (255 : Int32))), .val (.ref ob61), .val (.ref ob65), .val (.int (1 : Int32)), .val (.int (R4 ob65 (x1 &&& (255 : Int32)) (2 : Int32) (3 : Int32) ob61 3 (own_upd (own_upd (own_upd (fun _ => 0) ((0 : Int32).toNatClampNeg) (nar .byte (5 : Int32))) ((1 : Int32).toNatClampNeg) (nar .byte (0 : Int32))) ((2 : Int32).toNatClampNeg) (nar .byte (x1.toInt8.toInt32))))), .val (.int (R4 ob65 (x1 &&& (255 : Int32)) (2 : Int32) (3 : Int32) ob61 3 (own_upd (own_upd (own_upd (fun _ => 0) ((0 : Int32).toNatClampNeg) (nar .byte (5 : Int32))) ((1 : Int32).toNatClampNeg) (nar .byte (0 : Int32))) ((2 : Int32).toNatClampNeg) (nar .byte (x1.toInt8.toInt32)))))]) rfl k) ?_
        show own_Out p e below _ T69 (mkF m 185 #[.val (.int x0), .val (.int x1), .val (.int x2), .val (.int (1 : Int32)), .val (.int (1 : Int32)), .val (.int (1 : Int32)), .val (.int (x1 &&& (255 : Int32))), .val (.ref ob61), .val (.ref ob65), .val (.int (1 : Int32)), .val (.int (R4 ob65 (x1 &&& (255 : Int32)) (2 : Int32) (3 : Int32) ob61 3 (own_upd (own_upd (own_upd (fun _ => 0) ((0 : Int32).toNatClampNeg) (nar .byte (5 : Int32))) ((1 : Int32).toNatClampNeg) (nar .byte (0 : Int32))) ((2 : Int32).toNatClampNeg) (nar .byte (x1.toInt8.toInt32))))), .val (.int (R4 ob65 (x1 &&& (255 : Int32)) (2 : Int32) (3 : Int32) ob61 3 (own_upd (own_upd (own_upd (fun _ => 0) ((0 : Int32).toNatClampNeg) (nar .byte (5 : Int32))) ((1 : Int32).toNatClampNeg) (nar .byte (0 : Int32))) ((2 : Int32).toNatClampNeg) (nar .byte (x1.toInt8.toInt32)))))] []) _ _ _
        refine own_to (fun t k => XS.iload X69.here hx rfl (hb hby at_185) rfl k) ?_
        show own_Out p e below _ T69 (mkF m 187 #[.val (.int x0), .val (.int x1), .val (.int x2), .val (.int (1 : Int32)), .val (.int (1 : Int32)), .val (.int (1 : Int32)), .val (.int (x1 &&& (255 : Int32))), .val (.ref ob61), .val (.ref ob65), .val (.int (1 : Int32)), .val (.int (R4 ob65 (x1 &&& (255 : Int32)) (2 : Int32) (3 : Int32) ob61 3 (own_upd (own_upd (own_upd (fun _ => 0) ((0 : Int32).toNatClampNeg) (nar .byte (5 : Int32))) ((1 : Int32).toNatClampNeg) (nar .byte (0 : Int32))) ((2 : Int32).toNatClampNeg) (nar .byte (x1.toInt8.toInt32))))), .val (.int (R4 ob65 (x1 &&& (255 : Int32)) (2 : Int32) (3 : Int32) ob61 3 (own_upd (own_upd (own_upd (fun _ => 0) ((0 : Int32).toNatClampNeg) (nar .byte (5 : Int32))) ((1 : Int32).toNatClampNeg) (nar .byte (0 : Int32))) ((2 : Int32).toNatClampNeg) (nar .byte (x1.toInt8.toInt32)))))] [(.int (R4 ob65 (x1 &&& (255 : Int32)) (2 : Int32) (3 : Int32) ob61 3 (own_upd (own_upd (own_upd (fun _ => 0) ((0 : Int32).toNatClampNeg) (nar .byte (5 : Int32))) ((1 : Int32).toNatClampNeg) (nar .byte (0 : Int32))) ((2 : Int32).toNatClampNeg) (nar .byte (x1.toInt8.toInt32)))))]) _ _ _
        refine own_to (fun t k => XS.iload X69.here hx rfl (hb hby at_187) rfl k) ?_
        show own_Out p e below _ T69 (mkF m 189 #[.val (.int x0), .val (.int x1), .val (.int x2), .val (.int (1 : Int32)), .val (.int (1 : Int32)), .val (.int (1 : Int32)), .val (.int (x1 &&& (255 : Int32))), .val (.ref ob61), .val (.ref ob65), .val (.int (1 : Int32)), .val (.int (R4 ob65 (x1 &&& (255 : Int32)) (2 : Int32) (3 : Int32) ob61 3 (own_upd (own_upd (own_upd (fun _ => 0) ((0 : Int32).toNatClampNeg) (nar .byte (5 : Int32))) ((1 : Int32).toNatClampNeg) (nar .byte (0 : Int32))) ((2 : Int32).toNatClampNeg) (nar .byte (x1.toInt8.toInt32))))), .val (.int (R4 ob65 (x1 &&& (255 : Int32)) (2 : Int32) (3 : Int32) ob61 3 (own_upd (own_upd (own_upd (fun _ => 0) ((0 : Int32).toNatClampNeg) (nar .byte (5 : Int32))) ((1 : Int32).toNatClampNeg) (nar .byte (0 : Int32))) ((2 : Int32).toNatClampNeg) (nar .byte (x1.toInt8.toInt32)))))] [(.int (1 : Int32)), (.int (R4 ob65 (x1 &&& (255 : Int32)) (2 : Int32) (3 : Int32) ob61 3 (own_upd (own_upd (own_upd (fun _ => 0) ((0 : Int32).toNatClampNeg) (nar .byte (5 : Int32))) ((1 : Int32).toNatClampNeg) (nar .byte (0 : Int32))) ((2 : Int32).toNatClampNeg) (nar .byte (x1.toInt8.toInt32)))))]) _ _ _
        have hc189 : (R4 ob65 (x1 &&& (255 : Int32)) (2 : Int32) (3 : Int32) ob61 3 (own_upd (own_upd (own_upd (fun _ => 0) ((0 : Int32).toNatClampNeg) (nar .byte (5 : Int32))) ((1 : Int32).toNatClampNeg) (nar .byte (0 : Int32))) ((2 : Int32).toNatClampNeg) (nar .byte (x1.toInt8.toInt32)))) = (1 : Int32) := (own_ni _ _ _ _ _ _ _).2.1 (by decide) (((congrArg (fun z => z &&& (255 : Int32)) (own_hit (by decide))).trans (own_by x1)).trans rfl)
        refine own_to (fun t k => XS.icmpNo X69.here hx rfl (hb hby at_189) rfl (teq hc189).2 k) ?_
        show own_Out p e below _ T69 (mkF m 192 #[.val (.int x0), .val (.int x1), .val (.int x2), .val (.int (1 : Int32)), .val (.int (1 : Int32)), .val (.int (1 : Int32)), .val (.int (x1 &&& (255 : Int32))), .val (.ref ob61), .val (.ref ob65), .val (.int (1 : Int32)), .val (.int (R4 ob65 (x1 &&& (255 : Int32)) (2 : Int32) (3 : Int32) ob61 3 (own_upd (own_upd (own_upd (fun _ => 0) ((0 : Int32).toNatClampNeg) (nar .byte (5 : Int32))) ((1 : Int32).toNatClampNeg) (nar .byte (0 : Int32))) ((2 : Int32).toNatClampNeg) (nar .byte (x1.toInt8.toInt32))))), .val (.int (R4 ob65 (x1 &&& (255 : Int32)) (2 : Int32) (3 : Int32) ob61 3 (own_upd (own_upd (own_upd (fun _ => 0) ((0 : Int32).toNatClampNeg) (nar .byte (5 : Int32))) ((1 : Int32).toNatClampNeg) (nar .byte (0 : Int32))) ((2 : Int32).toNatClampNeg) (nar .byte (x1.toInt8.toInt32)))))] []) _ _ _
        refine own_to (fun t k => XS.iload X69.here hx rfl (hb hby at_192) rfl k) ?_
        show own_Out p e below _ T69 (mkF m 194 #[.val (.int x0), .val (.int x1), .val (.int x2), .val (.int (1 : Int32)), .val (.int (1 : Int32)), .val (.int (1 : Int32)), .val (.int (x1 &&& (255 : Int32))), .val (.ref ob61), .val (.ref ob65), .val (.int (1 : Int32)), .val (.int (R4 ob65 (x1 &&& (255 : Int32)) (2 : Int32) (3 : Int32) ob61 3 (own_upd (own_upd (own_upd (fun _ => 0) ((0 : Int32).toNatClampNeg) (nar .byte (5 : Int32))) ((1 : Int32).toNatClampNeg) (nar .byte (0 : Int32))) ((2 : Int32).toNatClampNeg) (nar .byte (x1.toInt8.toInt32))))), .val (.int (R4 ob65 (x1 &&& (255 : Int32)) (2 : Int32) (3 : Int32) ob61 3 (own_upd (own_upd (own_upd (fun _ => 0) ((0 : Int32).toNatClampNeg) (nar .byte (5 : Int32))) ((1 : Int32).toNatClampNeg) (nar .byte (0 : Int32))) ((2 : Int32).toNatClampNeg) (nar .byte (x1.toInt8.toInt32)))))] [(.int (R4 ob65 (x1 &&& (255 : Int32)) (2 : Int32) (3 : Int32) ob61 3 (own_upd (own_upd (own_upd (fun _ => 0) ((0 : Int32).toNatClampNeg) (nar .byte (5 : Int32))) ((1 : Int32).toNatClampNeg) (nar .byte (0 : Int32))) ((2 : Int32).toNatClampNeg) (nar .byte (x1.toInt8.toInt32)))))]) _ _ _
        refine own_to (fun t k => XS.iload X69.here hx rfl (hb hby at_194) rfl k) ?_
        show own_Out p e below _ T69 (mkF m 196 #[.val (.int x0), .val (.int x1), .val (.int x2), .val (.int (1 : Int32)), .val (.int (1 : Int32)), .val (.int (1 : Int32)), .val (.int (x1 &&& (255 : Int32))), .val (.ref ob61), .val (.ref ob65), .val (.int (1 : Int32)), .val (.int (R4 ob65 (x1 &&& (255 : Int32)) (2 : Int32) (3 : Int32) ob61 3 (own_upd (own_upd (own_upd (fun _ => 0) ((0 : Int32).toNatClampNeg) (nar .byte (5 : Int32))) ((1 : Int32).toNatClampNeg) (nar .byte (0 : Int32))) ((2 : Int32).toNatClampNeg) (nar .byte (x1.toInt8.toInt32))))), .val (.int (R4 ob65 (x1 &&& (255 : Int32)) (2 : Int32) (3 : Int32) ob61 3 (own_upd (own_upd (own_upd (fun _ => 0) ((0 : Int32).toNatClampNeg) (nar .byte (5 : Int32))) ((1 : Int32).toNatClampNeg) (nar .byte (0 : Int32))) ((2 : Int32).toNatClampNeg) (nar .byte (x1.toInt8.toInt32)))))] [(.int (1 : Int32)), (.int (R4 ob65 (x1 &&& (255 : Int32)) (2 : Int32) (3 : Int32) ob61 3 (own_upd (own_upd (own_upd (fun _ => 0) ((0 : Int32).toNatClampNeg) (nar .byte (5 : Int32))) ((1 : Int32).toNatClampNeg) (nar .byte (0 : Int32))) ((2 : Int32).toNatClampNeg) (nar .byte (x1.toInt8.toInt32)))))]) _ _ _
        have hc196 : (R4 ob65 (x1 &&& (255 : Int32)) (2 : Int32) (3 : Int32) ob61 3 (own_upd (own_upd (own_upd (fun _ => 0) ((0 : Int32).toNatClampNeg) (nar .byte (5 : Int32))) ((1 : Int32).toNatClampNeg) (nar .byte (0 : Int32))) ((2 : Int32).toNatClampNeg) (nar .byte (x1.toInt8.toInt32)))) = (1 : Int32) := (own_ni _ _ _ _ _ _ _).2.1 (by decide) (((congrArg (fun z => z &&& (255 : Int32)) (own_hit (by decide))).trans (own_by x1)).trans rfl)
        refine own_to (fun t k => XS.icmpNo X69.here hx rfl (hb hby at_196) rfl (teq hc196).2 k) ?_
        show own_Out p e below _ T69 (mkF m 199 #[.val (.int x0), .val (.int x1), .val (.int x2), .val (.int (1 : Int32)), .val (.int (1 : Int32)), .val (.int (1 : Int32)), .val (.int (x1 &&& (255 : Int32))), .val (.ref ob61), .val (.ref ob65), .val (.int (1 : Int32)), .val (.int (R4 ob65 (x1 &&& (255 : Int32)) (2 : Int32) (3 : Int32) ob61 3 (own_upd (own_upd (own_upd (fun _ => 0) ((0 : Int32).toNatClampNeg) (nar .byte (5 : Int32))) ((1 : Int32).toNatClampNeg) (nar .byte (0 : Int32))) ((2 : Int32).toNatClampNeg) (nar .byte (x1.toInt8.toInt32))))), .val (.int (R4 ob65 (x1 &&& (255 : Int32)) (2 : Int32) (3 : Int32) ob61 3 (own_upd (own_upd (own_upd (fun _ => 0) ((0 : Int32).toNatClampNeg) (nar .byte (5 : Int32))) ((1 : Int32).toNatClampNeg) (nar .byte (0 : Int32))) ((2 : Int32).toNatClampNeg) (nar .byte (x1.toInt8.toInt32)))))] []) _ _ _
        refine own_to (fun t k => XS.aload X69.here hx rfl (hb hby at_199) rfl rfl k) ?_
        show own_Out p e below _ T69 (mkF m 201 #[.val (.int x0), .val (.int x1), .val (.int x2), .val (.int (1 : Int32)), .val (.int (1 : Int32)), .val (.int (1 : Int32)), .val (.int (x1 &&& (255 : Int32))), .val (.ref ob61), .val (.ref ob65), .val (.int (1 : Int32)), .val (.int (R4 ob65 (x1 &&& (255 : Int32)) (2 : Int32) (3 : Int32) ob61 3 (own_upd (own_upd (own_upd (fun _ => 0) ((0 : Int32).toNatClampNeg) (nar .byte (5 : Int32))) ((1 : Int32).toNatClampNeg) (nar .byte (0 : Int32))) ((2 : Int32).toNatClampNeg) (nar .byte (x1.toInt8.toInt32))))), .val (.int (R4 ob65 (x1 &&& (255 : Int32)) (2 : Int32) (3 : Int32) ob61 3 (own_upd (own_upd (own_upd (fun _ => 0) ((0 : Int32).toNatClampNeg) (nar .byte (5 : Int32))) ((1 : Int32).toNatClampNeg) (nar .byte (0 : Int32))) ((2 : Int32).toNatClampNeg) (nar .byte (x1.toInt8.toInt32)))))] [(.ref ob65)]) _ _ _
        refine own_callV X69 hx hZ hown (a := ob65) (argsL := []) (rest := []) (hw _ (List.mem_of_getElem? (i := 29) rfl)) (hw _ (List.mem_of_getElem? (i := 25) rfl)) (hw _ (List.mem_of_getElem? (i := 27) rfl)) (hw _ (List.mem_of_getElem? (i := 26) rfl)) (hw _ (List.mem_of_getElem? (i := 3) rfl)) (hw _ (List.mem_of_getElem? (i := 28) rfl)) (by decide) (rm5 l Z a0 hw ob65 (2 : Int32) (3 : Int32) hh67 n0 Z0 F_ob65_position F_ob65_end) (by decide) (by decide) e69 E_ob65 rfl (by rw [hml]; rfl) (lenOf pd_1 rfl) rfl (W := 0) (by show 2 * 0 + _ ≤ _; exact Nat.le_of_eq rfl) (hb hby at_201) (by decide) (by decide) fun v70 T70 hh70 L70 X70 e70 hQ70 => ?_
        obtain ⟨rfl, NL70, he70⟩ := hQ70
        replace e70 := e70.trans he70
        have N70 := Fr.app N69 NL70
        show own_Out p e below _ T70 (mkF m 204 #[.val (.int x0), .val (.int x1), .val (.int x2), .val (.int (1 : Int32)), .val (.int (1 : Int32)), .val (.int (1 : Int32)), .val (.int (x1 &&& (255 : Int32))), .val (.ref ob61), .val (.ref ob65), .val (.int (1 : Int32)), .val (.int (R4 ob65 (x1 &&& (255 : Int32)) (2 : Int32) (3 : Int32) ob61 3 (own_upd (own_upd (own_upd (fun _ => 0) ((0 : Int32).toNatClampNeg) (nar .byte (5 : Int32))) ((1 : Int32).toNatClampNeg) (nar .byte (0 : Int32))) ((2 : Int32).toNatClampNeg) (nar .byte (x1.toInt8.toInt32))))), .val (.int (R4 ob65 (x1 &&& (255 : Int32)) (2 : Int32) (3 : Int32) ob61 3 (own_upd (own_upd (own_upd (fun _ => 0) ((0 : Int32).toNatClampNeg) (nar .byte (5 : Int32))) ((1 : Int32).toNatClampNeg) (nar .byte (0 : Int32))) ((2 : Int32).toNatClampNeg) (nar .byte (x1.toInt8.toInt32)))))] [(.int (R5 ob65 (2 : Int32) (3 : Int32)))]) _ _ _
        refine own_to (fun t k => XS.iload X70.here hx rfl (hb hby at_204) rfl k) ?_
        show own_Out p e below _ T70 (mkF m 206 #[.val (.int x0), .val (.int x1), .val (.int x2), .val (.int (1 : Int32)), .val (.int (1 : Int32)), .val (.int (1 : Int32)), .val (.int (x1 &&& (255 : Int32))), .val (.ref ob61), .val (.ref ob65), .val (.int (1 : Int32)), .val (.int (R4 ob65 (x1 &&& (255 : Int32)) (2 : Int32) (3 : Int32) ob61 3 (own_upd (own_upd (own_upd (fun _ => 0) ((0 : Int32).toNatClampNeg) (nar .byte (5 : Int32))) ((1 : Int32).toNatClampNeg) (nar .byte (0 : Int32))) ((2 : Int32).toNatClampNeg) (nar .byte (x1.toInt8.toInt32))))), .val (.int (R4 ob65 (x1 &&& (255 : Int32)) (2 : Int32) (3 : Int32) ob61 3 (own_upd (own_upd (own_upd (fun _ => 0) ((0 : Int32).toNatClampNeg) (nar .byte (5 : Int32))) ((1 : Int32).toNatClampNeg) (nar .byte (0 : Int32))) ((2 : Int32).toNatClampNeg) (nar .byte (x1.toInt8.toInt32)))))] [(.int (1 : Int32)), (.int (R5 ob65 (2 : Int32) (3 : Int32)))]) _ _ _
        have hc206 : (R5 ob65 (2 : Int32) (3 : Int32)) = (1 : Int32) := own_hn1 _ _ _ (by decide)
        refine own_to (fun t k => XS.icmpNo X70.here hx rfl (hb hby at_206) rfl (teq hc206).2 k) ?_
        show own_Out p e below _ T70 (mkF m 209 #[.val (.int x0), .val (.int x1), .val (.int x2), .val (.int (1 : Int32)), .val (.int (1 : Int32)), .val (.int (1 : Int32)), .val (.int (x1 &&& (255 : Int32))), .val (.ref ob61), .val (.ref ob65), .val (.int (1 : Int32)), .val (.int (R4 ob65 (x1 &&& (255 : Int32)) (2 : Int32) (3 : Int32) ob61 3 (own_upd (own_upd (own_upd (fun _ => 0) ((0 : Int32).toNatClampNeg) (nar .byte (5 : Int32))) ((1 : Int32).toNatClampNeg) (nar .byte (0 : Int32))) ((2 : Int32).toNatClampNeg) (nar .byte (x1.toInt8.toInt32))))), .val (.int (R4 ob65 (x1 &&& (255 : Int32)) (2 : Int32) (3 : Int32) ob61 3 (own_upd (own_upd (own_upd (fun _ => 0) ((0 : Int32).toNatClampNeg) (nar .byte (5 : Int32))) ((1 : Int32).toNatClampNeg) (nar .byte (0 : Int32))) ((2 : Int32).toNatClampNeg) (nar .byte (x1.toInt8.toInt32)))))] []) _ _ _
        refine own_to (fun t k => XS.iconst X70.here hx rfl (hb hby at_209) k) ?_
        show own_Out p e below _ T70 (mkF m 210 #[.val (.int x0), .val (.int x1), .val (.int x2), .val (.int (1 : Int32)), .val (.int (1 : Int32)), .val (.int (1 : Int32)), .val (.int (x1 &&& (255 : Int32))), .val (.ref ob61), .val (.ref ob65), .val (.int (1 : Int32)), .val (.int (R4 ob65 (x1 &&& (255 : Int32)) (2 : Int32) (3 : Int32) ob61 3 (own_upd (own_upd (own_upd (fun _ => 0) ((0 : Int32).toNatClampNeg) (nar .byte (5 : Int32))) ((1 : Int32).toNatClampNeg) (nar .byte (0 : Int32))) ((2 : Int32).toNatClampNeg) (nar .byte (x1.toInt8.toInt32))))), .val (.int (R4 ob65 (x1 &&& (255 : Int32)) (2 : Int32) (3 : Int32) ob61 3 (own_upd (own_upd (own_upd (fun _ => 0) ((0 : Int32).toNatClampNeg) (nar .byte (5 : Int32))) ((1 : Int32).toNatClampNeg) (nar .byte (0 : Int32))) ((2 : Int32).toNatClampNeg) (nar .byte (x1.toInt8.toInt32)))))] [(.int (1 : Int32))]) _ _ _
        refine own_to (fun t k => XS.goto X70.here hx rfl (pc0 := 210) (pc' := 214) rfl (hb hby at_210) (by decide) (by decide) k) ?_
        show own_Out p e below _ T70 (mkF m 214 #[.val (.int x0), .val (.int x1), .val (.int x2), .val (.int (1 : Int32)), .val (.int (1 : Int32)), .val (.int (1 : Int32)), .val (.int (x1 &&& (255 : Int32))), .val (.ref ob61), .val (.ref ob65), .val (.int (1 : Int32)), .val (.int (R4 ob65 (x1 &&& (255 : Int32)) (2 : Int32) (3 : Int32) ob61 3 (own_upd (own_upd (own_upd (fun _ => 0) ((0 : Int32).toNatClampNeg) (nar .byte (5 : Int32))) ((1 : Int32).toNatClampNeg) (nar .byte (0 : Int32))) ((2 : Int32).toNatClampNeg) (nar .byte (x1.toInt8.toInt32))))), .val (.int (R4 ob65 (x1 &&& (255 : Int32)) (2 : Int32) (3 : Int32) ob61 3 (own_upd (own_upd (own_upd (fun _ => 0) ((0 : Int32).toNatClampNeg) (nar .byte (5 : Int32))) ((1 : Int32).toNatClampNeg) (nar .byte (0 : Int32))) ((2 : Int32).toNatClampNeg) (nar .byte (x1.toInt8.toInt32)))))] [(.int (1 : Int32))]) _ _ _
        refine own_retVW X70 hS hk e70 hx hlk (w := .int (1 : Int32)) hret rfl (Or.inl ⟨rfl, by simp, _, rfl⟩) (hb hby at_214) (by decide) (by decide) ?_
        rw [e70]
        exact ⟨rfl, N70⟩
set_option maxRecDepth 65536 in
set_option maxHeartbeats 40000000 in
theorem comes_1 {Post : Tables → Env → Array Value → State → Outcome → State → Prop} (hpost : ∀ tb e args s v u, (limb_1_1.after args s (.returned v) u = true ∧ limb_1_2.after args s (.returned v) u = true ∧ True) → ReturnedEndW s (.returned v) u (Jvm.fieldLocs frame_1_writes args s ++ Jvm.arrayLocs frame_1_arrays args s ++ Jvm.staticLocs frame_1_statics s) 24 2176 → Post tb e args s (.returned v) u) :
    ArmFor flags0 classFile x code maxLocals ret World_1 tables_1 room_1 Calls_1 rest_1 Pre_1 Post := by
  intro l hfl _ _ p e ha hc hk s m args below hf hA hF happ hP
  obtain ⟨hcalls, hrest, hpre⟩ := hP
  obtain ⟨-, -, -, hnamed, -, -, -, hat⟩ := (Spec.applies_iff hf).mp happ
  obtain ⟨hg, hn⟩ := and_e (Cond.before_iff.mp (show (Jvm.Cond.and given_1 narrow_1).before args s = true from hpre))
  obtain ⟨gg2, gg3⟩ := and_e hg
  obtain ⟨gg4, gg5⟩ := and_e gg3
  obtain ⟨gg6, gg7⟩ := and_e gg5
  obtain ⟨w0, w1, w2, rfl⟩ : ∃ w0 w1 w2 : Value, args = #[w0, w1, w2] := by
    have hs : args.size = 3 := by simpa [Cond.value, given_1] using gg2
    obtain ⟨L⟩ := args
    match L, hs with
    | [w0, w1, w2], _ => exact ⟨w0, w1, w2, rfl⟩
  have hw := fun d (hd : d ∈ tables_1) => atoms_spec (ws := Jvm.Cond.code x code maxLocals ret :: tables_1) hat d (List.mem_cons_of_mem _ hd)
  have hfit : Fit s := fun {y c} hc i hi => by
    obtain ⟨ha, rfl⟩ := Array.getElem?_eq_some_iff.mp hc
    have q := List.all_eq_true.mp ((Array.all_eq_true_iff_forall_mem.mp hF) _ (Array.getElem_mem ha)) i (List.mem_range.mpr hi)
    simpa [Array.getElem?_eq_getElem hi] using q
  obtain ⟨i0, ei0⟩ := is_v gg4
  obtain rfl : w0 = (.int i0) := Option.some.inj ei0
  obtain ⟨i1, ei1⟩ := is_v gg6
  obtain rfl : w1 = (.int i1) := Option.some.inj ei1
  obtain ⟨i2, ei2⟩ := is_v gg7
  obtain rfl : w2 = (.int i2) := Option.some.inj ei2
  obtain ⟨n, o, h1, h2, h3, _, L, rfl, ⟨rfl, N⟩, hq⟩ := rm0 l s _ hw i0 i1 i2 s.heap s.heap.size (Nat.le_refl _) tables_1 p e ha hc hk s m _ below hf ((Spec.applies_iff_loose hf).mp happ).1 ⟨rfl, State.Warmed39.refl s, rfl⟩ trivial
  refine ⟨n, _, h1, h2, h3, hpost _ _ _ _ _ _ ⟨Cond.after_iff.mpr rfl, Cond.after_iff.mpr (eq_i res_at (Term.int_eval (1)) rfl), trivial⟩ ⟨hq.1, hq.2.1, hq.2.2.1, (hq.2.2.2.sift fun y hy => Or.inr (N y hy)).mono (by decide) (by decide)⟩⟩
theorem main_1_1 : Claimed_1_1 := comes_1 fun _ _ _ _ _ _ h hF => ⟨h.1, hF⟩
theorem main_1_2 : Claimed_1_2 := comes_1 fun _ _ _ _ _ _ h hF => ⟨h.2.1, hF⟩
end Jvm.Pilot.@@N@@
namespace Jvm.Pilot.@@N@@
open Jvm Jvm.ClassFile Sem Op Lib Jvm.Free Jvm.Stand Jvm.Pilot.@@N@@.Jvm.D
/-! MADE BY PROGRAM (witnessworld.py) out of the Statement's table words and the real class files: 15 classes; the members and pool entries that the words name. The judged class is class 1, her method 1. -/
namespace start1
open Jvm.ClassFile
def u (s : String) : CpInfo := .utf8 (stringToUtf16 s)
/-- a pool by its gaps: so many unusable entries, then the entry; so many at the end -/
def gap : Nat → List CpInfo → List CpInfo
  | 0, r => r
  | n + 1, r => .unusable :: gap n r
def poolList (es : List (Nat × CpInfo)) (last : Nat) : List CpInfo := es.foldr (fun e r => gap e.1 (e.2 :: r)) (gap last [])
def pool (es : List (Nat × CpInfo)) (last : Nat) : Array CpInfo := ⟨poolList es last⟩
def fileOf (pool : Array CpInfo) (this : Nat) (attrs : Array Attribute := #[]) (ms : Array MethodInfo := #[]) (fl : Nat := 33) (sup : Nat := 0) (ifs : Array Nat := #[]) (fds : Array FieldInfo := #[]) : ClassFile where
  minorVersion := 0
  majorVersion := 65
  constantPool := pool
  accessFlags := fl
  thisClass := this
  superClass := sup
  interfaces := ifs
  fields := fds
  methods := ms
  attributes := attrs
def plain (name : String) (sup : Option ClassId) : Class where
  name := name
  kind := .ordinary
  loader := none
  accessFlags := 33
  super := sup
  interfaces := #[]
  cf := none
  fields := #[]
  methods := #[]
  instanceTypes := #[]
  staticTypes := #[]
  resolved := #[]
  callSites := []
  init := .initialized
  statics := none
  mirror := none

def pool0 : Array CpInfo := pool [(5, u "<init>"), (0, u "()V"), (1, .class_ 10), (1, u "java/lang/Object")] 113

def k0c0 : Code := { maxStack := 0, maxLocals := 1, code := object_method_1_code, exceptionTable := #[], attributes := #[] }
def k0m0 : Method := { name := "<init>", desc := "()V", sig := { parameters := [], returnType := none }, accessFlags := 1, code := some k0c0 }
/-- java/lang/Object -/
def k0 : Class := { plain "java/lang/Object" none with
  accessFlags := 33
  interfaces := #[]
  cf := some (fileOf pool0 8 #[] #[{ accessFlags := 1, nameIndex := 5, descriptorIndex := 6, attributes := #[] }] 33 0 #[] #[])
  fields := #[]
  methods := #[k0m0]
  instanceTypes := #[]
  staticTypes := #[]
  resolved := Array.replicate 124 none
  statics := none }

def pool1 : Array CpInfo := pool [(2, .class_ 4), (1, u "java/lang/Object"), (0, u "<init>"), (0, u "()V"), (0, .class_ 8), (0, u "com/example/pathwarden/pathwarden/util/DerReader"), (0, .methodref 7 10), (0, .nameAndType 5 11), (0, u "([B)V"), (0, .methodref 7 13), (0, .nameAndType 14 15), (0, u "next"), (0, u "()Lcom/example/pathwarden/pathwarden/util/DerReader$Element;"), (0, .methodref 7 17), (0, .nameAndType 18 19), (0, u "nextIs"), (0, u "(I)Z"), (0, .methodref 7 21), (0, .nameAndType 22 23), (0, u "hasNext"), (0, u "()Z"), (0, .class_ 25), (0, u "com/example/pathwarden/pathwarden/util/DerReaderNextIsPinLaw"), (2, u "law"), (0, u "(III)Z")] 12

def k1m0 : Method := { name := "<init>", desc := "()V", sig := { parameters := [], returnType := none }, accessFlags := 1, code := none }
def k1c1 : Code := { maxStack := 4, maxLocals := 12, code := code, exceptionTable := #[], attributes := #[] }
def k1m1 : Method := { name := "law", desc := "(III)Z", sig := { parameters := [.int, .int, .int], returnType := some .boolean }, accessFlags := 9, code := some k1c1 }
/-- com/example/pathwarden/pathwarden/util/DerReaderNextIsPinLaw -/
def k1 : Class := { plain "com/example/pathwarden/pathwarden/util/DerReaderNextIsPinLaw" (some 0) with
  accessFlags := 49
  interfaces := #[]
  cf := some (fileOf pool1 24 #[] #[{ accessFlags := 1, nameIndex := 5, descriptorIndex := 6, attributes := #[] }, { accessFlags := 9, nameIndex := 28, descriptorIndex := 29, attributes := #[] }] 49 2 #[] #[])
  fields := #[]
  methods := #[k1m0, k1m1]
  instanceTypes := #[]
  staticTypes := #[]
  resolved := Array.replicate 42 none
  statics := none }

def pool2 : Array CpInfo := pool [(1, .methodref 2 3), (0, .class_ 4), (0, .nameAndType 5 6), (0, u "com/example/pathwarden/pathwarden/util/DerReader"), (0, u "<init>"), (0, u "([BII)V"), (0, .methodref 8 9), (0, .class_ 10), (0, .nameAndType 5 11), (0, u "java/lang/Object"), (0, u "()V"), (0, .fieldref 2 13), (0, .nameAndType 14 15), (0, u "bytes"), (0, u "[B"), (0, .fieldref 2 17), (0, .nameAndType 18 19), (0, u "position"), (0, u "I"), (0, .fieldref 2 21), (0, .nameAndType 22 19), (0, u "end"), (0, .methodref 2 24), (0, .nameAndType 25 26), (0, u "hasNext"), (0, u "()Z"), (0, .string 28), (0, u "a tag"), (0, .methodref 2 30), (0, .nameAndType 31 32), (0, u "octet"), (0, u "(Ljava/lang/String;)I"), (7, .string 41), (0, u "a length"), (0, .long 128), (15, .class_ 59), (0, u "com/example/pathwarden/pathwarden/util/DerReader$Element"), (0, .methodref 58 61), (0, .nameAndType 5 62), (0, u "([BIIII)V"), (2, u "next"), (0, u "()Lcom/example/pathwarden/pathwarden/util/DerReader$Element;"), (31, u "FIRST_ARC_FACTOR"), (0, u "Ljava/math/BigInteger;"), (0, u "MAX_OBJECT_IDENTIFIER_LENGTH"), (2, u "INTEGER"), (1, u "OCTET_STRING"), (1, u "OBJECT_IDENTIFIER"), (1, u "SEQUENCE"), (1, u "SET"), (1, u "HIGH_TAG_NUMBER"), (1, u "LONG_FORM"), (1, u "MORE_OCTETS"), (0, u "FIRST_BIT"), (0, u "([B)V"), (3, u "nextIs"), (0, u "(I)Z")] 27

def k2c0 : Code := { maxStack := 4, maxLocals := 2, code := prog_57_method_1_code, exceptionTable := #[], attributes := #[] }
def k2m0 : Method := { name := "<init>", desc := "([B)V", sig := { parameters := [(.array .byte)], returnType := none }, accessFlags := 1, code := some k2c0 }
def k2c1 : Code := { maxStack := 2, maxLocals := 4, code := prog_57_method_2_code, exceptionTable := #[], attributes := #[] }
def k2m1 : Method := { name := "<init>", desc := "([BII)V", sig := { parameters := [(.array .byte), .int, .int], returnType := none }, accessFlags := 2, code := some k2c1 }
def k2c2 : Code := { maxStack := 2, maxLocals := 1, code := prog_57_method_3_code, exceptionTable := #[], attributes := #[] }
def k2m2 : Method := { name := "hasNext", desc := "()Z", sig := { parameters := [], returnType := some .boolean }, accessFlags := 1, code := some k2c2 }
def k2c3 : Code := { maxStack := 2, maxLocals := 2, code := prog_57_method_4_code, exceptionTable := #[], attributes := #[] }
def k2m3 : Method := { name := "nextIs", desc := "(I)Z", sig := { parameters := [.int], returnType := some .boolean }, accessFlags := 1, code := some k2c3 }
def k2c4 : Code := { maxStack := 7, maxLocals := 7, code := prog_57_method_5_code, exceptionTable := #[], attributes := #[] }
def k2m4 : Method := { name := "next", desc := "()Lcom/example/pathwarden/pathwarden/util/DerReader$Element;", sig := { parameters := [], returnType := some (.object "com/example/pathwarden/pathwarden/util/DerReader$Element") }, accessFlags := 1, code := some k2c4 }
def k2c5 : Code := { maxStack := 5, maxLocals := 2, code := prog_57_method_8_code, exceptionTable := #[], attributes := #[] }
def k2m5 : Method := { name := "octet", desc := "(Ljava/lang/String;)I", sig := { parameters := [(.object "java/lang/String")], returnType := some .int }, accessFlags := 2, code := some k2c5 }
/-- com/example/pathwarden/pathwarden/util/DerReader -/
def k2 : Class := { plain "com/example/pathwarden/pathwarden/util/DerReader" (some 0) with
  accessFlags := 49
  interfaces := #[]
  cf := some (fileOf pool2 2 #[.nestMembers #[58]] #[{ accessFlags := 1, nameIndex := 5, descriptorIndex := 119, attributes := #[] }, { accessFlags := 2, nameIndex := 5, descriptorIndex := 6, attributes := #[] }, { accessFlags := 1, nameIndex := 25, descriptorIndex := 26, attributes := #[] }, { accessFlags := 1, nameIndex := 123, descriptorIndex := 124, attributes := #[] }, { accessFlags := 1, nameIndex := 65, descriptorIndex := 66, attributes := #[] }, { accessFlags := 2, nameIndex := 31, descriptorIndex := 32, attributes := #[] }] 49 8 #[] #[{ accessFlags := 25, nameIndex := 100, descriptorIndex := 19, attributes := #[] }, { accessFlags := 25, nameIndex := 103, descriptorIndex := 19, attributes := #[] }, { accessFlags := 25, nameIndex := 105, descriptorIndex := 19, attributes := #[] }, { accessFlags := 25, nameIndex := 107, descriptorIndex := 19, attributes := #[] }, { accessFlags := 25, nameIndex := 109, descriptorIndex := 19, attributes := #[] }, { accessFlags := 25, nameIndex := 111, descriptorIndex := 19, attributes := #[] }, { accessFlags := 26, nameIndex := 113, descriptorIndex := 19, attributes := #[] }, { accessFlags := 26, nameIndex := 115, descriptorIndex := 19, attributes := #[] }, { accessFlags := 26, nameIndex := 117, descriptorIndex := 19, attributes := #[] }, { accessFlags := 26, nameIndex := 118, descriptorIndex := 19, attributes := #[] }, { accessFlags := 26, nameIndex := 98, descriptorIndex := 99, attributes := #[] }, { accessFlags := 18, nameIndex := 14, descriptorIndex := 15, attributes := #[] }, { accessFlags := 18, nameIndex := 22, descriptorIndex := 19, attributes := #[] }, { accessFlags := 2, nameIndex := 18, descriptorIndex := 19, attributes := #[] }])
  fields := #[{ name := "MAX_OBJECT_IDENTIFIER_LENGTH", type := .int, accessFlags := 25, slot := 0, constantValue := 0 }, { name := "INTEGER", type := .int, accessFlags := 25, slot := 1, constantValue := 0 }, { name := "OCTET_STRING", type := .int, accessFlags := 25, slot := 2, constantValue := 0 }, { name := "OBJECT_IDENTIFIER", type := .int, accessFlags := 25, slot := 3, constantValue := 0 }, { name := "SEQUENCE", type := .int, accessFlags := 25, slot := 4, constantValue := 0 }, { name := "SET", type := .int, accessFlags := 25, slot := 5, constantValue := 0 }, { name := "HIGH_TAG_NUMBER", type := .int, accessFlags := 26, slot := 6, constantValue := 0 }, { name := "LONG_FORM", type := .int, accessFlags := 26, slot := 7, constantValue := 0 }, { name := "MORE_OCTETS", type := .int, accessFlags := 26, slot := 8, constantValue := 0 }, { name := "FIRST_BIT", type := .int, accessFlags := 26, slot := 9, constantValue := 0 }, { name := "FIRST_ARC_FACTOR", type := (.object "java/math/BigInteger"), accessFlags := 26, slot := 10, constantValue := 0 }, { name := "bytes", type := (.array .byte), accessFlags := 18, slot := 0, constantValue := 0 }, { name := "end", type := .int, accessFlags := 18, slot := 1, constantValue := 0 }, { name := "position", type := .int, accessFlags := 2, slot := 2, constantValue := 0 }]
  methods := #[k2m0, k2m1, k2m2, k2m3, k2m4, k2m5]
  instanceTypes := #[(.array .byte), .int, .int]
  staticTypes := #[.int, .int, .int, .int, .int, .int, .int, .int, .int, .int, (.object "java/math/BigInteger")]
  resolved := ((Array.replicate 152 none).setIfInBounds 58 (some (.cls 9))).setIfInBounds 60 (some (.method ⟨9, 0⟩))
  statics := none }

def pool3 : Array CpInfo := pool [(1, .class_ 2), (0, u "java/io/Serializable"), (0, .class_ 4), (0, u "java/lang/Object")] 2

/-- java/io/Serializable -/
def k3 : Class := { plain "java/io/Serializable" (some 0) with
  accessFlags := 1537
  interfaces := #[]
  cf := some (fileOf pool3 1 #[] #[] 1537 3 #[] #[])
  fields := #[]
  methods := #[]
  instanceTypes := #[]
  staticTypes := #[]
  resolved := Array.replicate 7 none
  statics := none }

def pool4 : Array CpInfo := pool [(1, .class_ 2), (0, u "java/lang/Comparable"), (0, .class_ 4), (0, u "java/lang/Object")] 7

/-- java/lang/Comparable -/
def k4 : Class := { plain "java/lang/Comparable" (some 0) with
  accessFlags := 1537
  interfaces := #[]
  cf := some (fileOf pool4 1 #[] #[] 1537 3 #[] #[])
  fields := #[]
  methods := #[]
  instanceTypes := #[]
  staticTypes := #[]
  resolved := Array.replicate 12 none
  statics := none }

def pool5 : Array CpInfo := pool [(2, .class_ 4), (1, u "java/lang/CharSequence"), (42, .class_ 48), (0, u "java/lang/CharSequence$1CodePointIterator"), (10, .class_ 60), (0, u "java/lang/CharSequence$1CharIterator"), (5, .class_ 67), (0, u "java/lang/Object")] 63

/-- java/lang/CharSequence -/
def k5 : Class := { plain "java/lang/CharSequence" (some 0) with
  accessFlags := 1537
  interfaces := #[]
  cf := some (fileOf pool5 2 #[.nestMembers #[47, 59]] #[] 1537 66 #[] #[])
  fields := #[]
  methods := #[]
  instanceTypes := #[]
  staticTypes := #[]
  resolved := Array.replicate 131 none
  statics := none }

def pool6 : Array CpInfo := pool [(1, .class_ 2), (0, u "java/lang/constant/Constable"), (0, .class_ 4), (0, u "java/lang/Object")] 6

/-- java/lang/constant/Constable -/
def k6 : Class := { plain "java/lang/constant/Constable" (some 0) with
  accessFlags := 1537
  interfaces := #[]
  cf := some (fileOf pool6 1 #[] #[] 1537 3 #[] #[])
  fields := #[]
  methods := #[]
  instanceTypes := #[]
  staticTypes := #[]
  resolved := Array.replicate 11 none
  statics := none }

def pool7 : Array CpInfo := pool [(1, .class_ 2), (0, u "java/lang/constant/ConstantDesc"), (0, .class_ 4), (0, u "java/lang/Object")] 32

/-- java/lang/constant/ConstantDesc -/
def k7 : Class := { plain "java/lang/constant/ConstantDesc" (some 0) with
  accessFlags := 1537
  interfaces := #[]
  cf := some (fileOf pool7 1 #[] #[] 1537 3 #[] #[])
  fields := #[]
  methods := #[]
  instanceTypes := #[]
  staticTypes := #[]
  resolved := Array.replicate 37 none
  statics := none }

def pool8 : Array CpInfo := pool [(2, .class_ 4), (1, u "java/lang/Object"), (0, u "<init>"), (0, u "()V"), (3, .class_ 12), (1, u "java/lang/String"), (0, u "value"), (0, u "[B"), (2, u "coder"), (0, u "B"), (2, u "hash"), (0, u "I"), (2, u "hashIsZero"), (0, u "Z"), (13, u "COMPACT_STRINGS"), (534, .class_ 576), (0, u "java/lang/CharSequence"), (22, u "CASE_INSENSITIVE_ORDER"), (0, u "Ljava/util/Comparator;"), (500, u "serialPersistentFields"), (0, u "[Ljava/io/ObjectStreamField;"), (0, .class_ 1104), (0, u "java/lang/String$CaseInsensitiveComparator"), (1, .class_ 1107), (0, u "java/io/Serializable"), (0, .class_ 1109), (0, u "java/lang/Comparable"), (0, .class_ 1111), (0, u "java/lang/constant/Constable"), (0, .class_ 1113), (0, u "java/lang/constant/ConstantDesc"), (2, u "serialVersionUID"), (0, u "J"), (3, u "REPL"), (0, u "C"), (2, u "LATIN1"), (1, u "UTF16")] 323

def k8m0 : Method := { name := "<init>", desc := "()V", sig := { parameters := [], returnType := none }, accessFlags := 1, code := none }
/-- java/lang/String -/
def k8 : Class := { plain "java/lang/String" (some 0) with
  accessFlags := 49
  interfaces := #[3, 4, 5, 6, 7]
  cf := some (fileOf pool8 10 #[.nestMembers #[1103]] #[{ accessFlags := 1, nameIndex := 5, descriptorIndex := 6, attributes := #[] }] 49 2 #[1106, 1108, 575, 1110, 1112] #[{ accessFlags := 18, nameIndex := 13, descriptorIndex := 14, attributes := #[] }, { accessFlags := 18, nameIndex := 17, descriptorIndex := 18, attributes := #[] }, { accessFlags := 2, nameIndex := 21, descriptorIndex := 22, attributes := #[] }, { accessFlags := 2, nameIndex := 25, descriptorIndex := 26, attributes := #[] }, { accessFlags := 26, nameIndex := 1116, descriptorIndex := 1117, attributes := #[] }, { accessFlags := 24, nameIndex := 40, descriptorIndex := 26, attributes := #[] }, { accessFlags := 26, nameIndex := 1101, descriptorIndex := 1102, attributes := #[] }, { accessFlags := 26, nameIndex := 1121, descriptorIndex := 1122, attributes := #[] }, { accessFlags := 25, nameIndex := 599, descriptorIndex := 600, attributes := #[] }, { accessFlags := 24, nameIndex := 1125, descriptorIndex := 18, attributes := #[] }, { accessFlags := 24, nameIndex := 1127, descriptorIndex := 18, attributes := #[] }])
  fields := #[{ name := "value", type := (.array .byte), accessFlags := 18, slot := 0, constantValue := 0 }, { name := "coder", type := .byte, accessFlags := 18, slot := 1, constantValue := 0 }, { name := "hash", type := .int, accessFlags := 2, slot := 2, constantValue := 0 }, { name := "hashIsZero", type := .boolean, accessFlags := 2, slot := 3, constantValue := 0 }, { name := "serialVersionUID", type := .long, accessFlags := 26, slot := 0, constantValue := 0 }, { name := "COMPACT_STRINGS", type := .boolean, accessFlags := 24, slot := 1, constantValue := 0 }, { name := "serialPersistentFields", type := (.array (.object "java/io/ObjectStreamField")), accessFlags := 26, slot := 2, constantValue := 0 }, { name := "REPL", type := .char, accessFlags := 26, slot := 3, constantValue := 0 }, { name := "CASE_INSENSITIVE_ORDER", type := (.object "java/util/Comparator"), accessFlags := 25, slot := 4, constantValue := 0 }, { name := "LATIN1", type := .byte, accessFlags := 24, slot := 5, constantValue := 0 }, { name := "UTF16", type := .byte, accessFlags := 24, slot := 6, constantValue := 0 }]
  methods := #[k8m0]
  instanceTypes := #[(.array .byte), .byte, .int, .boolean]
  staticTypes := #[.long, .boolean, (.array (.object "java/io/ObjectStreamField")), .char, (.object "java/util/Comparator"), .byte, .byte]
  resolved := Array.replicate 1451 none
  statics := none }

def pool9 : Array CpInfo := pool [(1, .class_ 2), (0, u "com/example/pathwarden/pathwarden/util/DerReader"), (0, .methodref 4 5), (0, .class_ 6), (0, .nameAndType 7 8), (0, u "java/lang/Object"), (0, u "<init>"), (0, u "()V"), (0, .fieldref 10 11), (0, .class_ 12), (0, .nameAndType 13 14), (0, u "com/example/pathwarden/pathwarden/util/DerReader$Element"), (0, u "bytes"), (0, u "[B"), (0, .fieldref 10 16), (0, .nameAndType 17 18), (0, u "tag"), (0, u "I"), (0, .fieldref 10 20), (0, .nameAndType 21 18), (0, u "start"), (0, .fieldref 10 23), (0, .nameAndType 24 18), (0, u "contents"), (0, .fieldref 10 26), (0, .nameAndType 27 18), (0, u "end"), (95, u "([BIIII)V")] 36

def k9c0 : Code := { maxStack := 2, maxLocals := 6, code := prog_58_method_1_code, exceptionTable := #[], attributes := #[] }
def k9m0 : Method := { name := "<init>", desc := "([BIIII)V", sig := { parameters := [(.array .byte), .int, .int, .int, .int], returnType := none }, accessFlags := 2, code := some k9c0 }
/-- com/example/pathwarden/pathwarden/util/DerReader$Element -/
def k9 : Class := { plain "com/example/pathwarden/pathwarden/util/DerReader$Element" (some 0) with
  accessFlags := 49
  interfaces := #[]
  cf := some (fileOf pool9 10 #[.nestHost 1] #[{ accessFlags := 2, nameIndex := 7, descriptorIndex := 123, attributes := #[] }] 49 4 #[] #[{ accessFlags := 18, nameIndex := 13, descriptorIndex := 14, attributes := #[] }, { accessFlags := 18, nameIndex := 17, descriptorIndex := 18, attributes := #[] }, { accessFlags := 18, nameIndex := 21, descriptorIndex := 18, attributes := #[] }, { accessFlags := 18, nameIndex := 24, descriptorIndex := 18, attributes := #[] }, { accessFlags := 18, nameIndex := 27, descriptorIndex := 18, attributes := #[] }])
  fields := #[{ name := "bytes", type := (.array .byte), accessFlags := 18, slot := 0, constantValue := 0 }, { name := "tag", type := .int, accessFlags := 18, slot := 1, constantValue := 0 }, { name := "start", type := .int, accessFlags := 18, slot := 2, constantValue := 0 }, { name := "contents", type := .int, accessFlags := 18, slot := 3, constantValue := 0 }, { name := "end", type := .int, accessFlags := 18, slot := 4, constantValue := 0 }]
  methods := #[k9m0]
  instanceTypes := #[(.array .byte), .int, .int, .int, .int]
  staticTypes := #[]
  resolved := Array.replicate 160 none
  statics := none }

def pool10 : Array CpInfo := pool [(1, u "java/lang/Cloneable"), (0, .class_ 1), (0, u "java/lang/Object"), (0, .class_ 3)] 3

/-- java/lang/Cloneable -/
def k10 : Class := { plain "java/lang/Cloneable" (some 0) with
  accessFlags := 1537
  interfaces := #[]
  cf := some (fileOf pool10 2 #[] #[] 1537 4 #[] #[])
  fields := #[]
  methods := #[]
  instanceTypes := #[]
  staticTypes := #[]
  resolved := Array.replicate 8 none
  statics := none }

/-- the primitive byte -/
def k11 : Class := { plain "byte" none with kind := .primitive 'B', accessFlags := 0x411 }
/-- [B -/
def k12 : Class := { plain "[B" (some 0) with kind := .array 11 .byte, interfaces := #[10, 3], accessFlags := 1041 }

/-- the primitive int -/
def k13 : Class := { plain "int" none with kind := .primitive 'I', accessFlags := 0x411 }
/-- [I -/
def k14 : Class := { plain "[I" (some 0) with kind := .array 13 .int, interfaces := #[10, 3], accessFlags := 1041 }

def heap : Heap := #[]
def classes : Array Class := #[k0, k1, k2, k3, k4, k5, k6, k7, k8, k9, k10, k11, k12, k13, k14]
def interned : List (Array UInt16 × Addr) := []
def slotsUsed : Nat := 0
def theMethod : MethodId := ⟨1, 1⟩
def args0 : Array Value := #[.int 5, .int 65, .int 1]
def aboutOver (below : List Frame) : State where
  vm := { classes := classes, interned := interned.toArray }
  heap := heap
  slotsUsed := slotsUsed
  threads := #[{ frames := .invoking theMethod args0 :: below }]
def below0 : List Frame := [.native { method := ⟨0, 0⟩, args := #[] }]
def about1 : State := aboutOver below0
def p0 : Program := .bare "" "" ""
def e0 : Env := launch0.env 0 0 0
theorem w_frames : about1.frames = Frame.invoking theMethod args0 :: below0 := rfl
set_option maxRecDepth 65536 in
theorem w_args : argsFit about1.vm theMethod args0 = true := by decide +kernel
set_option maxRecDepth 65536 in
theorem w_heap : heapFits about1 = true := by decide +kernel
set_option maxRecDepth 65536 in
theorem w_runnable : about1.curStatus? = some .runnable := by decide +kernel
set_option maxRecDepth 65536 in
theorem w_alone : about1.alone = true := by decide +kernel
set_option maxRecDepth 65536 in
theorem w_named : about1.methodNamed? x = some theMethod := by decide +kernel
set_option maxRecDepth 65536 in
theorem w_hears : about1.hears theMethod below0 = true := by decide +kernel
set_option maxRecDepth 65536 in
theorem w_ripe : about1.ripe theMethod args0 below0 = true := by decide +kernel
theorem w_running : about1.status = .running := rfl
set_option maxRecDepth 65536 in
theorem w_room : about1.hasRoom e0.platform room_1 = true :=
  launch0.hasRoom_least _ room_1 (by decide +kernel) (by decide +kernel) (by decide +kernel) (by decide +kernel) (by decide +kernel) (by decide +kernel)
theorem allAtoms_all (ts : List Jvm.Cond) (a : Array Jvm.Value) (st : Jvm.State) : (allAtoms ts).before a st = ts.all (fun c => c.before a st) := by
  induction ts with
  | nil => rfl
  | cons c t ih =>
    show (Jvm.Cond.and c (allAtoms t)).before a st = _
    rw [Jvm.Cond.before_and, ih, List.all_cons]
def words1 : List Jvm.Cond := Jvm.Cond.code x code maxLocals ret :: tables_1
/-- a 'code' word, met by the world's own term for the bytes: nothing is compared byte by byte -/
theorem code_word {y : MethodName} {bytes : ByteArray} {mx : Nat} {rt : Option FieldType} {a : Array Value} {s : State} {m : MethodId} {meth : Method} {c : Code} (h1 : s.methodNamed? y = some m) (h2 : s.vm.method? m = some meth) (h3 : meth.code = some c) (h4 : c.code = bytes)
    (h5 : (c.maxLocals == mx && c.exceptionTable.isEmpty && decide (c.maxStack ≤ mostOperands) && decide (meth.sig.returnType = rt) && !meth.locks && decide (parseMethodDescriptor y.desc = some meth.sig)) = true) : (Jvm.Cond.code y bytes mx rt).before a s = true := by
  simp only [Bool.and_eq_true, beq_iff_eq, Bool.not_eq_true', decide_eq_true_eq] at h5
  obtain ⟨⟨⟨⟨⟨g1, g2⟩, g3⟩, g4⟩, g5⟩, g6⟩ := h5
  simp [Cond.before, Cond.holds, Cond.value, h1, h2, h3, h4, g1, g2, g3, g4, g5, g6]
def isCode : Jvm.Cond → Bool
  | .code _ _ _ _ => true
  | _ => false
theorem all_split {L : List Jvm.Cond} {P : Jvm.Cond → Bool} (h1 : L.all (fun c => isCode c || P c) = true) (h2 : ∀ c ∈ L.filter isCode, P c = true) : L.all P = true := by
  refine List.all_eq_true.mpr fun c hc => ?_
  have h := List.all_eq_true.mp h1 c hc
  rcases Bool.eq_false_or_eq_true (isCode c) with hi | hi
  · exact h2 c (List.mem_filter.mpr ⟨hc, hi⟩)
  · simpa [hi] using h
set_option maxRecDepth 65536 in
theorem w_c0 : (Jvm.Cond.code x code maxLocals ret).before args0 about1 = true := code_word (m := ⟨1, 1⟩) (meth := k1m1) (c := k1c1) (by decide +kernel) rfl rfl rfl (by decide +kernel)
set_option maxRecDepth 65536 in
theorem w_c1 : (Jvm.Cond.code ({ cls := "com/example/pathwarden/pathwarden/util/DerReader", name := "<init>", desc := "([B)V" } : Jvm.MethodName) prog_57_method_1_code (2 : Nat) (Option.none : Option Jvm.ClassFile.FieldType)).before args0 about1 = true := code_word (m := ⟨2, 0⟩) (meth := k2m0) (c := k2c0) (by decide +kernel) rfl rfl rfl (by decide +kernel)
set_option maxRecDepth 65536 in
theorem w_c2 : (Jvm.Cond.code ({ cls := "com/example/pathwarden/pathwarden/util/DerReader", name := "<init>", desc := "([BII)V" } : Jvm.MethodName) prog_57_method_2_code (4 : Nat) (Option.none : Option Jvm.ClassFile.FieldType)).before args0 about1 = true := code_word (m := ⟨2, 1⟩) (meth := k2m1) (c := k2c1) (by decide +kernel) rfl rfl rfl (by decide +kernel)
set_option maxRecDepth 65536 in
theorem w_c3 : (Jvm.Cond.code ({ cls := "java/lang/Object", name := "<init>", desc := "()V" } : Jvm.MethodName) object_method_1_code (1 : Nat) (Option.none : Option Jvm.ClassFile.FieldType)).before args0 about1 = true := code_word (m := ⟨0, 0⟩) (meth := k0m0) (c := k0c0) (by decide +kernel) rfl rfl rfl (by decide +kernel)
set_option maxRecDepth 65536 in
theorem w_c4 : (Jvm.Cond.code ({ cls := "com/example/pathwarden/pathwarden/util/DerReader", name := "nextIs", desc := "(I)Z" } : Jvm.MethodName) prog_57_method_4_code (2 : Nat) (Option.some Jvm.ClassFile.FieldType.boolean)).before args0 about1 = true := code_word (m := ⟨2, 3⟩) (meth := k2m3) (c := k2c3) (by decide +kernel) rfl rfl rfl (by decide +kernel)
set_option maxRecDepth 65536 in
theorem w_c5 : (Jvm.Cond.code ({ cls := "com/example/pathwarden/pathwarden/util/DerReader", name := "hasNext", desc := "()Z" } : Jvm.MethodName) prog_57_method_3_code (1 : Nat) (Option.some Jvm.ClassFile.FieldType.boolean)).before args0 about1 = true := code_word (m := ⟨2, 2⟩) (meth := k2m2) (c := k2c2) (by decide +kernel) rfl rfl rfl (by decide +kernel)
set_option maxRecDepth 65536 in
theorem w_c6 : (Jvm.Cond.code ({ cls := "com/example/pathwarden/pathwarden/util/DerReader", name := "next", desc := "()Lcom/example/pathwarden/pathwarden/util/DerReader$Element;" } : Jvm.MethodName) prog_57_method_5_code (7 : Nat) (Option.some (Jvm.ClassFile.FieldType.object "com/example/pathwarden/pathwarden/util/DerReader$Element"))).before args0 about1 = true := code_word (m := ⟨2, 4⟩) (meth := k2m4) (c := k2c4) (by decide +kernel) rfl rfl rfl (by decide +kernel)
set_option maxRecDepth 65536 in
theorem w_c7 : (Jvm.Cond.code ({ cls := "com/example/pathwarden/pathwarden/util/DerReader", name := "octet", desc := "(Ljava/lang/String;)I" } : Jvm.MethodName) prog_57_method_8_code (2 : Nat) (Option.some Jvm.ClassFile.FieldType.int)).before args0 about1 = true := code_word (m := ⟨2, 5⟩) (meth := k2m5) (c := k2c5) (by decide +kernel) rfl rfl rfl (by decide +kernel)
set_option maxRecDepth 65536 in
theorem w_c8 : (Jvm.Cond.code ({ cls := "com/example/pathwarden/pathwarden/util/DerReader$Element", name := "<init>", desc := "([BIIII)V" } : Jvm.MethodName) prog_58_method_1_code (6 : Nat) (Option.none : Option Jvm.ClassFile.FieldType)).before args0 about1 = true := code_word (m := ⟨9, 0⟩) (meth := k9m0) (c := k9c0) (by decide +kernel) rfl rfl rfl (by decide +kernel)
def codes1 : List Jvm.Cond := [Jvm.Cond.code x code maxLocals ret, Jvm.Cond.code ({ cls := "com/example/pathwarden/pathwarden/util/DerReader", name := "<init>", desc := "([B)V" } : Jvm.MethodName) prog_57_method_1_code (2 : Nat) (Option.none : Option Jvm.ClassFile.FieldType), Jvm.Cond.code ({ cls := "com/example/pathwarden/pathwarden/util/DerReader", name := "<init>", desc := "([BII)V" } : Jvm.MethodName) prog_57_method_2_code (4 : Nat) (Option.none : Option Jvm.ClassFile.FieldType), Jvm.Cond.code ({ cls := "java/lang/Object", name := "<init>", desc := "()V" } : Jvm.MethodName) object_method_1_code (1 : Nat) (Option.none : Option Jvm.ClassFile.FieldType), Jvm.Cond.code ({ cls := "com/example/pathwarden/pathwarden/util/DerReader", name := "nextIs", desc := "(I)Z" } : Jvm.MethodName) prog_57_method_4_code (2 : Nat) (Option.some Jvm.ClassFile.FieldType.boolean), Jvm.Cond.code ({ cls := "com/example/pathwarden/pathwarden/util/DerReader", name := "hasNext", desc := "()Z" } : Jvm.MethodName) prog_57_method_3_code (1 : Nat) (Option.some Jvm.ClassFile.FieldType.boolean), Jvm.Cond.code ({ cls := "com/example/pathwarden/pathwarden/util/DerReader", name := "next", desc := "()Lcom/example/pathwarden/pathwarden/util/DerReader$Element;" } : Jvm.MethodName) prog_57_method_5_code (7 : Nat) (Option.some (Jvm.ClassFile.FieldType.object "com/example/pathwarden/pathwarden/util/DerReader$Element")), Jvm.Cond.code ({ cls := "com/example/pathwarden/pathwarden/util/DerReader", name := "octet", desc := "(Ljava/lang/String;)I" } : Jvm.MethodName) prog_57_method_8_code (2 : Nat) (Option.some Jvm.ClassFile.FieldType.int), Jvm.Cond.code ({ cls := "com/example/pathwarden/pathwarden/util/DerReader$Element", name := "<init>", desc := "([BIIII)V" } : Jvm.MethodName) prog_58_method_1_code (6 : Nat) (Option.none : Option Jvm.ClassFile.FieldType)]
set_option maxRecDepth 65536 in
theorem codes_eq : words1.filter isCode = codes1 := rfl
theorem w_codes : ∀ c ∈ words1.filter isCode, c.before args0 about1 = true := by
  rw [codes_eq]
  intro c hc
  simp only [codes1, List.mem_cons, List.not_mem_nil, or_false] at hc
  rcases hc with rfl | rfl | rfl | rfl | rfl | rfl | rfl | rfl | rfl
  · exact w_c0
  · exact w_c1
  · exact w_c2
  · exact w_c3
  · exact w_c4
  · exact w_c5
  · exact w_c6
  · exact w_c7
  · exact w_c8
set_option maxRecDepth 65536 in
theorem w_t1 : (words1.take 24).all (fun c => isCode c || c.before args0 about1) = true := by decide +kernel
set_option maxRecDepth 65536 in
theorem w_t2 : ((words1.drop 24).take 24).all (fun c => isCode c || c.before args0 about1) = true := by decide +kernel
set_option maxRecDepth 65536 in
theorem w_t3 : ((words1.drop 24).drop 24).all (fun c => isCode c || c.before args0 about1) = true := by decide +kernel
theorem w_tables : (allAtoms (Jvm.Cond.code x code maxLocals ret :: tables_1)).before args0 about1 = true := by
  rw [allAtoms_all]
  show words1.all (fun c => c.before args0 about1) = true
  refine all_split ?_ w_codes
  rw [← List.take_append_drop 24 words1, List.all_append, w_t1, ← List.take_append_drop 24 (words1.drop 24), List.all_append, w_t2, w_t3]
  rfl
set_option maxRecDepth 65536 in
theorem w_case : (Jvm.Cond.and given_1 narrow_1).before args0 about1 = true := by decide +kernel
theorem w_applies : (headSpec (Jvm.Cond.code x code maxLocals ret :: tables_1) room_1).applies x e0.platform about1 = true :=
  (Spec.applies_iff w_frames).mpr ⟨w_running, w_runnable, w_alone, w_named, w_hears, w_ripe, w_room, w_tables⟩
theorem atStart : AtStart classFile x code maxLocals ret World_1 tables_1 room_1 Calls_1 rest_1 Pre_1 launch0 p0 e0 about1 theMethod args0 below0 :=
  ⟨lists_1, trivial, launch0.admits_env _ _ _, launch0.least_env, fairChoices_fair.cas, fairChoices_fair.clock, w_frames, w_args, w_heap, w_applies, trivial, trivial, w_case⟩
end start1
theorem witness_1 : WitnessClaimed_1 := ⟨start1.p0, start1.e0, start1.about1, start1.theMethod, start1.args0, start1.below0, start1.atStart⟩
end Jvm.Pilot.@@N@@
