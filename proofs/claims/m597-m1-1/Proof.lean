import JvmDerived
import JvmDerived.Pilot.@@N@@Statement
import JvmDerived.Pilot.@@N@@Code
set_option linter.unusedVariables false
set_option linter.unusedSimpArgs false
namespace Jvm.Pilot.@@N@@
open Jvm Jvm.ClassFile Sem Op Lib Jvm.Free Jvm.Stand Jvm.LawKit Jvm.RoadKit Bundle Jvm.Pilot.@@N@@.Jvm.D
section OwnKit
variable {p : Program} {l : Launch} {e : Env} {R : Room} {s : State} {m : MethodId} {args : Array Value} {below : List Frame} {meth : Method} {c : Code} {T T' : State} {locs : List Loc} {cells slots kc ks : Nat} {g g' : JFrame} {Q : Option Value → Heap → List Loc → Prop} {Z : State} {h h' : Heap} {a0 : Array Value} {En : Outcome → State → List Loc → Nat → Nat → Prop}
/-- from this frame the run comes to the method's end and leaves what Q says -/
def own_Out (p : Program) (e : Env) (below : List Frame) (En : Outcome → State → List Loc → Nat → Nat → Prop) (T : State) (g : JFrame) (Q : Option Value → Heap → List Loc → Prop) (kc ks : Nat) : Prop :=
  ∃ (t : State) (o : Outcome), Steps p.tables e below (T.setTop g) t ∧ t.status = .running ∧ Ended t below o ∧ ∃ (v : Option Value) (L : List Loc), o = .returned v ∧ Q v t.heap L ∧ En o t L kc ks
theorem own_to (st : ∀ t, Steps p.tables e below (T'.setTop g') t → Steps p.tables e below (T.setTop g) t) (k : own_Out p e below En T' g' Q kc ks) : own_Out p e below En T g Q kc ks := by
  obtain ⟨t, o, h1, h2⟩ := k
  exact ⟨t, o, st t h1, h2⟩
theorem own_cast (q : g = g') (k : own_Out p e below En T g' Q kc ks) : own_Out p e below En T g Q kc ks := q ▸ k
/-- a method's contract: called with these arguments over this heap it returns, and Q says what it leaves -/
def own_C (l : Launch) (Z : State) (y : MethodName) (bytes : ByteArray) (maxL : Nat) (ret : Option FieldType) (rm : Room) (as' : Array Value) (h0 : Heap) (Q : Option Value → Heap → List Loc → Prop) : Prop :=
  ∀ ws : List Jvm.Cond, MetFree l y (head1 (Jvm.Cond.code y bytes maxL ret :: ws) rm) (fun a U => a = as' ∧ Z.Warmed39 U.vm ∧ U.heap = h0) (fun _ _ _ _ _ => True) (fun _ U o U' => ∃ v L, o = .returned v ∧ Q v U'.heap L ∧ FrameEnd U o U' L rm.cells rm.slots)
theorem own_met {y : MethodName} {bytes : ByteArray} {maxL : Nat} {ret : Option FieldType} {rm : Room} {as' : Array Value} {h0 : Heap} (pl : plainFor y = true)
    (body : ∀ (p : Program) (e : Env) (s : State) (m : MethodId) (below : List Frame) (meth : Method) (c : Code) (s₁ : State), p.tables.exec = Jvm.exec → c.code = bytes → c.maxLocals = maxL → meth.sig.returnType = ret → meth.locks = false → s.vm.findClass y.cls = some m.cls → meth.name = y.name → Z.Warmed39 s.vm → Stand p l e rm s m as' below meth c s₁ [] 0 0 → s₁.heap = h0 → own_Out p e below (FrameEnd s) s₁ (entryFrame m as' maxL) Q rm.cells rm.slots) :
    own_C l Z y bytes maxL ret rm as' h0 Q := by
  intro ws
  refine MetFree.of_bodySF pl hisR ?_
  intro p e s m args below meth c s₁ Bd hml0 hP hK
  obtain ⟨rfl, hZ, hh⟩ := hP
  exact body p e s m below meth c s₁ Bd.exec Bd.bytes hml0 Bd.returns (BodyLoose.notSynchronized Bd) (findClass_of_methodNamed Bd.named) ((name_of_methodNamed Bd.named Bd.method).1) hZ (Stand.of_body Bd) (by rw [← hh, Bd.state]; rfl)
/-! returns -/
theorem own_retV (X : Stand p l e R s m args below meth c T locs cells slots) (hx : p.tables.exec = Jvm.exec) (hlk : meth.locks = false) {pc : Nat} {Ls : Array Slot} {w : Value} {t : FieldType} {i : Instr} {rest : List Value} (hret : meth.sig.returnType = some t) (hn : narrow t w = w)
    (hi : (i = .ireturn ∧ (t = .int ∨ t = .boolean ∨ t = .byte ∨ t = .char ∨ t = .short) ∧ ∃ z, w = .int z) ∨ (i = .lreturn ∧ t = .long ∧ ∃ z, w = .long z) ∨ (i = .dreturn ∧ t = .double ∧ ∃ z, w = .double z) ∨ (i = .freturn ∧ t = .float ∧ ∃ z, w = .float z) ∨ (i = .areturn ∧ t.isReference = true ∧ w.isRef = true))
    (hd : decode c.code pc = .ok (i, 1)) (hc : cells ≤ kc) (hs : slots ≤ ks) (hQ : Q (some w) T.heap locs) : own_Out p e below (FrameEnd s) T (mkF m pc Ls (w :: rest)) Q kc ks := by
  obtain ⟨fs, hr, hrun, hended, hW, hsame⟩ := X.leave (v := some w) (fun h => by rw [hret] at h; cases h) hlk
  exact ⟨_, _, retOut X hx hret hn hi hd hr, hrun, hended, _, _, rfl, hQ, ⟨_, rfl⟩, hW, hsame.mono hc hs⟩
theorem own_retI (X : Stand p l e R s m args below meth c T locs cells slots) (hx : p.tables.exec = Jvm.exec) (hlk : meth.locks = false) (hret : meth.sig.returnType = some .int) {pc : Nat} {Ls : Array Slot} {z : Int32} {rest : List Value}
    (hd : decode c.code pc = .ok (.ireturn, 1)) (hc : cells ≤ kc) (hs : slots ≤ ks) (hQ : Q (some (.int z)) T.heap locs) : own_Out p e below (FrameEnd s) T (mkF m pc Ls (.int z :: rest)) Q kc ks :=
  own_retV X hx hlk hret rfl (Or.inl ⟨rfl, Or.inl rfl, _, rfl⟩) hd hc hs hQ
theorem own_retJ (X : Stand p l e R s m args below meth c T locs cells slots) (hx : p.tables.exec = Jvm.exec) (hlk : meth.locks = false) (hret : meth.sig.returnType = some .long) {pc : Nat} {Ls : Array Slot} {z : Int64} {rest : List Value}
    (hd : decode c.code pc = .ok (.lreturn, 1)) (hc : cells ≤ kc) (hs : slots ≤ ks) (hQ : Q (some (.long z)) T.heap locs) : own_Out p e below (FrameEnd s) T (mkF m pc Ls (.long z :: rest)) Q kc ks :=
  own_retV X hx hlk hret rfl (Or.inr (Or.inl ⟨rfl, rfl, _, rfl⟩)) hd hc hs hQ
theorem own_retA (X : Stand p l e R s m args below meth c T locs cells slots) (hx : p.tables.exec = Jvm.exec) (hlk : meth.locks = false) {t : FieldType} (hret : meth.sig.returnType = some t) (ht : t.isReference = true) {pc : Nat} {Ls : Array Slot} {z : Addr} {rest : List Value}
    (hd : decode c.code pc = .ok (.areturn, 1)) (hc : cells ≤ kc) (hs : slots ≤ ks) (hQ : Q (some (.ref z)) T.heap locs) : own_Out p e below (FrameEnd s) T (mkF m pc Ls (.ref z :: rest)) Q kc ks :=
  own_retV X hx hlk hret (by cases t <;> rfl) (Or.inr (Or.inr (Or.inr (Or.inr ⟨rfl, ht, rfl⟩)))) hd hc hs hQ
/-- a boolean, byte, char or short: the value is narrowed -/
theorem own_retN (X : Stand p l e R s m args below meth c T locs cells slots) (hx : p.tables.exec = Jvm.exec) (hlk : meth.locks = false) {t : FieldType} (hret : meth.sig.returnType = some t) (ht : t = .boolean ∨ t = .byte ∨ t = .char ∨ t = .short) {pc : Nat} {Ls : Array Slot} {z : Int32} {rest : List Value}
    (hd : decode c.code pc = .ok (.ireturn, 1)) (hc : cells ≤ kc) (hs : slots ≤ ks) (hQ : Q (some (.int (nar t z))) T.heap locs) : own_Out p e below (FrameEnd s) T (mkF m pc Ls (.int z :: rest)) Q kc ks := by
  obtain ⟨fs, hr, hrun, hended, hW, hsame⟩ := X.leave (v := some (.int (nar t z))) (fun h => by rw [hret] at h; cases h) hlk
  exact ⟨_, _, retN X hx hret ht hd hr, hrun, hended, _, _, rfl, hQ, ⟨_, rfl⟩, hW, hsame.mono hc hs⟩
theorem own_ret0 (X : Stand p l e R s m args below meth c T locs cells slots) (hx : p.tables.exec = Jvm.exec) (hlk : meth.locks = false) (hret : meth.sig.returnType = none) {pc : Nat} {Ls : Array Slot}
    (hd : decode c.code pc = .ok (.return_, 1)) (hc : cells ≤ kc) (hs : slots ≤ ks) (hQ : Q none T.heap locs) : own_Out p e below (FrameEnd s) T (mkF m pc Ls []) Q kc ks := by
  obtain ⟨fs, hr, hrun, hended, hW, hsame⟩ := X.leave (v := none) (fun _ => rfl) hlk
  exact ⟨_, _, X.returnOut hx hret hd hr, hrun, hended, _, _, rfl, hQ, ⟨_, rfl⟩, hW, hsame.mono hc hs⟩
/-! calls -/
theorem own_callS (X : Stand p l e R s m args below meth c T locs cells slots) (hx : p.tables.exec = Jvm.exec) (hZ : Z.Warmed39 s.vm) {own : String} (hown : s.vm.findClass own = some m.cls) {index : Nat} {y : MethodName} {bytes : ByteArray} {maxL : Nat} {ret : Option FieldType} {rm : Room} {W : Nat} {Qc : Option Value → Heap → List Loc → Prop} {argsL rest : List Value}
    (w1 : (Jvm.Cond.methodLink own index y).before a0 Z = true) (w2 : (Jvm.Cond.static y).before a0 Z = true) (w3 : (Jvm.Cond.initialized y.cls).before a0 Z = true) (w4 : (Jvm.Cond.code y bytes maxL ret).before a0 Z = true) (hy : y.cls ≠ "java/lang/invoke/MethodHandle" ∧ y.cls ≠ "java/lang/invoke/VarHandle")
    (hM : own_C l Z y bytes maxL ret rm argsL.toArray h Qc) (hf : rm.frames + 1 ≤ R.frames) (hl : W + (maxL + 11) + rm.locals ≤ R.locals) (eT : T.heap = h) (hg : g.method = m) (hsize : g.locals.size = c.maxLocals) (hlen : ∀ sig, parseMethodDescriptor y.desc = some sig → argsL.length = sig.parameters.length)
    (hstack : g.stack = argsL.reverse ++ rest) (hW : 2 * g.monitorRoom + (rest.map fun v => v.category).sum ≤ W) (hd : decode c.code g.pc = .ok (.invokestatic index, 3)) (hc : cells + rm.cells ≤ R.cells) (hs : slots + rm.slots ≤ R.slots)
    (k : ∀ (v : Option Value) (T' : State) (h' : Heap) (L : List Loc), Stand p l e R s m args below meth c T' (locs ++ L) (cells + rm.cells) (slots + rm.slots) → T'.heap = h' → Qc v h' L → own_Out p e below En T' { g with pc := g.pc + 3, stack := v.toList ++ rest } Q kc ks) : own_Out p e below En T g Q kc ks := by
  obtain ⟨v, _, ⟨T', L', k', n'⟩, -, X', ⟨Lc, hQ, l1, l2, l3⟩, st⟩ := Jvm.LawKit.callS X hx hown (mvT hZ w1) (mvT hZ w2) (mvT hZ w3) (mvT hZ w4) hy (backOf (W := W) (hM []) hZ w4 w3 hf hl) hg hsize hlen hstack hW hd (fun _ _ => ⟨rfl, eT, hc, hs⟩)
  dsimp only [Pt.U, Pt.locs, Pt.cells, Pt.slots] at X' l1 l2 l3 st hQ
  subst l1 l2 l3
  exact own_to st (k v T' _ Lc X' rfl hQ)
/-- a constructor -/
theorem own_callC (X : Stand p l e R s m args below meth c T locs cells slots) (hx : p.tables.exec = Jvm.exec) (hZ : Z.Warmed39 s.vm) {own : String} (hown : s.vm.findClass own = some m.cls) {index : Nat} {y : MethodName} {bytes : ByteArray} {maxL : Nat} {rm : Room} {W : Nat} {Qc : Option Value → Heap → List Loc → Prop} {a : Addr} {argsL rest : List Value}
    (hy1 : y.name = "<init>") (w1 : (Jvm.Cond.methodLink own index y).before a0 Z = true) (w2 : (Jvm.Cond.instanceMethod y).before a0 Z = true) (w3 : (Jvm.Cond.initialized y.cls).before a0 Z = true) (w4 : (Jvm.Cond.code y bytes maxL none).before a0 Z = true) (hy : y.cls ≠ "java/lang/invoke/MethodHandle" ∧ y.cls ≠ "java/lang/invoke/VarHandle")
    (hM : own_C l Z y bytes maxL none rm (.ref a :: argsL).toArray h Qc) (hf : rm.frames + 1 ≤ R.frames) (hl : W + (maxL + 11) + rm.locals ≤ R.locals) (eT : T.heap = h) (hg : g.method = m) (hsize : g.locals.size = c.maxLocals) (hlen : ∀ sig, parseMethodDescriptor y.desc = some sig → argsL.length = sig.parameters.length)
    (hstack : g.stack = argsL.reverse ++ .ref a :: rest) (hW : 2 * g.monitorRoom + (rest.map fun v => v.category).sum ≤ W) (hd : decode c.code g.pc = .ok (.invokespecial index, 3)) (hc : cells + rm.cells ≤ R.cells) (hs : slots + rm.slots ≤ R.slots)
    (k : ∀ (v : Option Value) (T' : State) (h' : Heap) (L : List Loc), Stand p l e R s m args below meth c T' (locs ++ L) (cells + rm.cells) (slots + rm.slots) → T'.heap = h' → Qc v h' L → own_Out p e below En T' { g with pc := g.pc + 3, stack := v.toList ++ rest } Q kc ks) : own_Out p e below En T g Q kc ks := by
  obtain ⟨v, _, ⟨T', L', k', n'⟩, -, X', ⟨Lc, hQ, l1, l2, l3⟩, st⟩ := X.specialBack hx hy1 hown (mvT hZ w1) (mvT hZ w2) (mvT hZ w4) hy (backOf (W := W) (hM []) hZ w4 w3 hf hl) hg hsize (Steps.refl _) hlen hstack hW hd (fun _ _ => ⟨rfl, eT, hc, hs⟩)
  dsimp only [Pt.U, Pt.locs, Pt.cells, Pt.slots] at X' l1 l2 l3 st hQ
  subst l1 l2 l3
  exact own_to (fun t k => st.trans k) (k v T' _ Lc X' rfl hQ)
/-- an instance method of the object's own class -/
theorem own_callV (X : Stand p l e R s m args below meth c T locs cells slots) (hx : p.tables.exec = Jvm.exec) (hZ : Z.Warmed39 s.vm) {own C : String} (hown : s.vm.findClass own = some m.cls) {index : Nat} {y : MethodName} {bytes : ByteArray} {maxL : Nat} {ret : Option FieldType} {rm : Room} {W : Nat} {Qc : Option Value → Heap → List Loc → Prop} {a : Addr} {argsL rest : List Value}
    (w1 : (Jvm.Cond.methodLink own index y).before a0 Z = true) (w5 : (Jvm.Cond.declares y).before a0 Z = true) (w6 : (Jvm.Cond.selects C y y).before a0 Z = true) (w2 : (Jvm.Cond.instanceMethod y).before a0 Z = true) (w3 : (Jvm.Cond.initialized y.cls).before a0 Z = true) (w4 : (Jvm.Cond.code y bytes maxL ret).before a0 Z = true) (hy : y.cls ≠ "java/lang/invoke/MethodHandle" ∧ y.cls ≠ "java/lang/invoke/VarHandle")
    (hM : own_C l Z y bytes maxL ret rm (.ref a :: argsL).toArray h Qc) (hf : rm.frames + 1 ≤ R.frames) (hl : W + (maxL + 11) + rm.locals ≤ R.locals) (eT : T.heap = h) (E : Exa Z h a C) (hg : g.method = m) (hsize : g.locals.size = c.maxLocals) (hlen : ∀ sig, parseMethodDescriptor y.desc = some sig → argsL.length = sig.parameters.length)
    (hstack : g.stack = argsL.reverse ++ .ref a :: rest) (hW : 2 * g.monitorRoom + (rest.map fun v => v.category).sum ≤ W) (hd : decode c.code g.pc = .ok (.invokevirtual index, 3)) (hc : cells + rm.cells ≤ R.cells) (hs : slots + rm.slots ≤ R.slots)
    (k : ∀ (v : Option Value) (T' : State) (h' : Heap) (L : List Loc), Stand p l e R s m args below meth c T' (locs ++ L) (cells + rm.cells) (slots + rm.slots) → T'.heap = h' → Qc v h' L → own_Out p e below En T' { g with pc := g.pc + 3, stack := v.toList ++ rest } Q kc ks) : own_Out p e below En T g Q kc ks := by
  obtain ⟨cq, kq, qa, qb, qc⟩ := isOf hZ eT E
  obtain ⟨v, _, ⟨T', L', k', n'⟩, -, X', ⟨Lc, hQ, l1, l2, l3⟩, st⟩ := X.virtualBack hx hown (mvT hZ w1) (mvT hZ w5) (notFace_of_selects (args := #[]) (mvT hZ w6)) (mvT hZ w6) (mvT hZ w2) hy (backOf (W := W) (hM []) hZ w4 w3 hf hl) qa qc hg hsize (Steps.refl _) hlen hstack hW hd (fun _ _ => ⟨rfl, eT, hc, hs⟩)
  dsimp only [Pt.U, Pt.locs, Pt.cells, Pt.slots] at X' l1 l2 l3 st hQ
  subst l1 l2 l3
  exact own_to (fun t k => st.trans k) (k v T' _ Lc X' rfl hQ)
/-- a private method of the object's own class, by invokevirtual -/
theorem own_callP (X : Stand p l e R s m args below meth c T locs cells slots) (hx : p.tables.exec = Jvm.exec) (hZ : Z.Warmed39 s.vm) {own C : String} (hown : s.vm.findClass own = some m.cls) {index kk : Nat} {y : MethodName} {bytes : ByteArray} {maxL : Nat} {ret : Option FieldType} {rm : Room} {W : Nat} {Qc : Option Value → Heap → List Loc → Prop} {a : Addr} {argsL rest : List Value}
    (w1 : (Jvm.Cond.methodLink own index y).before a0 Z = true) (w5 : (Jvm.Cond.privateMethod y).before a0 Z = true) (w6 : (Jvm.Cond.instantiable y.cls kk).before a0 Z = true) (w2 : (Jvm.Cond.instanceMethod y).before a0 Z = true) (w3 : (Jvm.Cond.initialized y.cls).before a0 Z = true) (w4 : (Jvm.Cond.code y bytes maxL ret).before a0 Z = true) (hy : y.cls ≠ "java/lang/invoke/MethodHandle" ∧ y.cls ≠ "java/lang/invoke/VarHandle")
    (hM : own_C l Z y bytes maxL ret rm (.ref a :: argsL).toArray h Qc) (hf : rm.frames + 1 ≤ R.frames) (hl : W + (maxL + 11) + rm.locals ≤ R.locals) (eT : T.heap = h) (E : Exa Z h a C) (hg : g.method = m) (hsize : g.locals.size = c.maxLocals) (hlen : ∀ sig, parseMethodDescriptor y.desc = some sig → argsL.length = sig.parameters.length)
    (hstack : g.stack = argsL.reverse ++ .ref a :: rest) (hW : 2 * g.monitorRoom + (rest.map fun v => v.category).sum ≤ W) (hd : decode c.code g.pc = .ok (.invokevirtual index, 3)) (hc : cells + rm.cells ≤ R.cells) (hs : slots + rm.slots ≤ R.slots)
    (k : ∀ (v : Option Value) (T' : State) (h' : Heap) (L : List Loc), Stand p l e R s m args below meth c T' (locs ++ L) (cells + rm.cells) (slots + rm.slots) → T'.heap = h' → Qc v h' L → own_Out p e below En T' { g with pc := g.pc + 3, stack := v.toList ++ rest } Q kc ks) : own_Out p e below En T g Q kc ks := by
  obtain ⟨cq, q, q'⟩ := E.cell
  have hp : s.PrivateAt y := Cond.privateMethod_at (mvP hZ w5 (args := #[]))
  obtain ⟨cy, ky, f1, f2, -, f3, -⟩ := Cond.instantiable_spec (mvT (args := args) hZ w6)
  have hi : ky.isInterface = false := (Bool.or_eq_false_iff.mp f3).1
  have hse : (Jvm.Cond.selects y.cls y y).before args s = true := selects_self_of_private f1 f2 hi hp (mvT hZ w2) hy
  obtain ⟨v, _, ⟨T', L', k', n'⟩, -, X', ⟨Lc, hQ, l1, l2, l3⟩, st⟩ := X.privateBack hx hown (mvT hZ w1) (mvT hZ w2) hse hp (mvT hZ w4) hy (backOf (W := W) (hM []) hZ w4 w3 hf hl) hg hsize (Steps.refl _) (by rw [eT]; exact q) q' hlen hstack hW hd (fun _ _ => ⟨rfl, eT, hc, hs⟩)
  dsimp only [Pt.U, Pt.locs, Pt.cells, Pt.slots] at X' l1 l2 l3 st hQ
  subst l1 l2 l3
  exact own_to (fun t k => st.trans k) (k v T' _ Lc X' rfl hQ)
/-! the heap's steps -/
theorem own_getF (X : Stand p l e R s m args below meth c T locs cells slots) (hx : p.tables.exec = Jvm.exec) (hZ : Z.Warmed39 s.vm) {own O n d : String} {index : Nat} (hown : s.vm.findClass own = some m.cls) (w : (Jvm.Cond.fieldLink own index O n d).before a0 Z = true) (eT : T.heap = h) {a : Addr} {v : Value} (F : Fld Z h a O n d v)
    (hg : g.method = m) {rest : List Value} (hs : g.stack = .ref a :: rest) (hd : decode c.code g.pc = .ok (.getfield index, 3)) (k : ∀ T', Stand p l e R s m args below meth c T' locs cells slots → T'.heap = h → own_Out p e below En T' { g with pc := g.pc + 3, stack := v :: rest } Q kc ks) : own_Out p e below En T g Q kc ks := by
  obtain ⟨T', X', e', st⟩ := getF X hx hZ hown (host := "") (Or.inl w) Via.refl eT F hg hs hd
  exact own_to st (k T' X' e')
theorem own_putF (X : Stand p l e R s m args below meth c T locs cells slots) (hx : p.tables.exec = Jvm.exec) (hZ : Z.Warmed39 s.vm) {own O n d C : String} {index kk : Nat} {ty : FieldType} (hown : s.vm.findClass own = some m.cls) (w : (Jvm.Cond.fieldLink own index O n d).before a0 Z = true) (eT : T.heap = h) {a : Addr} {v old : Value} (F : Fld Z h a O n d old) (E : Exa Z h a C)
    (L : (Jvm.Cond.lays C O n d).before a0 Z = true ∨ ((Jvm.Cond.laysFinal C O n d).before a0 Z = true ∧ own = O ∧ meth.name = "<init>")) (wi : (Jvm.Cond.instantiable C kk).before a0 Z = true) (hty : parseFieldDescriptor d = some ty) (hn : narrow ty v = v) (hf : fits ty v = true)
    (hg : g.method = m) {rest : List Value} (hs : g.stack = v :: .ref a :: rest) (hd : decode c.code g.pc = .ok (.putfield index, 3)) (k : ∀ T' h', Stand p l e R s m args below meth c T' (locs ++ [⟨a, Jvm.RoadKit.slotOf Z O n d⟩]) cells slots → T'.heap = h' → Wr h h' a (Jvm.RoadKit.slotOf Z O n d) v → own_Out p e below En T' { g with pc := g.pc + 3, stack := rest } Q kc ks) : own_Out p e below En T g Q kc ks := by
  obtain ⟨T', h', X', e', W', st⟩ := putF X hx hZ hown (host := "") (Or.inl w) Via.refl eT F E L wi hty hn hf hg hs hd
  exact own_to st (k T' h' X' e' W')
theorem own_new (X : Stand p l e R s m args below meth c T locs cells slots) (hx : p.tables.exec = Jvm.exec) (hZ : Z.Warmed39 s.vm) {own C : String} {index n : Nat} (hown : s.vm.findClass own = some m.cls) (w : (Jvm.Cond.classLink own index C).before a0 Z = true) (wi : (Jvm.Cond.instantiable C n).before a0 Z = true) (wz : (Jvm.Cond.initialized C).before a0 Z = true) (eT : T.heap = h)
    (hg : g.method = m) (hd : decode c.code g.pc = .ok (.new index, 3)) (hc : cells + 1 ≤ R.cells) (hl : slots + n ≤ R.slots)
    (k : ∀ T' h' a, a = h.size → Stand p l e R s m args below meth c T' locs (cells + 1) (slots + n) → T'.heap = h' → Ext h h' → Exa Z h' a C → (∀ {O nm d : String} {ty : FieldType}, Laid Z a0 C O nm d → parseFieldDescriptor d = some ty → Fld Z h' a O nm d (defaultValue ty)) → own_Out p e below En T' { g with pc := g.pc + 3, stack := .ref a :: g.stack } Q kc ks) : own_Out p e below En T g Q kc ks := by
  obtain ⟨T', h', X', e', E', A', D', -, st⟩ := newO X hx hZ hown w wi wz eT hg hd hc hl
  exact own_to st (k T' h' _ rfl X' e' E' A' D')
/-! arrays of ints, bytes, booleans: how many places, and what each holds -/
def own_upd (f : Nat → Int32) (j : Nat) (x : Int32) : Nat → Int32 := fun i => if i = j then x else f i
def own_A (Z : State) (h : Heap) (a : Addr) (ty : FieldType) (n : Nat) (f : Nat → Int32) : Prop := ∃ cl : Cell, Arr Z h a cl ty ∧ cl.slots.size = n ∧ ∀ j, j < n → cl.slots[j]? = some (.int (f j))
variable {a b : Addr} {ty : FieldType} {n : Nat} {f : Nat → Int32} {ws : List Addr} {v : Value} {sl : Nat}
theorem own_A.lt (F : own_A Z h a ty n f) : a < h.size := by obtain ⟨_, A, -⟩ := F; exact A.lt
theorem own_A.ext (F : own_A Z h a ty n f) (E : Ext h h') : own_A Z h' a ty n f := by obtain ⟨cl, A, r⟩ := F; exact ⟨cl, A.ext E, r⟩
theorem own_A.other (F : own_A Z h b ty n f) (W : Wr h h' a sl v) (q : b ≠ a) : own_A Z h' b ty n f := by obtain ⟨cl, A, r⟩ := F; exact ⟨cl, A.other W q, r⟩
theorem own_A.keep (F : own_A Z h a ty n f) (K : Keep h h' ws) (q : a ∉ ws) : own_A Z h' a ty n f := by obtain ⟨cl, A, r⟩ := F; exact ⟨cl, ⟨K.2.1 a cl A.1 q, A.2⟩, r⟩
theorem own_A.congr {f' : Nat → Int32} (F : own_A Z h a ty n f) (q : ∀ j, j < n → f j = f' j) : own_A Z h a ty n f' := by obtain ⟨cl, A, r1, r2⟩ := F; exact ⟨cl, A, r1, fun j hj => by rw [r2 j hj, q j hj]⟩
theorem own_A.set {cl : Cell} {j : Nat} {x : Int32} (A : Arr Z h a cl ty) (q1 : cl.slots.size = n) (q2 : ∀ j, j < n → cl.slots[j]? = some (.int (f j))) (W : Wr h h' a j (.int x)) (hj : j < n) : own_A Z h' a ty n (own_upd f j x) := by
  refine ⟨_, A.same W, by rw [sz_set, q1], fun i hi => ?_⟩
  simp only [Cell.setSlot, Array.getElem?_setIfInBounds, own_upd]
  by_cases e : j = i
  · subst e
    simp [q1, hj]
  · rw [if_neg e, q2 i hi, if_neg (fun q => e q.symm)]
theorem own_in {j : Int32} {N : Nat} (h0 : ¬ j < 0) (h1 : j.toNatClampNeg < N) : ¬ (j < 0 ∨ N ≤ j.toNatClampNeg) := fun q => q.elim h0 (fun r => Nat.not_lt.mpr r h1)
theorem own_stI (X : Stand p l e R s m args below meth c T locs cells slots) (hx : p.tables.exec = Jvm.exec) (hZ : Z.Warmed39 s.vm) (eT : T.heap = h) (F : own_A Z h a .int n f) {j x : Int32} (h0 : ¬ j < 0) (h1 : j.toNatClampNeg < n) (hg : g.method = m) {rest : List Value} (hs : g.stack = .int x :: .int j :: .ref a :: rest) (hd : decode c.code g.pc = .ok (.iastore, 1))
    (k : ∀ T' h', Stand p l e R s m args below meth c T' (locs ++ [⟨a, j.toNatClampNeg⟩]) cells slots → T'.heap = h' → Wr h h' a j.toNatClampNeg (.int x) → own_A Z h' a .int n (own_upd f j.toNatClampNeg x) → own_Out p e below En T' { g with pc := g.pc + 1, stack := rest } Q kc ks) : own_Out p e below En T g Q kc ks := by
  obtain ⟨cl, A, q1, q2⟩ := F
  obtain ⟨T', h', X', e', W', st⟩ := stI X hx hZ eT A (own_in h0 (by rw [q1]; exact h1)) hg hs hd
  exact own_to st (k T' h' X' e' W' (own_A.set A q1 q2 W' h1))
theorem own_stZ (X : Stand p l e R s m args below meth c T locs cells slots) (hx : p.tables.exec = Jvm.exec) (hZ : Z.Warmed39 s.vm) (eT : T.heap = h) (F : own_A Z h a .boolean n f) {j x : Int32} (h0 : ¬ j < 0) (h1 : j.toNatClampNeg < n) (hg : g.method = m) {rest : List Value} (hs : g.stack = .int x :: .int j :: .ref a :: rest) (hd : decode c.code g.pc = .ok (.bastore, 1))
    (k : ∀ T' h', Stand p l e R s m args below meth c T' (locs ++ [⟨a, j.toNatClampNeg⟩]) cells slots → T'.heap = h' → Wr h h' a j.toNatClampNeg (.int (nar .boolean x)) → own_A Z h' a .boolean n (own_upd f j.toNatClampNeg (nar .boolean x)) → own_Out p e below En T' { g with pc := g.pc + 1, stack := rest } Q kc ks) : own_Out p e below En T g Q kc ks := by
  obtain ⟨cl, A, q1, q2⟩ := F
  obtain ⟨T', h', X', e', W', st⟩ := stZ X hx hZ eT A (own_in h0 (by rw [q1]; exact h1)) hg hs hd
  exact own_to st (k T' h' X' e' W' (own_A.set A q1 q2 W' h1))
theorem own_stB (X : Stand p l e R s m args below meth c T locs cells slots) (hx : p.tables.exec = Jvm.exec) (hZ : Z.Warmed39 s.vm) (eT : T.heap = h) (F : own_A Z h a .byte n f) {j x : Int32} (h0 : ¬ j < 0) (h1 : j.toNatClampNeg < n) (hg : g.method = m) {rest : List Value} (hs : g.stack = .int x :: .int j :: .ref a :: rest) (hd : decode c.code g.pc = .ok (.bastore, 1))
    (k : ∀ T' h', Stand p l e R s m args below meth c T' (locs ++ [⟨a, j.toNatClampNeg⟩]) cells slots → T'.heap = h' → Wr h h' a j.toNatClampNeg (.int (nar .byte x)) → own_A Z h' a .byte n (own_upd f j.toNatClampNeg (nar .byte x)) → own_Out p e below En T' { g with pc := g.pc + 1, stack := rest } Q kc ks) : own_Out p e below En T g Q kc ks := by
  obtain ⟨cl, A, q1, q2⟩ := F
  obtain ⟨T', h', X', e', W', st⟩ := stB X hx hZ eT A (own_in h0 (by rw [q1]; exact h1)) hg hs hd
  exact own_to st (k T' h' X' e' W' (own_A.set A q1 q2 W' h1))
theorem own_newA (X : Stand p l e R s m args below meth c T locs cells slots) (hx : p.tables.exec = Jvm.exec) (hZ : Z.Warmed39 s.vm) {aty : ArrayType} (w : (Jvm.Cond.arrayClass (newarray.typeOf aty)).before a0 Z = true) (hdef : defaultValue (newarray.typeOf aty) = .int 0) (eT : T.heap = h) (hg : g.method = m) (hd : decode c.code g.pc = .ok (.newarray aty, 2)) {N : Int32} {rest : List Value} (hs : g.stack = .int N :: rest)
    (hn : ¬ N < 0) {cap : Nat} (hcap : N.toNatClampNeg ≤ cap) (hb : cap * 8 ≤ 536870912) (hc : cells + 1 ≤ R.cells) (hl : slots + cap ≤ R.slots)
    (k : ∀ T' h' a, a = h.size → Stand p l e R s m args below meth c T' locs (cells + 1) (slots + cap) → T'.heap = h' → Ext h h' → own_A Z h' a (newarray.typeOf aty) N.toNatClampNeg (fun _ => 0) → own_Out p e below En T' { g with pc := g.pc + 2, stack := .ref a :: rest } Q kc ks) : own_Out p e below En T g Q kc ks := by
  obtain ⟨T', h', cA, X', e', E', A', st⟩ := newP X hx hZ w eT hg hd hs hn hcap hb hc hl
  refine own_to st (k T' h' _ rfl X' e' E' ⟨_, A', sz_new _ _ _, fun j hj => ?_⟩)
  simp [newA, hdef, hj]
theorem own_len (X : Stand p l e R s m args below meth c T locs cells slots) (hx : p.tables.exec = Jvm.exec) (hZ : Z.Warmed39 s.vm) (eT : T.heap = h) (F : own_A Z h a ty n f) (hg : g.method = m) {rest : List Value} (hs : g.stack = .ref a :: rest) (hd : decode c.code g.pc = .ok (.arraylength, 1))
    (k : own_Out p e below En T { g with pc := g.pc + 1, stack := .int n.toInt32 :: rest } Q kc ks) : own_Out p e below En T g Q kc ks := by
  obtain ⟨cl, A, q1, q2⟩ := F
  subst q1
  exact own_to (X.arraylength hx (by rw [eT]; exact A.1) (State.isArrayOf_alike hZ.alike A.2.1) hg hs hd) k
theorem own_ldI (X : Stand p l e R s m args below meth c T locs cells slots) (hx : p.tables.exec = Jvm.exec) (hZ : Z.Warmed39 s.vm) (eT : T.heap = h) (F : own_A Z h a .int n f) {j : Int32} (h0 : ¬ j < 0) (h1 : j.toNatClampNeg < n) (hg : g.method = m) {rest : List Value} (hs : g.stack = .int j :: .ref a :: rest) (hd : decode c.code g.pc = .ok (.iaload, 1))
    (k : ∀ w : Int32, w = f j.toNatClampNeg → own_Out p e below En T { g with pc := g.pc + 1, stack := .int w :: rest } Q kc ks) : own_Out p e below En T g Q kc ks := by
  obtain ⟨cl, A, q1, q2⟩ := F
  exact own_to (X.iaload hx (by rw [eT]; exact A.1) (State.isArrayOf_alike hZ.alike A.2.1) A.2.2 (own_in h0 (by rw [q1]; exact h1)) (q2 _ h1) hg hs hd) (k _ rfl)
theorem own_ldZ (X : Stand p l e R s m args below meth c T locs cells slots) (hx : p.tables.exec = Jvm.exec) (hZ : Z.Warmed39 s.vm) (eT : T.heap = h) (F : own_A Z h a .boolean n f) {j : Int32} (h0 : ¬ j < 0) (h1 : j.toNatClampNeg < n) (hg : g.method = m) {rest : List Value} (hs : g.stack = .int j :: .ref a :: rest) (hd : decode c.code g.pc = .ok (.baload, 1))
    (k : ∀ w : Int32, w = f j.toNatClampNeg → own_Out p e below En T { g with pc := g.pc + 1, stack := .int w :: rest } Q kc ks) : own_Out p e below En T g Q kc ks := by
  obtain ⟨cl, A, q1, q2⟩ := F
  exact own_to (X.baloadBooleans hx (by rw [eT]; exact A.1) (State.isArrayOf_alike hZ.alike A.2.1) A.2.2 (own_in h0 (by rw [q1]; exact h1)) (q2 _ h1) hg hs hd) (k _ rfl)
theorem own_ldB (X : Stand p l e R s m args below meth c T locs cells slots) (hx : p.tables.exec = Jvm.exec) (hZ : Z.Warmed39 s.vm) (eT : T.heap = h) (F : own_A Z h a .byte n f) {j : Int32} (h0 : ¬ j < 0) (h1 : j.toNatClampNeg < n) (hg : g.method = m) {rest : List Value} (hs : g.stack = .int j :: .ref a :: rest) (hd : decode c.code g.pc = .ok (.baload, 1))
    (k : ∀ w : Int32, w = f j.toNatClampNeg → own_Out p e below En T { g with pc := g.pc + 1, stack := .int w :: rest } Q kc ks) : own_Out p e below En T g Q kc ks := by
  obtain ⟨cl, A, q1, q2⟩ := F
  exact own_to (X.baloadBytes hx (by rw [eT]; exact A.1) (State.isArrayOf_alike hZ.alike A.2.1) A.2.2 (own_in h0 (by rw [q1]; exact h1)) (q2 _ h1) hg hs hd) (k _ rfl)
theorem own_idx (x n : Int32) (N : Nat) (hn : n.toInt = (N : Int)) (h0 : 0 < N) : ¬ ((x &&& (2147483647 : Int32)) % n < 0) ∧ ((x &&& (2147483647 : Int32)) % n).toNatClampNeg < N := by
  have h1 := c_mask x 2147483647 31 (by decide) (by decide)
  have h2 := c_irem (x &&& 2147483647) n N hn
  have k : (0 : Int32).toInt = 0 := by decide
  have h3 : ¬ ((x &&& (2147483647 : Int32)) % n < 0) := by
    rw [Int32.lt_iff_toInt_lt, k, h2.1 (by omega)]
    have := Int.emod_nonneg (x &&& 2147483647).toInt (show (N : Int) ≠ 0 by omega)
    omega
  have h4 := nat_of h3
  have h5 := Int.emod_lt_of_pos (x &&& 2147483647).toInt (show (0 : Int) < N by omega)
  rw [h2.1 (by omega)] at h4
  exact ⟨h3, by omega⟩
theorem own_fs {k : Nat} {L : List Loc} (N : Fr k L) (q : k ≤ a) : Fr k (L ++ [⟨a, sl⟩]) := N.app fun y hy => by cases List.mem_singleton.mp hy; exact q
end OwnKit
def own_sr (x : Int64) : Int64 := ((x.toUInt64 >>> ((33 : Int32) &&& 0x3f).toInt64.toUInt64).toInt64)
def own_us (x : Int64) : Int64 := x ^^^ own_sr x
def own_nw (k x : Int64) : Int64 := x * ((2 : Int64) - (k * x))
def own_inv (k : Int64) : Int64 := own_nw k (own_nw k (own_nw k (own_nw k (own_nw k k))))
theorem own_us_us (x : Int64) : own_us (own_us x) = x := by
  have e : ((33 : Int32) &&& 0x3f).toInt64.toUInt64 = 33 := by decide
  unfold own_us own_sr
  rw [e]
  apply Int64.toBitVec_inj.mp
  have q : ∀ y : Int64, (y.toUInt64 >>> 33).toInt64.toBitVec = y.toBitVec >>> 33 := fun y => rfl
  have q0 : x.toBitVec >>> 33 >>> 33 = 0#64 := by
    apply BitVec.eq_of_toNat_eq
    rw [BitVec.toNat_ushiftRight, BitVec.toNat_ushiftRight, Nat.shiftRight_eq_div_pow, Nat.shiftRight_eq_div_pow]
    have := x.toBitVec.isLt
    simp only [BitVec.toNat_ofNat]
    omega
  rw [Int64.toBitVec_xor, q, Int64.toBitVec_xor, q, BitVec.ushiftRight_xor_distrib, q0]
  simp [BitVec.xor_assoc]
theorem own_A1 : (-49064778989728563 : Int64) * own_inv (-49064778989728563 : Int64) = 1 := by decide +kernel
theorem own_B1 : (-4265267296055464877 : Int64) * own_inv (-4265267296055464877 : Int64) = 1 := by decide +kernel
def own_fm (v : Int64) : Int64 := own_us (own_us (own_us v * (-49064778989728563 : Int64)) * (-4265267296055464877 : Int64))
theorem own_back (v : Int64) : own_us (own_us (own_us (own_fm v) * own_inv (-4265267296055464877 : Int64)) * own_inv (-49064778989728563 : Int64)) = v := by
  unfold own_fm
  rw [own_us_us, Int64.mul_assoc, own_B1, Int64.mul_one, own_us_us, Int64.mul_assoc, own_A1, Int64.mul_one, own_us_us]
theorem d1_0 : decode method_2_code 0 = .ok (.lload_n 0, 1) := by decide +kernel
theorem d1_1 : decode method_2_code 1 = .ok (.lstore_n 2, 1) := by decide +kernel
theorem d1_2 : decode method_2_code 2 = .ok (.lload_n 2, 1) := by decide +kernel
theorem d1_3 : decode method_2_code 3 = .ok (.ldc2_w 7, 3) := by decide +kernel
theorem d1_6 : decode method_2_code 6 = .ok (.lload_n 0, 1) := by decide +kernel
theorem d1_7 : decode method_2_code 7 = .ok (.lload_n 2, 1) := by decide +kernel
theorem d1_8 : decode method_2_code 8 = .ok (.lmul, 1) := by decide +kernel
theorem d1_9 : decode method_2_code 9 = .ok (.lsub, 1) := by decide +kernel
theorem d1_10 : decode method_2_code 10 = .ok (.lmul, 1) := by decide +kernel
theorem d1_11 : decode method_2_code 11 = .ok (.lstore_n 2, 1) := by decide +kernel
theorem d1_12 : decode method_2_code 12 = .ok (.lload_n 2, 1) := by decide +kernel
theorem d1_13 : decode method_2_code 13 = .ok (.ldc2_w 7, 3) := by decide +kernel
theorem d1_16 : decode method_2_code 16 = .ok (.lload_n 0, 1) := by decide +kernel
theorem d1_17 : decode method_2_code 17 = .ok (.lload_n 2, 1) := by decide +kernel
theorem d1_18 : decode method_2_code 18 = .ok (.lmul, 1) := by decide +kernel
theorem d1_19 : decode method_2_code 19 = .ok (.lsub, 1) := by decide +kernel
theorem d1_20 : decode method_2_code 20 = .ok (.lmul, 1) := by decide +kernel
theorem d1_21 : decode method_2_code 21 = .ok (.lstore_n 2, 1) := by decide +kernel
theorem d1_22 : decode method_2_code 22 = .ok (.lload_n 2, 1) := by decide +kernel
theorem d1_23 : decode method_2_code 23 = .ok (.ldc2_w 7, 3) := by decide +kernel
theorem d1_26 : decode method_2_code 26 = .ok (.lload_n 0, 1) := by decide +kernel
theorem d1_27 : decode method_2_code 27 = .ok (.lload_n 2, 1) := by decide +kernel
theorem d1_28 : decode method_2_code 28 = .ok (.lmul, 1) := by decide +kernel
theorem d1_29 : decode method_2_code 29 = .ok (.lsub, 1) := by decide +kernel
theorem d1_30 : decode method_2_code 30 = .ok (.lmul, 1) := by decide +kernel
theorem d1_31 : decode method_2_code 31 = .ok (.lstore_n 2, 1) := by decide +kernel
theorem d1_32 : decode method_2_code 32 = .ok (.lload_n 2, 1) := by decide +kernel
theorem d1_33 : decode method_2_code 33 = .ok (.ldc2_w 7, 3) := by decide +kernel
theorem d1_36 : decode method_2_code 36 = .ok (.lload_n 0, 1) := by decide +kernel
theorem d1_37 : decode method_2_code 37 = .ok (.lload_n 2, 1) := by decide +kernel
theorem d1_38 : decode method_2_code 38 = .ok (.lmul, 1) := by decide +kernel
theorem d1_39 : decode method_2_code 39 = .ok (.lsub, 1) := by decide +kernel
theorem d1_40 : decode method_2_code 40 = .ok (.lmul, 1) := by decide +kernel
theorem d1_41 : decode method_2_code 41 = .ok (.lstore_n 2, 1) := by decide +kernel
theorem d1_42 : decode method_2_code 42 = .ok (.lload_n 2, 1) := by decide +kernel
theorem d1_43 : decode method_2_code 43 = .ok (.ldc2_w 7, 3) := by decide +kernel
theorem d1_46 : decode method_2_code 46 = .ok (.lload_n 0, 1) := by decide +kernel
theorem d1_47 : decode method_2_code 47 = .ok (.lload_n 2, 1) := by decide +kernel
theorem d1_48 : decode method_2_code 48 = .ok (.lmul, 1) := by decide +kernel
theorem d1_49 : decode method_2_code 49 = .ok (.lsub, 1) := by decide +kernel
theorem d1_50 : decode method_2_code 50 = .ok (.lmul, 1) := by decide +kernel
theorem d1_51 : decode method_2_code 51 = .ok (.lstore_n 2, 1) := by decide +kernel
theorem d1_52 : decode method_2_code 52 = .ok (.lload_n 2, 1) := by decide +kernel
theorem d1_53 : decode method_2_code 53 = .ok (.lreturn, 1) := by decide +kernel
theorem pn_0 : plainName "com/example/hemlock_gorge/hemlockgorge/KeyHashFinalMixPinLaw" = true := by first | (simp [plainName, overriddenIn]; done) | decide +kernel
theorem ef_1 (m : MethodId) (u0 : Int64) : entryFrame m #[(.long u0)] 4 = mkF m 0 #[.val (.long u0), .second, .unset, .unset] [] := by first | (simp [entryFrame, mkF, argsToLocals, Value.category]; done) | rfl
def Q1 (Z : State) (u0 : Int64) (h0 : Heap) (n0 : Nat) (v : Option Value) (h : Heap) (L : List Loc) : Prop := v = some (.long (own_inv u0)) ∧ Fr n0 L ∧ h = h0
set_option maxRecDepth 65536 in
set_option maxHeartbeats 40000000 in
theorem rm1 (l : Launch) (Z : State) (a0 : Array Value) (hw : ∀ d ∈ tables_1, d.before a0 Z = true) (u0 : Int64) (h0 : Heap) (n0 : Nat) (Z0 : n0 ≤ h0.size) :
    own_C l Z (⟨"com/example/hemlock_gorge/hemlockgorge/KeyHashFinalMixPinLaw", "inverse", "(J)J"⟩ : MethodName) method_2_code 4 (some .long) ({ frames := 0, cells := 0, slots := 0, locals := 0 } : Room) #[(.long u0)] h0 (Q1 Z u0 h0 n0) := by
  refine own_met (plainFor_of_name pn_0) ?_
  intro p e s m below meth c s₁ hx hby hml hret hlk hown hnm hZ X0 e0
  refine own_cast (ef_1 m u0) ?_
  have N0 := Fr.nil n0
  show own_Out p e below _ s₁ (mkF m 0 #[.val (.long u0), .second, .unset, .unset] []) _ _ _
  refine own_to (fun t k => XS.lloadN X0.here hx rfl (hb hby d1_0) rfl k) ?_
  show own_Out p e below _ s₁ (mkF m 1 #[.val (.long u0), .second, .unset, .unset] [(.long u0)]) _ _ _
  refine own_to (fun t k => XS.lstoreN X0.here hx rfl (hb hby d1_1) rfl (l' := #[.val (.long u0), .second, .val (.long u0), .second]) rfl k) ?_
  show own_Out p e below _ s₁ (mkF m 2 #[.val (.long u0), .second, .val (.long u0), .second] []) _ _ _
  refine own_to (fun t k => XS.lloadN X0.here hx rfl (hb hby d1_2) rfl k) ?_
  show own_Out p e below _ s₁ (mkF m 3 #[.val (.long u0), .second, .val (.long u0), .second] [(.long u0)]) _ _ _
  refine own_to (fun t k => X0.ldc2J hx hown (mvT hZ (hw _ (List.mem_of_getElem? (i := 5) rfl))) rfl (hb hby d1_3) k) ?_
  show own_Out p e below _ s₁ (mkF m 6 #[.val (.long u0), .second, .val (.long u0), .second] [(.long (2 : Int64)), (.long u0)]) _ _ _
  refine own_to (fun t k => XS.lloadN X0.here hx rfl (hb hby d1_6) rfl k) ?_
  show own_Out p e below _ s₁ (mkF m 7 #[.val (.long u0), .second, .val (.long u0), .second] [(.long u0), (.long (2 : Int64)), (.long u0)]) _ _ _
  refine own_to (fun t k => XS.lloadN X0.here hx rfl (hb hby d1_7) rfl k) ?_
  show own_Out p e below _ s₁ (mkF m 8 #[.val (.long u0), .second, .val (.long u0), .second] [(.long u0), (.long u0), (.long (2 : Int64)), (.long u0)]) _ _ _
  refine own_to (fun t k => XS.lmul X0.here hx rfl (hb hby d1_8) rfl k) ?_
  show own_Out p e below _ s₁ (mkF m 9 #[.val (.long u0), .second, .val (.long u0), .second] [(.long (u0 * u0)), (.long (2 : Int64)), (.long u0)]) _ _ _
  refine own_to (fun t k => XS.lsub X0.here hx rfl (hb hby d1_9) rfl k) ?_
  show own_Out p e below _ s₁ (mkF m 10 #[.val (.long u0), .second, .val (.long u0), .second] [(.long ((2 : Int64) - (u0 * u0))), (.long u0)]) _ _ _
  refine own_to (fun t k => XS.lmul X0.here hx rfl (hb hby d1_10) rfl k) ?_
  show own_Out p e below _ s₁ (mkF m 11 #[.val (.long u0), .second, .val (.long u0), .second] [(.long (u0 * ((2 : Int64) - (u0 * u0))))]) _ _ _
  refine own_to (fun t k => XS.lstoreN X0.here hx rfl (hb hby d1_11) rfl (l' := #[.val (.long u0), .second, .val (.long (u0 * ((2 : Int64) - (u0 * u0)))), .second]) rfl k) ?_
  show own_Out p e below _ s₁ (mkF m 12 #[.val (.long u0), .second, .val (.long (u0 * ((2 : Int64) - (u0 * u0)))), .second] []) _ _ _
  show own_Out p e below _ s₁ (mkF m 12 #[.val (.long u0), .second, .val (.long (own_nw u0 u0)), .second] []) _ _ _
  refine own_to (fun t k => XS.lloadN X0.here hx rfl (hb hby d1_12) rfl k) ?_
  show own_Out p e below _ s₁ (mkF m 13 #[.val (.long u0), .second, .val (.long (own_nw u0 u0)), .second] [(.long (own_nw u0 u0))]) _ _ _
  refine own_to (fun t k => X0.ldc2J hx hown (mvT hZ (hw _ (List.mem_of_getElem? (i := 5) rfl))) rfl (hb hby d1_13) k) ?_
  show own_Out p e below _ s₁ (mkF m 16 #[.val (.long u0), .second, .val (.long (own_nw u0 u0)), .second] [(.long (2 : Int64)), (.long (own_nw u0 u0))]) _ _ _
  refine own_to (fun t k => XS.lloadN X0.here hx rfl (hb hby d1_16) rfl k) ?_
  show own_Out p e below _ s₁ (mkF m 17 #[.val (.long u0), .second, .val (.long (own_nw u0 u0)), .second] [(.long u0), (.long (2 : Int64)), (.long (own_nw u0 u0))]) _ _ _
  refine own_to (fun t k => XS.lloadN X0.here hx rfl (hb hby d1_17) rfl k) ?_
  show own_Out p e below _ s₁ (mkF m 18 #[.val (.long u0), .second, .val (.long (own_nw u0 u0)), .second] [(.long (own_nw u0 u0)), (.long u0), (.long (2 : Int64)), (.long (own_nw u0 u0))]) _ _ _
  refine own_to (fun t k => XS.lmul X0.here hx rfl (hb hby d1_18) rfl k) ?_
  show own_Out p e below _ s₁ (mkF m 19 #[.val (.long u0), .second, .val (.long (own_nw u0 u0)), .second] [(.long (u0 * (own_nw u0 u0))), (.long (2 : Int64)), (.long (own_nw u0 u0))]) _ _ _
  refine own_to (fun t k => XS.lsub X0.here hx rfl (hb hby d1_19) rfl k) ?_
  show own_Out p e below _ s₁ (mkF m 20 #[.val (.long u0), .second, .val (.long (own_nw u0 u0)), .second] [(.long ((2 : Int64) - (u0 * (own_nw u0 u0)))), (.long (own_nw u0 u0))]) _ _ _
  refine own_to (fun t k => XS.lmul X0.here hx rfl (hb hby d1_20) rfl k) ?_
  show own_Out p e below _ s₁ (mkF m 21 #[.val (.long u0), .second, .val (.long (own_nw u0 u0)), .second] [(.long ((own_nw u0 u0) * ((2 : Int64) - (u0 * (own_nw u0 u0)))))]) _ _ _
  refine own_to (fun t k => XS.lstoreN X0.here hx rfl (hb hby d1_21) rfl (l' := #[.val (.long u0), .second, .val (.long ((own_nw u0 u0) * ((2 : Int64) - (u0 * (own_nw u0 u0))))), .second]) rfl k) ?_
  show own_Out p e below _ s₁ (mkF m 22 #[.val (.long u0), .second, .val (.long ((own_nw u0 u0) * ((2 : Int64) - (u0 * (own_nw u0 u0))))), .second] []) _ _ _
  show own_Out p e below _ s₁ (mkF m 22 #[.val (.long u0), .second, .val (.long (own_nw u0 (own_nw u0 u0))), .second] []) _ _ _
  refine own_to (fun t k => XS.lloadN X0.here hx rfl (hb hby d1_22) rfl k) ?_
  show own_Out p e below _ s₁ (mkF m 23 #[.val (.long u0), .second, .val (.long (own_nw u0 (own_nw u0 u0))), .second] [(.long (own_nw u0 (own_nw u0 u0)))]) _ _ _
  refine own_to (fun t k => X0.ldc2J hx hown (mvT hZ (hw _ (List.mem_of_getElem? (i := 5) rfl))) rfl (hb hby d1_23) k) ?_
  show own_Out p e below _ s₁ (mkF m 26 #[.val (.long u0), .second, .val (.long (own_nw u0 (own_nw u0 u0))), .second] [(.long (2 : Int64)), (.long (own_nw u0 (own_nw u0 u0)))]) _ _ _
  refine own_to (fun t k => XS.lloadN X0.here hx rfl (hb hby d1_26) rfl k) ?_
  show own_Out p e below _ s₁ (mkF m 27 #[.val (.long u0), .second, .val (.long (own_nw u0 (own_nw u0 u0))), .second] [(.long u0), (.long (2 : Int64)), (.long (own_nw u0 (own_nw u0 u0)))]) _ _ _
  refine own_to (fun t k => XS.lloadN X0.here hx rfl (hb hby d1_27) rfl k) ?_
  show own_Out p e below _ s₁ (mkF m 28 #[.val (.long u0), .second, .val (.long (own_nw u0 (own_nw u0 u0))), .second] [(.long (own_nw u0 (own_nw u0 u0))), (.long u0), (.long (2 : Int64)), (.long (own_nw u0 (own_nw u0 u0)))]) _ _ _
  refine own_to (fun t k => XS.lmul X0.here hx rfl (hb hby d1_28) rfl k) ?_
  show own_Out p e below _ s₁ (mkF m 29 #[.val (.long u0), .second, .val (.long (own_nw u0 (own_nw u0 u0))), .second] [(.long (u0 * (own_nw u0 (own_nw u0 u0)))), (.long (2 : Int64)), (.long (own_nw u0 (own_nw u0 u0)))]) _ _ _
  refine own_to (fun t k => XS.lsub X0.here hx rfl (hb hby d1_29) rfl k) ?_
  show own_Out p e below _ s₁ (mkF m 30 #[.val (.long u0), .second, .val (.long (own_nw u0 (own_nw u0 u0))), .second] [(.long ((2 : Int64) - (u0 * (own_nw u0 (own_nw u0 u0))))), (.long (own_nw u0 (own_nw u0 u0)))]) _ _ _
  refine own_to (fun t k => XS.lmul X0.here hx rfl (hb hby d1_30) rfl k) ?_
  show own_Out p e below _ s₁ (mkF m 31 #[.val (.long u0), .second, .val (.long (own_nw u0 (own_nw u0 u0))), .second] [(.long ((own_nw u0 (own_nw u0 u0)) * ((2 : Int64) - (u0 * (own_nw u0 (own_nw u0 u0))))))]) _ _ _
  refine own_to (fun t k => XS.lstoreN X0.here hx rfl (hb hby d1_31) rfl (l' := #[.val (.long u0), .second, .val (.long ((own_nw u0 (own_nw u0 u0)) * ((2 : Int64) - (u0 * (own_nw u0 (own_nw u0 u0)))))), .second]) rfl k) ?_
  show own_Out p e below _ s₁ (mkF m 32 #[.val (.long u0), .second, .val (.long ((own_nw u0 (own_nw u0 u0)) * ((2 : Int64) - (u0 * (own_nw u0 (own_nw u0 u0)))))), .second] []) _ _ _
  show own_Out p e below _ s₁ (mkF m 32 #[.val (.long u0), .second, .val (.long (own_nw u0 (own_nw u0 (own_nw u0 u0)))), .second] []) _ _ _
  refine own_to (fun t k => XS.lloadN X0.here hx rfl (hb hby d1_32) rfl k) ?_
  show own_Out p e below _ s₁ (mkF m 33 #[.val (.long u0), .second, .val (.long (own_nw u0 (own_nw u0 (own_nw u0 u0)))), .second] [(.long (own_nw u0 (own_nw u0 (own_nw u0 u0))))]) _ _ _
  refine own_to (fun t k => X0.ldc2J hx hown (mvT hZ (hw _ (List.mem_of_getElem? (i := 5) rfl))) rfl (hb hby d1_33) k) ?_
  show own_Out p e below _ s₁ (mkF m 36 #[.val (.long u0), .second, .val (.long (own_nw u0 (own_nw u0 (own_nw u0 u0)))), .second] [(.long (2 : Int64)), (.long (own_nw u0 (own_nw u0 (own_nw u0 u0))))]) _ _ _
  refine own_to (fun t k => XS.lloadN X0.here hx rfl (hb hby d1_36) rfl k) ?_
  show own_Out p e below _ s₁ (mkF m 37 #[.val (.long u0), .second, .val (.long (own_nw u0 (own_nw u0 (own_nw u0 u0)))), .second] [(.long u0), (.long (2 : Int64)), (.long (own_nw u0 (own_nw u0 (own_nw u0 u0))))]) _ _ _
  refine own_to (fun t k => XS.lloadN X0.here hx rfl (hb hby d1_37) rfl k) ?_
  show own_Out p e below _ s₁ (mkF m 38 #[.val (.long u0), .second, .val (.long (own_nw u0 (own_nw u0 (own_nw u0 u0)))), .second] [(.long (own_nw u0 (own_nw u0 (own_nw u0 u0)))), (.long u0), (.long (2 : Int64)), (.long (own_nw u0 (own_nw u0 (own_nw u0 u0))))]) _ _ _
  refine own_to (fun t k => XS.lmul X0.here hx rfl (hb hby d1_38) rfl k) ?_
  show own_Out p e below _ s₁ (mkF m 39 #[.val (.long u0), .second, .val (.long (own_nw u0 (own_nw u0 (own_nw u0 u0)))), .second] [(.long (u0 * (own_nw u0 (own_nw u0 (own_nw u0 u0))))), (.long (2 : Int64)), (.long (own_nw u0 (own_nw u0 (own_nw u0 u0))))]) _ _ _
  refine own_to (fun t k => XS.lsub X0.here hx rfl (hb hby d1_39) rfl k) ?_
  show own_Out p e below _ s₁ (mkF m 40 #[.val (.long u0), .second, .val (.long (own_nw u0 (own_nw u0 (own_nw u0 u0)))), .second] [(.long ((2 : Int64) - (u0 * (own_nw u0 (own_nw u0 (own_nw u0 u0)))))), (.long (own_nw u0 (own_nw u0 (own_nw u0 u0))))]) _ _ _
  refine own_to (fun t k => XS.lmul X0.here hx rfl (hb hby d1_40) rfl k) ?_
  show own_Out p e below _ s₁ (mkF m 41 #[.val (.long u0), .second, .val (.long (own_nw u0 (own_nw u0 (own_nw u0 u0)))), .second] [(.long ((own_nw u0 (own_nw u0 (own_nw u0 u0))) * ((2 : Int64) - (u0 * (own_nw u0 (own_nw u0 (own_nw u0 u0)))))))]) _ _ _
  refine own_to (fun t k => XS.lstoreN X0.here hx rfl (hb hby d1_41) rfl (l' := #[.val (.long u0), .second, .val (.long ((own_nw u0 (own_nw u0 (own_nw u0 u0))) * ((2 : Int64) - (u0 * (own_nw u0 (own_nw u0 (own_nw u0 u0))))))), .second]) rfl k) ?_
  show own_Out p e below _ s₁ (mkF m 42 #[.val (.long u0), .second, .val (.long ((own_nw u0 (own_nw u0 (own_nw u0 u0))) * ((2 : Int64) - (u0 * (own_nw u0 (own_nw u0 (own_nw u0 u0))))))), .second] []) _ _ _
  show own_Out p e below _ s₁ (mkF m 42 #[.val (.long u0), .second, .val (.long (own_nw u0 (own_nw u0 (own_nw u0 (own_nw u0 u0))))), .second] []) _ _ _
  refine own_to (fun t k => XS.lloadN X0.here hx rfl (hb hby d1_42) rfl k) ?_
  show own_Out p e below _ s₁ (mkF m 43 #[.val (.long u0), .second, .val (.long (own_nw u0 (own_nw u0 (own_nw u0 (own_nw u0 u0))))), .second] [(.long (own_nw u0 (own_nw u0 (own_nw u0 (own_nw u0 u0)))))]) _ _ _
  refine own_to (fun t k => X0.ldc2J hx hown (mvT hZ (hw _ (List.mem_of_getElem? (i := 5) rfl))) rfl (hb hby d1_43) k) ?_
  show own_Out p e below _ s₁ (mkF m 46 #[.val (.long u0), .second, .val (.long (own_nw u0 (own_nw u0 (own_nw u0 (own_nw u0 u0))))), .second] [(.long (2 : Int64)), (.long (own_nw u0 (own_nw u0 (own_nw u0 (own_nw u0 u0)))))]) _ _ _
  refine own_to (fun t k => XS.lloadN X0.here hx rfl (hb hby d1_46) rfl k) ?_
  show own_Out p e below _ s₁ (mkF m 47 #[.val (.long u0), .second, .val (.long (own_nw u0 (own_nw u0 (own_nw u0 (own_nw u0 u0))))), .second] [(.long u0), (.long (2 : Int64)), (.long (own_nw u0 (own_nw u0 (own_nw u0 (own_nw u0 u0)))))]) _ _ _
  refine own_to (fun t k => XS.lloadN X0.here hx rfl (hb hby d1_47) rfl k) ?_
  show own_Out p e below _ s₁ (mkF m 48 #[.val (.long u0), .second, .val (.long (own_nw u0 (own_nw u0 (own_nw u0 (own_nw u0 u0))))), .second] [(.long (own_nw u0 (own_nw u0 (own_nw u0 (own_nw u0 u0))))), (.long u0), (.long (2 : Int64)), (.long (own_nw u0 (own_nw u0 (own_nw u0 (own_nw u0 u0)))))]) _ _ _
  refine own_to (fun t k => XS.lmul X0.here hx rfl (hb hby d1_48) rfl k) ?_
  show own_Out p e below _ s₁ (mkF m 49 #[.val (.long u0), .second, .val (.long (own_nw u0 (own_nw u0 (own_nw u0 (own_nw u0 u0))))), .second] [(.long (u0 * (own_nw u0 (own_nw u0 (own_nw u0 (own_nw u0 u0)))))), (.long (2 : Int64)), (.long (own_nw u0 (own_nw u0 (own_nw u0 (own_nw u0 u0)))))]) _ _ _
  refine own_to (fun t k => XS.lsub X0.here hx rfl (hb hby d1_49) rfl k) ?_
  show own_Out p e below _ s₁ (mkF m 50 #[.val (.long u0), .second, .val (.long (own_nw u0 (own_nw u0 (own_nw u0 (own_nw u0 u0))))), .second] [(.long ((2 : Int64) - (u0 * (own_nw u0 (own_nw u0 (own_nw u0 (own_nw u0 u0))))))), (.long (own_nw u0 (own_nw u0 (own_nw u0 (own_nw u0 u0)))))]) _ _ _
  refine own_to (fun t k => XS.lmul X0.here hx rfl (hb hby d1_50) rfl k) ?_
  show own_Out p e below _ s₁ (mkF m 51 #[.val (.long u0), .second, .val (.long (own_nw u0 (own_nw u0 (own_nw u0 (own_nw u0 u0))))), .second] [(.long ((own_nw u0 (own_nw u0 (own_nw u0 (own_nw u0 u0)))) * ((2 : Int64) - (u0 * (own_nw u0 (own_nw u0 (own_nw u0 (own_nw u0 u0))))))))]) _ _ _
  refine own_to (fun t k => XS.lstoreN X0.here hx rfl (hb hby d1_51) rfl (l' := #[.val (.long u0), .second, .val (.long ((own_nw u0 (own_nw u0 (own_nw u0 (own_nw u0 u0)))) * ((2 : Int64) - (u0 * (own_nw u0 (own_nw u0 (own_nw u0 (own_nw u0 u0)))))))), .second]) rfl k) ?_
  show own_Out p e below _ s₁ (mkF m 52 #[.val (.long u0), .second, .val (.long ((own_nw u0 (own_nw u0 (own_nw u0 (own_nw u0 u0)))) * ((2 : Int64) - (u0 * (own_nw u0 (own_nw u0 (own_nw u0 (own_nw u0 u0)))))))), .second] []) _ _ _
  show own_Out p e below _ s₁ (mkF m 52 #[.val (.long u0), .second, .val (.long (own_inv u0)), .second] []) _ _ _
  refine own_to (fun t k => XS.lloadN X0.here hx rfl (hb hby d1_52) rfl k) ?_
  show own_Out p e below _ s₁ (mkF m 53 #[.val (.long u0), .second, .val (.long (own_inv u0)), .second] [(.long (own_inv u0))]) _ _ _
  refine own_retJ X0 hx hlk hret (hb hby d1_53) (by decide) (by decide) ?_
  rw [e0]
  exact ⟨rfl, N0, rfl⟩
theorem d2_0 : decode prog_23_method_12_code 0 = .ok (.lload_n 0, 1) := by decide +kernel
theorem d2_1 : decode prog_23_method_12_code 1 = .ok (.lstore_n 2, 1) := by decide +kernel
theorem d2_2 : decode prog_23_method_12_code 2 = .ok (.lload_n 2, 1) := by decide +kernel
theorem d2_3 : decode prog_23_method_12_code 3 = .ok (.lload_n 2, 1) := by decide +kernel
theorem d2_4 : decode prog_23_method_12_code 4 = .ok (.bipush 33, 2) := by decide +kernel
theorem d2_6 : decode prog_23_method_12_code 6 = .ok (.lushr, 1) := by decide +kernel
theorem d2_7 : decode prog_23_method_12_code 7 = .ok (.lxor, 1) := by decide +kernel
theorem d2_8 : decode prog_23_method_12_code 8 = .ok (.ldc2_w 133, 3) := by decide +kernel
theorem d2_11 : decode prog_23_method_12_code 11 = .ok (.lmul, 1) := by decide +kernel
theorem d2_12 : decode prog_23_method_12_code 12 = .ok (.lstore_n 2, 1) := by decide +kernel
theorem d2_13 : decode prog_23_method_12_code 13 = .ok (.lload_n 2, 1) := by decide +kernel
theorem d2_14 : decode prog_23_method_12_code 14 = .ok (.lload_n 2, 1) := by decide +kernel
theorem d2_15 : decode prog_23_method_12_code 15 = .ok (.bipush 33, 2) := by decide +kernel
theorem d2_17 : decode prog_23_method_12_code 17 = .ok (.lushr, 1) := by decide +kernel
theorem d2_18 : decode prog_23_method_12_code 18 = .ok (.lxor, 1) := by decide +kernel
theorem d2_19 : decode prog_23_method_12_code 19 = .ok (.ldc2_w 135, 3) := by decide +kernel
theorem d2_22 : decode prog_23_method_12_code 22 = .ok (.lmul, 1) := by decide +kernel
theorem d2_23 : decode prog_23_method_12_code 23 = .ok (.lstore_n 2, 1) := by decide +kernel
theorem d2_24 : decode prog_23_method_12_code 24 = .ok (.lload_n 2, 1) := by decide +kernel
theorem d2_25 : decode prog_23_method_12_code 25 = .ok (.lload_n 2, 1) := by decide +kernel
theorem d2_26 : decode prog_23_method_12_code 26 = .ok (.bipush 33, 2) := by decide +kernel
theorem d2_28 : decode prog_23_method_12_code 28 = .ok (.lushr, 1) := by decide +kernel
theorem d2_29 : decode prog_23_method_12_code 29 = .ok (.lxor, 1) := by decide +kernel
theorem d2_30 : decode prog_23_method_12_code 30 = .ok (.lreturn, 1) := by decide +kernel
theorem pn_1 : plainName "com/example/hemlock_gorge/hemlockgorge/KeyHash" = true := by first | (simp [plainName, overriddenIn]; done) | decide +kernel
theorem ef_2 (m : MethodId) (u0 : Int64) : entryFrame m #[(.long u0)] 4 = mkF m 0 #[.val (.long u0), .second, .unset, .unset] [] := by first | (simp [entryFrame, mkF, argsToLocals, Value.category]; done) | rfl
def Q2 (Z : State) (u0 : Int64) (h0 : Heap) (n0 : Nat) (v : Option Value) (h : Heap) (L : List Loc) : Prop := v = some (.long (own_fm u0)) ∧ Fr n0 L ∧ h = h0
set_option maxRecDepth 65536 in
set_option maxHeartbeats 40000000 in
theorem rm2 (l : Launch) (Z : State) (a0 : Array Value) (hw : ∀ d ∈ tables_1, d.before a0 Z = true) (u0 : Int64) (h0 : Heap) (n0 : Nat) (Z0 : n0 ≤ h0.size) :
    own_C l Z (⟨"com/example/hemlock_gorge/hemlockgorge/KeyHash", "finalMix", "(J)J"⟩ : MethodName) prog_23_method_12_code 4 (some .long) ({ frames := 0, cells := 0, slots := 0, locals := 0 } : Room) #[(.long u0)] h0 (Q2 Z u0 h0 n0) := by
  refine own_met (plainFor_of_name pn_1) ?_
  intro p e s m below meth c s₁ hx hby hml hret hlk hown hnm hZ X0 e0
  refine own_cast (ef_2 m u0) ?_
  have N0 := Fr.nil n0
  show own_Out p e below _ s₁ (mkF m 0 #[.val (.long u0), .second, .unset, .unset] []) _ _ _
  refine own_to (fun t k => XS.lloadN X0.here hx rfl (hb hby d2_0) rfl k) ?_
  show own_Out p e below _ s₁ (mkF m 1 #[.val (.long u0), .second, .unset, .unset] [(.long u0)]) _ _ _
  refine own_to (fun t k => XS.lstoreN X0.here hx rfl (hb hby d2_1) rfl (l' := #[.val (.long u0), .second, .val (.long u0), .second]) rfl k) ?_
  show own_Out p e below _ s₁ (mkF m 2 #[.val (.long u0), .second, .val (.long u0), .second] []) _ _ _
  refine own_to (fun t k => XS.lloadN X0.here hx rfl (hb hby d2_2) rfl k) ?_
  show own_Out p e below _ s₁ (mkF m 3 #[.val (.long u0), .second, .val (.long u0), .second] [(.long u0)]) _ _ _
  refine own_to (fun t k => XS.lloadN X0.here hx rfl (hb hby d2_3) rfl k) ?_
  show own_Out p e below _ s₁ (mkF m 4 #[.val (.long u0), .second, .val (.long u0), .second] [(.long u0), (.long u0)]) _ _ _
  refine own_to (fun t k => XS.bipush X0.here hx rfl (hb hby d2_4) k) ?_
  show own_Out p e below _ s₁ (mkF m 6 #[.val (.long u0), .second, .val (.long u0), .second] [(.int (33 : Int32)), (.long u0), (.long u0)]) _ _ _
  refine own_to (fun t k => XS.lushr X0.here hx rfl (hb hby d2_6) rfl k) ?_
  show own_Out p e below _ s₁ (mkF m 7 #[.val (.long u0), .second, .val (.long u0), .second] [(.long ((u0.toUInt64 >>> ((33 : Int32) &&& 0x3f).toInt64.toUInt64).toInt64)), (.long u0)]) _ _ _
  refine own_to (fun t k => XS.lxor X0.here hx rfl (hb hby d2_7) rfl k) ?_
  show own_Out p e below _ s₁ (mkF m 8 #[.val (.long u0), .second, .val (.long u0), .second] [(.long (u0 ^^^ ((u0.toUInt64 >>> ((33 : Int32) &&& 0x3f).toInt64.toUInt64).toInt64)))]) _ _ _
  show own_Out p e below _ s₁ (mkF m 8 #[.val (.long u0), .second, .val (.long u0), .second] [(.long (own_us u0))]) _ _ _
  refine own_to (fun t k => X0.ldc2J hx hown (mvT hZ (hw _ (List.mem_of_getElem? (i := 11) rfl))) rfl (hb hby d2_8) k) ?_
  show own_Out p e below _ s₁ (mkF m 11 #[.val (.long u0), .second, .val (.long u0), .second] [(.long (-49064778989728563 : Int64)), (.long (own_us u0))]) _ _ _
  refine own_to (fun t k => XS.lmul X0.here hx rfl (hb hby d2_11) rfl k) ?_
  show own_Out p e below _ s₁ (mkF m 12 #[.val (.long u0), .second, .val (.long u0), .second] [(.long ((own_us u0) * (-49064778989728563 : Int64)))]) _ _ _
  refine own_to (fun t k => XS.lstoreN X0.here hx rfl (hb hby d2_12) rfl (l' := #[.val (.long u0), .second, .val (.long ((own_us u0) * (-49064778989728563 : Int64))), .second]) rfl k) ?_
  show own_Out p e below _ s₁ (mkF m 13 #[.val (.long u0), .second, .val (.long ((own_us u0) * (-49064778989728563 : Int64))), .second] []) _ _ _
  refine own_to (fun t k => XS.lloadN X0.here hx rfl (hb hby d2_13) rfl k) ?_
  show own_Out p e below _ s₁ (mkF m 14 #[.val (.long u0), .second, .val (.long ((own_us u0) * (-49064778989728563 : Int64))), .second] [(.long ((own_us u0) * (-49064778989728563 : Int64)))]) _ _ _
  refine own_to (fun t k => XS.lloadN X0.here hx rfl (hb hby d2_14) rfl k) ?_
  show own_Out p e below _ s₁ (mkF m 15 #[.val (.long u0), .second, .val (.long ((own_us u0) * (-49064778989728563 : Int64))), .second] [(.long ((own_us u0) * (-49064778989728563 : Int64))), (.long ((own_us u0) * (-49064778989728563 : Int64)))]) _ _ _
  refine own_to (fun t k => XS.bipush X0.here hx rfl (hb hby d2_15) k) ?_
  show own_Out p e below _ s₁ (mkF m 17 #[.val (.long u0), .second, .val (.long ((own_us u0) * (-49064778989728563 : Int64))), .second] [(.int (33 : Int32)), (.long ((own_us u0) * (-49064778989728563 : Int64))), (.long ((own_us u0) * (-49064778989728563 : Int64)))]) _ _ _
  refine own_to (fun t k => XS.lushr X0.here hx rfl (hb hby d2_17) rfl k) ?_
  show own_Out p e below _ s₁ (mkF m 18 #[.val (.long u0), .second, .val (.long ((own_us u0) * (-49064778989728563 : Int64))), .second] [(.long ((((own_us u0) * (-49064778989728563 : Int64)).toUInt64 >>> ((33 : Int32) &&& 0x3f).toInt64.toUInt64).toInt64)), (.long ((own_us u0) * (-49064778989728563 : Int64)))]) _ _ _
  refine own_to (fun t k => XS.lxor X0.here hx rfl (hb hby d2_18) rfl k) ?_
  show own_Out p e below _ s₁ (mkF m 19 #[.val (.long u0), .second, .val (.long ((own_us u0) * (-49064778989728563 : Int64))), .second] [(.long (((own_us u0) * (-49064778989728563 : Int64)) ^^^ ((((own_us u0) * (-49064778989728563 : Int64)).toUInt64 >>> ((33 : Int32) &&& 0x3f).toInt64.toUInt64).toInt64)))]) _ _ _
  show own_Out p e below _ s₁ (mkF m 19 #[.val (.long u0), .second, .val (.long ((own_us u0) * (-49064778989728563 : Int64))), .second] [(.long (own_us ((own_us u0) * (-49064778989728563 : Int64))))]) _ _ _
  refine own_to (fun t k => X0.ldc2J hx hown (mvT hZ (hw _ (List.mem_of_getElem? (i := 12) rfl))) rfl (hb hby d2_19) k) ?_
  show own_Out p e below _ s₁ (mkF m 22 #[.val (.long u0), .second, .val (.long ((own_us u0) * (-49064778989728563 : Int64))), .second] [(.long (-4265267296055464877 : Int64)), (.long (own_us ((own_us u0) * (-49064778989728563 : Int64))))]) _ _ _
  refine own_to (fun t k => XS.lmul X0.here hx rfl (hb hby d2_22) rfl k) ?_
  show own_Out p e below _ s₁ (mkF m 23 #[.val (.long u0), .second, .val (.long ((own_us u0) * (-49064778989728563 : Int64))), .second] [(.long ((own_us ((own_us u0) * (-49064778989728563 : Int64))) * (-4265267296055464877 : Int64)))]) _ _ _
  refine own_to (fun t k => XS.lstoreN X0.here hx rfl (hb hby d2_23) rfl (l' := #[.val (.long u0), .second, .val (.long ((own_us ((own_us u0) * (-49064778989728563 : Int64))) * (-4265267296055464877 : Int64))), .second]) rfl k) ?_
  show own_Out p e below _ s₁ (mkF m 24 #[.val (.long u0), .second, .val (.long ((own_us ((own_us u0) * (-49064778989728563 : Int64))) * (-4265267296055464877 : Int64))), .second] []) _ _ _
  refine own_to (fun t k => XS.lloadN X0.here hx rfl (hb hby d2_24) rfl k) ?_
  show own_Out p e below _ s₁ (mkF m 25 #[.val (.long u0), .second, .val (.long ((own_us ((own_us u0) * (-49064778989728563 : Int64))) * (-4265267296055464877 : Int64))), .second] [(.long ((own_us ((own_us u0) * (-49064778989728563 : Int64))) * (-4265267296055464877 : Int64)))]) _ _ _
  refine own_to (fun t k => XS.lloadN X0.here hx rfl (hb hby d2_25) rfl k) ?_
  show own_Out p e below _ s₁ (mkF m 26 #[.val (.long u0), .second, .val (.long ((own_us ((own_us u0) * (-49064778989728563 : Int64))) * (-4265267296055464877 : Int64))), .second] [(.long ((own_us ((own_us u0) * (-49064778989728563 : Int64))) * (-4265267296055464877 : Int64))), (.long ((own_us ((own_us u0) * (-49064778989728563 : Int64))) * (-4265267296055464877 : Int64)))]) _ _ _
  refine own_to (fun t k => XS.bipush X0.here hx rfl (hb hby d2_26) k) ?_
  show own_Out p e below _ s₁ (mkF m 28 #[.val (.long u0), .second, .val (.long ((own_us ((own_us u0) * (-49064778989728563 : Int64))) * (-4265267296055464877 : Int64))), .second] [(.int (33 : Int32)), (.long ((own_us ((own_us u0) * (-49064778989728563 : Int64))) * (-4265267296055464877 : Int64))), (.long ((own_us ((own_us u0) * (-49064778989728563 : Int64))) * (-4265267296055464877 : Int64)))]) _ _ _
  refine own_to (fun t k => XS.lushr X0.here hx rfl (hb hby d2_28) rfl k) ?_
  show own_Out p e below _ s₁ (mkF m 29 #[.val (.long u0), .second, .val (.long ((own_us ((own_us u0) * (-49064778989728563 : Int64))) * (-4265267296055464877 : Int64))), .second] [(.long ((((own_us ((own_us u0) * (-49064778989728563 : Int64))) * (-4265267296055464877 : Int64)).toUInt64 >>> ((33 : Int32) &&& 0x3f).toInt64.toUInt64).toInt64)), (.long ((own_us ((own_us u0) * (-49064778989728563 : Int64))) * (-4265267296055464877 : Int64)))]) _ _ _
  refine own_to (fun t k => XS.lxor X0.here hx rfl (hb hby d2_29) rfl k) ?_
  show own_Out p e below _ s₁ (mkF m 30 #[.val (.long u0), .second, .val (.long ((own_us ((own_us u0) * (-49064778989728563 : Int64))) * (-4265267296055464877 : Int64))), .second] [(.long (((own_us ((own_us u0) * (-49064778989728563 : Int64))) * (-4265267296055464877 : Int64)) ^^^ ((((own_us ((own_us u0) * (-49064778989728563 : Int64))) * (-4265267296055464877 : Int64)).toUInt64 >>> ((33 : Int32) &&& 0x3f).toInt64.toUInt64).toInt64)))]) _ _ _
  show own_Out p e below _ s₁ (mkF m 30 #[.val (.long u0), .second, .val (.long ((own_us ((own_us u0) * (-49064778989728563 : Int64))) * (-4265267296055464877 : Int64))), .second] [(.long (own_fm u0))]) _ _ _
  refine own_retJ X0 hx hlk hret (hb hby d2_30) (by decide) (by decide) ?_
  rw [e0]
  exact ⟨rfl, N0, rfl⟩
theorem d3_0 : decode method_3_code 0 = .ok (.lload_n 0, 1) := by decide +kernel
theorem d3_1 : decode method_3_code 1 = .ok (.lload_n 0, 1) := by decide +kernel
theorem d3_2 : decode method_3_code 2 = .ok (.bipush 33, 2) := by decide +kernel
theorem d3_4 : decode method_3_code 4 = .ok (.lushr, 1) := by decide +kernel
theorem d3_5 : decode method_3_code 5 = .ok (.lxor, 1) := by decide +kernel
theorem d3_6 : decode method_3_code 6 = .ok (.lreturn, 1) := by decide +kernel
theorem ef_3 (m : MethodId) (u0 : Int64) : entryFrame m #[(.long u0)] 2 = mkF m 0 #[.val (.long u0), .second] [] := by first | (simp [entryFrame, mkF, argsToLocals, Value.category]; done) | rfl
def Q3 (Z : State) (u0 : Int64) (h0 : Heap) (n0 : Nat) (v : Option Value) (h : Heap) (L : List Loc) : Prop := v = some (.long (own_us u0)) ∧ Fr n0 L ∧ h = h0
set_option maxRecDepth 65536 in
set_option maxHeartbeats 40000000 in
theorem rm3 (l : Launch) (Z : State) (a0 : Array Value) (hw : ∀ d ∈ tables_1, d.before a0 Z = true) (u0 : Int64) (h0 : Heap) (n0 : Nat) (Z0 : n0 ≤ h0.size) :
    own_C l Z (⟨"com/example/hemlock_gorge/hemlockgorge/KeyHashFinalMixPinLaw", "unshift", "(J)J"⟩ : MethodName) method_3_code 2 (some .long) ({ frames := 0, cells := 0, slots := 0, locals := 0 } : Room) #[(.long u0)] h0 (Q3 Z u0 h0 n0) := by
  refine own_met (plainFor_of_name pn_0) ?_
  intro p e s m below meth c s₁ hx hby hml hret hlk hown hnm hZ X0 e0
  refine own_cast (ef_3 m u0) ?_
  have N0 := Fr.nil n0
  show own_Out p e below _ s₁ (mkF m 0 #[.val (.long u0), .second] []) _ _ _
  refine own_to (fun t k => XS.lloadN X0.here hx rfl (hb hby d3_0) rfl k) ?_
  show own_Out p e below _ s₁ (mkF m 1 #[.val (.long u0), .second] [(.long u0)]) _ _ _
  refine own_to (fun t k => XS.lloadN X0.here hx rfl (hb hby d3_1) rfl k) ?_
  show own_Out p e below _ s₁ (mkF m 2 #[.val (.long u0), .second] [(.long u0), (.long u0)]) _ _ _
  refine own_to (fun t k => XS.bipush X0.here hx rfl (hb hby d3_2) k) ?_
  show own_Out p e below _ s₁ (mkF m 4 #[.val (.long u0), .second] [(.int (33 : Int32)), (.long u0), (.long u0)]) _ _ _
  refine own_to (fun t k => XS.lushr X0.here hx rfl (hb hby d3_4) rfl k) ?_
  show own_Out p e below _ s₁ (mkF m 5 #[.val (.long u0), .second] [(.long ((u0.toUInt64 >>> ((33 : Int32) &&& 0x3f).toInt64.toUInt64).toInt64)), (.long u0)]) _ _ _
  refine own_to (fun t k => XS.lxor X0.here hx rfl (hb hby d3_5) rfl k) ?_
  show own_Out p e below _ s₁ (mkF m 6 #[.val (.long u0), .second] [(.long (u0 ^^^ ((u0.toUInt64 >>> ((33 : Int32) &&& 0x3f).toInt64.toUInt64).toInt64)))]) _ _ _
  refine own_retJ X0 hx hlk hret (hb hby d3_6) (by decide) (by decide) ?_
  rw [e0]
  exact ⟨rfl, N0, rfl⟩
theorem ef_0 (m : MethodId) (x0 : Int64) : entryFrame m #[(.long x0)] maxLocals = mkF m 0 #[.val (.long x0), .second, .unset, .unset, .unset, .unset, .unset, .unset, .unset, .unset] [] := by first | (simp [entryFrame, mkF, argsToLocals, Value.category, maxLocals]; done) | rfl
def Q0 (Z : State) (x0 : Int64) (h0 : Heap) (n0 : Nat) (v : Option Value) (h : Heap) (L : List Loc) : Prop := v = some (.int (1 : Int32)) ∧ Fr n0 L
theorem pd_0 : parseMethodDescriptor "(J)J" = some ⟨[.long], some .long⟩ := by decide +kernel
set_option maxRecDepth 65536 in
set_option maxHeartbeats 40000000 in
theorem rm0 (l : Launch) (Z : State) (a0 : Array Value) (hw : ∀ d ∈ tables_1, d.before a0 Z = true) (x0 : Int64) (h0 : Heap) (n0 : Nat) (Z0 : n0 ≤ h0.size) :
    own_C l Z x code maxLocals ret room_1 #[(.long x0)] h0 (Q0 Z x0 h0 n0) := by
  refine own_met (plainFor_of_name pn_0) ?_
  intro p e s m below meth c s₁ hx hby hml hret hlk hown hnm hZ X0 e0
  refine own_cast (ef_0 m x0) ?_
  have N0 := Fr.nil n0
  show own_Out p e below _ s₁ (mkF m 0 #[.val (.long x0), .second, .unset, .unset, .unset, .unset, .unset, .unset, .unset, .unset] []) _ _ _
  refine own_to (fun t k => X0.ldc2J hx hown (mvT hZ (hw _ (List.mem_of_getElem? (i := 0) rfl))) rfl (hb hby at_0) k) ?_
  show own_Out p e below _ s₁ (mkF m 3 #[.val (.long x0), .second, .unset, .unset, .unset, .unset, .unset, .unset, .unset, .unset] [(.long (-49064778989728563 : Int64))]) _ _ _
  refine own_callS X0 hx hZ hown (argsL := [(.long (-49064778989728563 : Int64))]) (rest := []) (hw _ (List.mem_of_getElem? (i := 1) rfl)) (hw _ (List.mem_of_getElem? (i := 2) rfl)) (hw _ (List.mem_of_getElem? (i := 3) rfl)) (hw _ (List.mem_of_getElem? (i := 4) rfl)) (by decide) (rm1 l Z a0 hw (-49064778989728563 : Int64) h0 n0 Z0 ) (by decide) (by decide) e0 rfl (by rw [hml]; rfl) (lenOf pd_0 rfl) rfl (W := 0) (by show 2 * 0 + _ ≤ _; exact Nat.le_of_eq rfl) (hb hby at_3) (by decide) (by decide) fun v1 T1 hh1 L1 X1 e1 hQ1 => ?_
  obtain ⟨rfl, NL1, he1⟩ := hQ1
  replace e1 := e1.trans he1
  have N1 := Fr.app N0 NL1
  show own_Out p e below _ T1 (mkF m 6 #[.val (.long x0), .second, .unset, .unset, .unset, .unset, .unset, .unset, .unset, .unset] [(.long (own_inv (-49064778989728563 : Int64)))]) _ _ _
  refine own_to (fun t k => XS.lstoreN X1.here hx rfl (hb hby at_6) rfl (l' := #[.val (.long x0), .second, .val (.long (own_inv (-49064778989728563 : Int64))), .second, .unset, .unset, .unset, .unset, .unset, .unset]) rfl k) ?_
  show own_Out p e below _ T1 (mkF m 7 #[.val (.long x0), .second, .val (.long (own_inv (-49064778989728563 : Int64))), .second, .unset, .unset, .unset, .unset, .unset, .unset] []) _ _ _
  refine own_to (fun t k => X1.ldc2J hx hown (mvT hZ (hw _ (List.mem_of_getElem? (i := 6) rfl))) rfl (hb hby at_7) k) ?_
  show own_Out p e below _ T1 (mkF m 10 #[.val (.long x0), .second, .val (.long (own_inv (-49064778989728563 : Int64))), .second, .unset, .unset, .unset, .unset, .unset, .unset] [(.long (-4265267296055464877 : Int64))]) _ _ _
  refine own_callS X1 hx hZ hown (argsL := [(.long (-4265267296055464877 : Int64))]) (rest := []) (hw _ (List.mem_of_getElem? (i := 1) rfl)) (hw _ (List.mem_of_getElem? (i := 2) rfl)) (hw _ (List.mem_of_getElem? (i := 3) rfl)) (hw _ (List.mem_of_getElem? (i := 4) rfl)) (by decide) (rm1 l Z a0 hw (-4265267296055464877 : Int64) h0 n0 Z0 ) (by decide) (by decide) e1 rfl (by rw [hml]; rfl) (lenOf pd_0 rfl) rfl (W := 0) (by show 2 * 0 + _ ≤ _; exact Nat.le_of_eq rfl) (hb hby at_10) (by decide) (by decide) fun v2 T2 hh2 L2 X2 e2 hQ2 => ?_
  obtain ⟨rfl, NL2, he2⟩ := hQ2
  replace e2 := e2.trans he2
  have N2 := Fr.app N1 NL2
  show own_Out p e below _ T2 (mkF m 13 #[.val (.long x0), .second, .val (.long (own_inv (-49064778989728563 : Int64))), .second, .unset, .unset, .unset, .unset, .unset, .unset] [(.long (own_inv (-4265267296055464877 : Int64)))]) _ _ _
  refine own_to (fun t k => XS.lstore X2.here hx rfl (hb hby at_13) rfl (l' := #[.val (.long x0), .second, .val (.long (own_inv (-49064778989728563 : Int64))), .second, .val (.long (own_inv (-4265267296055464877 : Int64))), .second, .unset, .unset, .unset, .unset]) rfl k) ?_
  show own_Out p e below _ T2 (mkF m 15 #[.val (.long x0), .second, .val (.long (own_inv (-49064778989728563 : Int64))), .second, .val (.long (own_inv (-4265267296055464877 : Int64))), .second, .unset, .unset, .unset, .unset] []) _ _ _
  refine own_to (fun t k => XS.lloadN X2.here hx rfl (hb hby at_15) rfl k) ?_
  show own_Out p e below _ T2 (mkF m 16 #[.val (.long x0), .second, .val (.long (own_inv (-49064778989728563 : Int64))), .second, .val (.long (own_inv (-4265267296055464877 : Int64))), .second, .unset, .unset, .unset, .unset] [(.long x0)]) _ _ _
  refine own_callS X2 hx hZ hown (argsL := [(.long x0)]) (rest := []) (hw _ (List.mem_of_getElem? (i := 7) rfl)) (hw _ (List.mem_of_getElem? (i := 8) rfl)) (hw _ (List.mem_of_getElem? (i := 9) rfl)) (hw _ (List.mem_of_getElem? (i := 10) rfl)) (by decide) (rm2 l Z a0 hw x0 h0 n0 Z0 ) (by decide) (by decide) e2 rfl (by rw [hml]; rfl) (lenOf pd_0 rfl) rfl (W := 0) (by show 2 * 0 + _ ≤ _; exact Nat.le_of_eq rfl) (hb hby at_16) (by decide) (by decide) fun v3 T3 hh3 L3 X3 e3 hQ3 => ?_
  obtain ⟨rfl, NL3, he3⟩ := hQ3
  replace e3 := e3.trans he3
  have N3 := Fr.app N2 NL3
  show own_Out p e below _ T3 (mkF m 19 #[.val (.long x0), .second, .val (.long (own_inv (-49064778989728563 : Int64))), .second, .val (.long (own_inv (-4265267296055464877 : Int64))), .second, .unset, .unset, .unset, .unset] [(.long (own_fm x0))]) _ _ _
  refine own_to (fun t k => XS.lstore X3.here hx rfl (hb hby at_19) rfl (l' := #[.val (.long x0), .second, .val (.long (own_inv (-49064778989728563 : Int64))), .second, .val (.long (own_inv (-4265267296055464877 : Int64))), .second, .val (.long (own_fm x0)), .second, .unset, .unset]) rfl k) ?_
  show own_Out p e below _ T3 (mkF m 21 #[.val (.long x0), .second, .val (.long (own_inv (-49064778989728563 : Int64))), .second, .val (.long (own_inv (-4265267296055464877 : Int64))), .second, .val (.long (own_fm x0)), .second, .unset, .unset] []) _ _ _
  refine own_to (fun t k => XS.lload X3.here hx rfl (hb hby at_21) rfl k) ?_
  show own_Out p e below _ T3 (mkF m 23 #[.val (.long x0), .second, .val (.long (own_inv (-49064778989728563 : Int64))), .second, .val (.long (own_inv (-4265267296055464877 : Int64))), .second, .val (.long (own_fm x0)), .second, .unset, .unset] [(.long (own_fm x0))]) _ _ _
  refine own_callS X3 hx hZ hown (argsL := [(.long (own_fm x0))]) (rest := []) (hw _ (List.mem_of_getElem? (i := 13) rfl)) (hw _ (List.mem_of_getElem? (i := 14) rfl)) (hw _ (List.mem_of_getElem? (i := 3) rfl)) (hw _ (List.mem_of_getElem? (i := 15) rfl)) (by decide) (rm3 l Z a0 hw (own_fm x0) h0 n0 Z0 ) (by decide) (by decide) e3 rfl (by rw [hml]; rfl) (lenOf pd_0 rfl) rfl (W := 0) (by show 2 * 0 + _ ≤ _; exact Nat.le_of_eq rfl) (hb hby at_23) (by decide) (by decide) fun v4 T4 hh4 L4 X4 e4 hQ4 => ?_
  obtain ⟨rfl, NL4, he4⟩ := hQ4
  replace e4 := e4.trans he4
  have N4 := Fr.app N3 NL4
  show own_Out p e below _ T4 (mkF m 26 #[.val (.long x0), .second, .val (.long (own_inv (-49064778989728563 : Int64))), .second, .val (.long (own_inv (-4265267296055464877 : Int64))), .second, .val (.long (own_fm x0)), .second, .unset, .unset] [(.long (own_us (own_fm x0)))]) _ _ _
  refine own_to (fun t k => XS.lload X4.here hx rfl (hb hby at_26) rfl k) ?_
  show own_Out p e below _ T4 (mkF m 28 #[.val (.long x0), .second, .val (.long (own_inv (-49064778989728563 : Int64))), .second, .val (.long (own_inv (-4265267296055464877 : Int64))), .second, .val (.long (own_fm x0)), .second, .unset, .unset] [(.long (own_inv (-4265267296055464877 : Int64))), (.long (own_us (own_fm x0)))]) _ _ _
  refine own_to (fun t k => XS.lmul X4.here hx rfl (hb hby at_28) rfl k) ?_
  show own_Out p e below _ T4 (mkF m 29 #[.val (.long x0), .second, .val (.long (own_inv (-49064778989728563 : Int64))), .second, .val (.long (own_inv (-4265267296055464877 : Int64))), .second, .val (.long (own_fm x0)), .second, .unset, .unset] [(.long ((own_us (own_fm x0)) * (own_inv (-4265267296055464877 : Int64))))]) _ _ _
  refine own_callS X4 hx hZ hown (argsL := [(.long ((own_us (own_fm x0)) * (own_inv (-4265267296055464877 : Int64))))]) (rest := []) (hw _ (List.mem_of_getElem? (i := 13) rfl)) (hw _ (List.mem_of_getElem? (i := 14) rfl)) (hw _ (List.mem_of_getElem? (i := 3) rfl)) (hw _ (List.mem_of_getElem? (i := 15) rfl)) (by decide) (rm3 l Z a0 hw ((own_us (own_fm x0)) * (own_inv (-4265267296055464877 : Int64))) h0 n0 Z0 ) (by decide) (by decide) e4 rfl (by rw [hml]; rfl) (lenOf pd_0 rfl) rfl (W := 0) (by show 2 * 0 + _ ≤ _; exact Nat.le_of_eq rfl) (hb hby at_29) (by decide) (by decide) fun v5 T5 hh5 L5 X5 e5 hQ5 => ?_
  obtain ⟨rfl, NL5, he5⟩ := hQ5
  replace e5 := e5.trans he5
  have N5 := Fr.app N4 NL5
  show own_Out p e below _ T5 (mkF m 32 #[.val (.long x0), .second, .val (.long (own_inv (-49064778989728563 : Int64))), .second, .val (.long (own_inv (-4265267296055464877 : Int64))), .second, .val (.long (own_fm x0)), .second, .unset, .unset] [(.long (own_us ((own_us (own_fm x0)) * (own_inv (-4265267296055464877 : Int64)))))]) _ _ _
  refine own_to (fun t k => XS.lloadN X5.here hx rfl (hb hby at_32) rfl k) ?_
  show own_Out p e below _ T5 (mkF m 33 #[.val (.long x0), .second, .val (.long (own_inv (-49064778989728563 : Int64))), .second, .val (.long (own_inv (-4265267296055464877 : Int64))), .second, .val (.long (own_fm x0)), .second, .unset, .unset] [(.long (own_inv (-49064778989728563 : Int64))), (.long (own_us ((own_us (own_fm x0)) * (own_inv (-4265267296055464877 : Int64)))))]) _ _ _
  refine own_to (fun t k => XS.lmul X5.here hx rfl (hb hby at_33) rfl k) ?_
  show own_Out p e below _ T5 (mkF m 34 #[.val (.long x0), .second, .val (.long (own_inv (-49064778989728563 : Int64))), .second, .val (.long (own_inv (-4265267296055464877 : Int64))), .second, .val (.long (own_fm x0)), .second, .unset, .unset] [(.long ((own_us ((own_us (own_fm x0)) * (own_inv (-4265267296055464877 : Int64)))) * (own_inv (-49064778989728563 : Int64))))]) _ _ _
  refine own_callS X5 hx hZ hown (argsL := [(.long ((own_us ((own_us (own_fm x0)) * (own_inv (-4265267296055464877 : Int64)))) * (own_inv (-49064778989728563 : Int64))))]) (rest := []) (hw _ (List.mem_of_getElem? (i := 13) rfl)) (hw _ (List.mem_of_getElem? (i := 14) rfl)) (hw _ (List.mem_of_getElem? (i := 3) rfl)) (hw _ (List.mem_of_getElem? (i := 15) rfl)) (by decide) (rm3 l Z a0 hw ((own_us ((own_us (own_fm x0)) * (own_inv (-4265267296055464877 : Int64)))) * (own_inv (-49064778989728563 : Int64))) h0 n0 Z0 ) (by decide) (by decide) e5 rfl (by rw [hml]; rfl) (lenOf pd_0 rfl) rfl (W := 0) (by show 2 * 0 + _ ≤ _; exact Nat.le_of_eq rfl) (hb hby at_34) (by decide) (by decide) fun v6 T6 hh6 L6 X6 e6 hQ6 => ?_
  obtain ⟨rfl, NL6, he6⟩ := hQ6
  replace e6 := e6.trans he6
  have N6 := Fr.app N5 NL6
  show own_Out p e below _ T6 (mkF m 37 #[.val (.long x0), .second, .val (.long (own_inv (-49064778989728563 : Int64))), .second, .val (.long (own_inv (-4265267296055464877 : Int64))), .second, .val (.long (own_fm x0)), .second, .unset, .unset] [(.long (own_us ((own_us ((own_us (own_fm x0)) * (own_inv (-4265267296055464877 : Int64)))) * (own_inv (-49064778989728563 : Int64)))))]) _ _ _
  refine own_to (fun t k => XS.lstore X6.here hx rfl (hb hby at_37) rfl (l' := #[.val (.long x0), .second, .val (.long (own_inv (-49064778989728563 : Int64))), .second, .val (.long (own_inv (-4265267296055464877 : Int64))), .second, .val (.long (own_fm x0)), .second, .val (.long (own_us ((own_us ((own_us (own_fm x0)) * (own_inv (-4265267296055464877 : Int64)))) * (own_inv (-49064778989728563 : Int64))))), .second]) rfl k) ?_
  show own_Out p e below _ T6 (mkF m 39 #[.val (.long x0), .second, .val (.long (own_inv (-49064778989728563 : Int64))), .second, .val (.long (own_inv (-4265267296055464877 : Int64))), .second, .val (.long (own_fm x0)), .second, .val (.long (own_us ((own_us ((own_us (own_fm x0)) * (own_inv (-4265267296055464877 : Int64)))) * (own_inv (-49064778989728563 : Int64))))), .second] []) _ _ _
  refine own_to (fun t k => X6.ldc2J hx hown (mvT hZ (hw _ (List.mem_of_getElem? (i := 0) rfl))) rfl (hb hby at_39) k) ?_
  show own_Out p e below _ T6 (mkF m 42 #[.val (.long x0), .second, .val (.long (own_inv (-49064778989728563 : Int64))), .second, .val (.long (own_inv (-4265267296055464877 : Int64))), .second, .val (.long (own_fm x0)), .second, .val (.long (own_us ((own_us ((own_us (own_fm x0)) * (own_inv (-4265267296055464877 : Int64)))) * (own_inv (-49064778989728563 : Int64))))), .second] [(.long (-49064778989728563 : Int64))]) _ _ _
  refine own_to (fun t k => XS.lloadN X6.here hx rfl (hb hby at_42) rfl k) ?_
  show own_Out p e below _ T6 (mkF m 43 #[.val (.long x0), .second, .val (.long (own_inv (-49064778989728563 : Int64))), .second, .val (.long (own_inv (-4265267296055464877 : Int64))), .second, .val (.long (own_fm x0)), .second, .val (.long (own_us ((own_us ((own_us (own_fm x0)) * (own_inv (-4265267296055464877 : Int64)))) * (own_inv (-49064778989728563 : Int64))))), .second] [(.long (own_inv (-49064778989728563 : Int64))), (.long (-49064778989728563 : Int64))]) _ _ _
  refine own_to (fun t k => XS.lmul X6.here hx rfl (hb hby at_43) rfl k) ?_
  show own_Out p e below _ T6 (mkF m 44 #[.val (.long x0), .second, .val (.long (own_inv (-49064778989728563 : Int64))), .second, .val (.long (own_inv (-4265267296055464877 : Int64))), .second, .val (.long (own_fm x0)), .second, .val (.long (own_us ((own_us ((own_us (own_fm x0)) * (own_inv (-4265267296055464877 : Int64)))) * (own_inv (-49064778989728563 : Int64))))), .second] [(.long ((-49064778989728563 : Int64) * (own_inv (-49064778989728563 : Int64))))]) _ _ _
  refine own_to (fun t k => XS.lconst X6.here hx rfl (hb hby at_44) k) ?_
  show own_Out p e below _ T6 (mkF m 45 #[.val (.long x0), .second, .val (.long (own_inv (-49064778989728563 : Int64))), .second, .val (.long (own_inv (-4265267296055464877 : Int64))), .second, .val (.long (own_fm x0)), .second, .val (.long (own_us ((own_us ((own_us (own_fm x0)) * (own_inv (-4265267296055464877 : Int64)))) * (own_inv (-49064778989728563 : Int64))))), .second] [(.long (1 : Int64)), (.long ((-49064778989728563 : Int64) * (own_inv (-49064778989728563 : Int64))))]) _ _ _
  refine own_to (fun t k => XS.lcmp X6.here hx rfl (hb hby at_45) rfl k) ?_
  show own_Out p e below _ T6 (mkF m 46 #[.val (.long x0), .second, .val (.long (own_inv (-49064778989728563 : Int64))), .second, .val (.long (own_inv (-4265267296055464877 : Int64))), .second, .val (.long (own_fm x0)), .second, .val (.long (own_us ((own_us ((own_us (own_fm x0)) * (own_inv (-4265267296055464877 : Int64)))) * (own_inv (-49064778989728563 : Int64))))), .second] [(.int (lcmpW ((-49064778989728563 : Int64) * (own_inv (-49064778989728563 : Int64))) (1 : Int64)))]) _ _ _
  have hc46 : ((-49064778989728563 : Int64) * (own_inv (-49064778989728563 : Int64))) = (1 : Int64) := own_A1
  refine own_to (fun t k => XS.ifNo X6.here hx rfl (hb hby at_46) rfl ((if0 _ _).trans (teq ((lw_eq _ _).mpr hc46)).2) k) ?_
  show own_Out p e below _ T6 (mkF m 49 #[.val (.long x0), .second, .val (.long (own_inv (-49064778989728563 : Int64))), .second, .val (.long (own_inv (-4265267296055464877 : Int64))), .second, .val (.long (own_fm x0)), .second, .val (.long (own_us ((own_us ((own_us (own_fm x0)) * (own_inv (-4265267296055464877 : Int64)))) * (own_inv (-49064778989728563 : Int64))))), .second] []) _ _ _
  refine own_to (fun t k => X6.ldc2J hx hown (mvT hZ (hw _ (List.mem_of_getElem? (i := 6) rfl))) rfl (hb hby at_49) k) ?_
  show own_Out p e below _ T6 (mkF m 52 #[.val (.long x0), .second, .val (.long (own_inv (-49064778989728563 : Int64))), .second, .val (.long (own_inv (-4265267296055464877 : Int64))), .second, .val (.long (own_fm x0)), .second, .val (.long (own_us ((own_us ((own_us (own_fm x0)) * (own_inv (-4265267296055464877 : Int64)))) * (own_inv (-49064778989728563 : Int64))))), .second] [(.long (-4265267296055464877 : Int64))]) _ _ _
  refine own_to (fun t k => XS.lload X6.here hx rfl (hb hby at_52) rfl k) ?_
  show own_Out p e below _ T6 (mkF m 54 #[.val (.long x0), .second, .val (.long (own_inv (-49064778989728563 : Int64))), .second, .val (.long (own_inv (-4265267296055464877 : Int64))), .second, .val (.long (own_fm x0)), .second, .val (.long (own_us ((own_us ((own_us (own_fm x0)) * (own_inv (-4265267296055464877 : Int64)))) * (own_inv (-49064778989728563 : Int64))))), .second] [(.long (own_inv (-4265267296055464877 : Int64))), (.long (-4265267296055464877 : Int64))]) _ _ _
  refine own_to (fun t k => XS.lmul X6.here hx rfl (hb hby at_54) rfl k) ?_
  show own_Out p e below _ T6 (mkF m 55 #[.val (.long x0), .second, .val (.long (own_inv (-49064778989728563 : Int64))), .second, .val (.long (own_inv (-4265267296055464877 : Int64))), .second, .val (.long (own_fm x0)), .second, .val (.long (own_us ((own_us ((own_us (own_fm x0)) * (own_inv (-4265267296055464877 : Int64)))) * (own_inv (-49064778989728563 : Int64))))), .second] [(.long ((-4265267296055464877 : Int64) * (own_inv (-4265267296055464877 : Int64))))]) _ _ _
  refine own_to (fun t k => XS.lconst X6.here hx rfl (hb hby at_55) k) ?_
  show own_Out p e below _ T6 (mkF m 56 #[.val (.long x0), .second, .val (.long (own_inv (-49064778989728563 : Int64))), .second, .val (.long (own_inv (-4265267296055464877 : Int64))), .second, .val (.long (own_fm x0)), .second, .val (.long (own_us ((own_us ((own_us (own_fm x0)) * (own_inv (-4265267296055464877 : Int64)))) * (own_inv (-49064778989728563 : Int64))))), .second] [(.long (1 : Int64)), (.long ((-4265267296055464877 : Int64) * (own_inv (-4265267296055464877 : Int64))))]) _ _ _
  refine own_to (fun t k => XS.lcmp X6.here hx rfl (hb hby at_56) rfl k) ?_
  show own_Out p e below _ T6 (mkF m 57 #[.val (.long x0), .second, .val (.long (own_inv (-49064778989728563 : Int64))), .second, .val (.long (own_inv (-4265267296055464877 : Int64))), .second, .val (.long (own_fm x0)), .second, .val (.long (own_us ((own_us ((own_us (own_fm x0)) * (own_inv (-4265267296055464877 : Int64)))) * (own_inv (-49064778989728563 : Int64))))), .second] [(.int (lcmpW ((-4265267296055464877 : Int64) * (own_inv (-4265267296055464877 : Int64))) (1 : Int64)))]) _ _ _
  have hc57 : ((-4265267296055464877 : Int64) * (own_inv (-4265267296055464877 : Int64))) = (1 : Int64) := own_B1
  refine own_to (fun t k => XS.ifNo X6.here hx rfl (hb hby at_57) rfl ((if0 _ _).trans (teq ((lw_eq _ _).mpr hc57)).2) k) ?_
  show own_Out p e below _ T6 (mkF m 60 #[.val (.long x0), .second, .val (.long (own_inv (-49064778989728563 : Int64))), .second, .val (.long (own_inv (-4265267296055464877 : Int64))), .second, .val (.long (own_fm x0)), .second, .val (.long (own_us ((own_us ((own_us (own_fm x0)) * (own_inv (-4265267296055464877 : Int64)))) * (own_inv (-49064778989728563 : Int64))))), .second] []) _ _ _
  refine own_to (fun t k => XS.lload X6.here hx rfl (hb hby at_60) rfl k) ?_
  show own_Out p e below _ T6 (mkF m 62 #[.val (.long x0), .second, .val (.long (own_inv (-49064778989728563 : Int64))), .second, .val (.long (own_inv (-4265267296055464877 : Int64))), .second, .val (.long (own_fm x0)), .second, .val (.long (own_us ((own_us ((own_us (own_fm x0)) * (own_inv (-4265267296055464877 : Int64)))) * (own_inv (-49064778989728563 : Int64))))), .second] [(.long (own_us ((own_us ((own_us (own_fm x0)) * (own_inv (-4265267296055464877 : Int64)))) * (own_inv (-49064778989728563 : Int64)))))]) _ _ _
  refine own_to (fun t k => XS.lloadN X6.here hx rfl (hb hby at_62) rfl k) ?_
  show own_Out p e below _ T6 (mkF m 63 #[.val (.long x0), .second, .val (.long (own_inv (-49064778989728563 : Int64))), .second, .val (.long (own_inv (-4265267296055464877 : Int64))), .second, .val (.long (own_fm x0)), .second, .val (.long (own_us ((own_us ((own_us (own_fm x0)) * (own_inv (-4265267296055464877 : Int64)))) * (own_inv (-49064778989728563 : Int64))))), .second] [(.long x0), (.long (own_us ((own_us ((own_us (own_fm x0)) * (own_inv (-4265267296055464877 : Int64)))) * (own_inv (-49064778989728563 : Int64)))))]) _ _ _
  refine own_to (fun t k => XS.lcmp X6.here hx rfl (hb hby at_63) rfl k) ?_
  show own_Out p e below _ T6 (mkF m 64 #[.val (.long x0), .second, .val (.long (own_inv (-49064778989728563 : Int64))), .second, .val (.long (own_inv (-4265267296055464877 : Int64))), .second, .val (.long (own_fm x0)), .second, .val (.long (own_us ((own_us ((own_us (own_fm x0)) * (own_inv (-4265267296055464877 : Int64)))) * (own_inv (-49064778989728563 : Int64))))), .second] [(.int (lcmpW (own_us ((own_us ((own_us (own_fm x0)) * (own_inv (-4265267296055464877 : Int64)))) * (own_inv (-49064778989728563 : Int64)))) x0))]) _ _ _
  have hc64 : (own_us ((own_us ((own_us (own_fm x0)) * (own_inv (-4265267296055464877 : Int64)))) * (own_inv (-49064778989728563 : Int64)))) = x0 := own_back x0
  refine own_to (fun t k => XS.ifNo X6.here hx rfl (hb hby at_64) rfl ((if0 _ _).trans (teq ((lw_eq _ _).mpr hc64)).2) k) ?_
  show own_Out p e below _ T6 (mkF m 67 #[.val (.long x0), .second, .val (.long (own_inv (-49064778989728563 : Int64))), .second, .val (.long (own_inv (-4265267296055464877 : Int64))), .second, .val (.long (own_fm x0)), .second, .val (.long (own_us ((own_us ((own_us (own_fm x0)) * (own_inv (-4265267296055464877 : Int64)))) * (own_inv (-49064778989728563 : Int64))))), .second] []) _ _ _
  refine own_to (fun t k => XS.iconst X6.here hx rfl (hb hby at_67) k) ?_
  show own_Out p e below _ T6 (mkF m 68 #[.val (.long x0), .second, .val (.long (own_inv (-49064778989728563 : Int64))), .second, .val (.long (own_inv (-4265267296055464877 : Int64))), .second, .val (.long (own_fm x0)), .second, .val (.long (own_us ((own_us ((own_us (own_fm x0)) * (own_inv (-4265267296055464877 : Int64)))) * (own_inv (-49064778989728563 : Int64))))), .second] [(.int (1 : Int32))]) _ _ _
  refine own_to (fun t k => XS.goto X6.here hx rfl (pc0 := 68) (pc' := 72) rfl (hb hby at_68) (by decide) (by decide) k) ?_
  show own_Out p e below _ T6 (mkF m 72 #[.val (.long x0), .second, .val (.long (own_inv (-49064778989728563 : Int64))), .second, .val (.long (own_inv (-4265267296055464877 : Int64))), .second, .val (.long (own_fm x0)), .second, .val (.long (own_us ((own_us ((own_us (own_fm x0)) * (own_inv (-4265267296055464877 : Int64)))) * (own_inv (-49064778989728563 : Int64))))), .second] [(.int (1 : Int32))]) _ _ _
  refine own_retV X6 hx hlk (w := .int (1 : Int32)) hret rfl (Or.inl ⟨rfl, by simp, _, rfl⟩) (hb hby at_72) (by decide) (by decide) ?_
  rw [e6]
  exact ⟨rfl, N6⟩
set_option maxRecDepth 65536 in
set_option maxHeartbeats 40000000 in
theorem comes_1 {Post : Tables → Env → Array Value → State → Outcome → State → Prop} (hpost : ∀ tb e args s v u, (limb_1_1.after args s (.returned v) u = true ∧ limb_1_2.after args s (.returned v) u = true ∧ True) → FrameEnd s (.returned v) u (Jvm.fieldLocs frame_1_writes args s ++ Jvm.arrayLocs frame_1_arrays args s ++ Jvm.staticLocs frame_1_statics s) 0 0 → Post tb e args s (.returned v) u) :
    ArmFor flags0 classFile x code maxLocals ret World_1 tables_1 room_1 Calls_1 rest_1 Pre_1 Post := by
  intro l hfl _ _ p e ha hc hk s m args below hf hA hF happ hP
  obtain ⟨hcalls, hrest, hpre⟩ := hP
  obtain ⟨-, -, -, hnamed, -, -, -, hat⟩ := (Spec.applies_iff hf).mp happ
  obtain ⟨hg, hn⟩ := and_e (Cond.before_iff.mp (show (Jvm.Cond.and given_1 narrow_1).before args s = true from hpre))
  obtain ⟨gg2, gg3⟩ := and_e hg
  obtain ⟨w0, rfl⟩ : ∃ w0 : Value, args = #[w0] := by
    have hs : args.size = 1 := by simpa [Cond.value, given_1] using gg2
    obtain ⟨L⟩ := args
    match L, hs with
    | [w0], _ => exact ⟨w0, rfl⟩
  have hw := fun d (hd : d ∈ tables_1) => atoms_spec (ws := Jvm.Cond.code x code maxLocals ret :: tables_1) hat d (List.mem_cons_of_mem _ hd)
  have hfit : Fit s := fun {y c} hc i hi => by
    obtain ⟨ha, rfl⟩ := Array.getElem?_eq_some_iff.mp hc
    have q := List.all_eq_true.mp ((Array.all_eq_true_iff_forall_mem.mp hF) _ (Array.getElem_mem ha)) i (List.mem_range.mpr hi)
    simpa [Array.getElem?_eq_getElem hi] using q
  obtain ⟨i0, ei0⟩ := isL_v gg3
  obtain rfl : w0 = (.long i0) := Option.some.inj ei0
  obtain ⟨n, o, h1, h2, h3, _, L, rfl, ⟨rfl, N⟩, hq⟩ := rm0 l s _ hw i0 s.heap s.heap.size (Nat.le_refl _) tables_1 p e ha hc hk s m _ below hf ((Spec.applies_iff_loose hf).mp happ).1 ⟨rfl, State.Warmed39.refl s, rfl⟩ trivial
  refine ⟨n, _, h1, h2, h3, hpost _ _ _ _ _ _ ⟨Cond.after_iff.mpr rfl, Cond.after_iff.mpr (eq_i res_at (Term.int_eval (1)) rfl), trivial⟩ ⟨hq.1, hq.2.1, (hq.2.2.sift fun y hy => Or.inr (N y hy)).mono (by decide) (by decide)⟩⟩
theorem main_1_1 : Claimed_1_1 := comes_1 fun _ _ _ _ _ _ h hF => ⟨h.1, hF⟩
theorem main_1_2 : Claimed_1_2 := comes_1 fun _ _ _ _ _ _ h hF => ⟨h.2.1, hF⟩
end Jvm.Pilot.@@N@@
namespace Jvm.Pilot.@@N@@
open Jvm Jvm.ClassFile Sem Op Lib Jvm.Free Jvm.Stand Jvm.Pilot.@@N@@.Jvm.D
/-! MADE BY PROGRAM (witnessworld.py) out of the Statement's table words and the real class files: 10 classes; the members and pool entries that the words name. The judged class is class 1, her method 3. -/
namespace start1
open Jvm.ClassFile
def u (s : String) : CpInfo := .utf8 (stringToUtf16 s)
/-- a pool by its gaps: so many unusable entries, then the entry; so many at the end -/
def gap : Nat → List CpInfo → List CpInfo
  | 0, r => r
  | n + 1, r => .unusable :: gap n r
def poolList (es : List (Nat × CpInfo)) (last : Nat) : List CpInfo := es.foldr (fun e r => gap e.1 (e.2 :: r)) (gap last [])
def pool (es : List (Nat × CpInfo)) (last : Nat) : Array CpInfo := ⟨poolList es last⟩
def fileOf (pool : Array CpInfo) (this : Nat) (attrs : Array Attribute := #[]) (ms : Array MethodInfo := #[]) (fl : Nat := 33) (sup : Nat := 0) (ifs : Array Nat := #[]) (fds : Array FieldInfo := #[]) : ClassFile where
  minorVersion := 0
  majorVersion := 65
  constantPool := pool
  accessFlags := fl
  thisClass := this
  superClass := sup
  interfaces := ifs
  fields := fds
  methods := ms
  attributes := attrs
def plain (name : String) (sup : Option ClassId) : Class where
  name := name
  kind := .ordinary
  loader := none
  accessFlags := 33
  super := sup
  interfaces := #[]
  cf := none
  fields := #[]
  methods := #[]
  instanceTypes := #[]
  staticTypes := #[]
  resolved := #[]
  callSites := []
  init := .initialized
  statics := none
  mirror := none

def pool0 : Array CpInfo := pool [(5, u "<init>"), (0, u "()V"), (1, .class_ 10), (1, u "java/lang/Object")] 113

def k0m0 : Method := { name := "<init>", desc := "()V", sig := { parameters := [], returnType := none }, accessFlags := 1, code := none }
/-- java/lang/Object -/
def k0 : Class := { plain "java/lang/Object" none with
  accessFlags := 33
  interfaces := #[]
  cf := some (fileOf pool0 8 #[] #[{ accessFlags := 1, nameIndex := 5, descriptorIndex := 6, attributes := #[] }] 33 0 #[] #[])
  fields := #[]
  methods := #[k0m0]
  instanceTypes := #[]
  staticTypes := #[]
  resolved := Array.replicate 124 none
  statics := none }

def pool1 : Array CpInfo := pool [(2, .class_ 4), (1, u "java/lang/Object"), (0, u "<init>"), (0, u "()V"), (0, .long 2), (1, .class_ 10), (0, u "com/example/hemlock_gorge/hemlockgorge/KeyHashFinalMixPinLaw"), (0, .long 18397679294719823053), (1, .methodref 9 14), (0, .nameAndType 15 16), (0, u "inverse"), (0, u "(J)J"), (0, .long 14181476777654086739), (1, .methodref 20 21), (0, .class_ 22), (0, .nameAndType 23 16), (0, u "com/example/hemlock_gorge/hemlockgorge/KeyHash"), (0, u "finalMix"), (0, .methodref 9 25), (0, .nameAndType 26 16), (0, u "unshift"), (0, u "A"), (0, u "J"), (1, u "B"), (2, u "law"), (0, u "(J)Z")] 3

def k1m0 : Method := { name := "<init>", desc := "()V", sig := { parameters := [], returnType := none }, accessFlags := 1, code := none }
def k1c1 : Code := { maxStack := 8, maxLocals := 4, code := method_2_code, exceptionTable := #[], attributes := #[] }
def k1m1 : Method := { name := "inverse", desc := "(J)J", sig := { parameters := [.long], returnType := some .long }, accessFlags := 10, code := some k1c1 }
def k1c2 : Code := { maxStack := 5, maxLocals := 2, code := method_3_code, exceptionTable := #[], attributes := #[] }
def k1m2 : Method := { name := "unshift", desc := "(J)J", sig := { parameters := [.long], returnType := some .long }, accessFlags := 10, code := some k1c2 }
def k1c3 : Code := { maxStack := 4, maxLocals := 10, code := code, exceptionTable := #[], attributes := #[] }
def k1m3 : Method := { name := "law", desc := "(J)Z", sig := { parameters := [.long], returnType := some .boolean }, accessFlags := 9, code := some k1c3 }
/-- com/example/hemlock_gorge/hemlockgorge/KeyHashFinalMixPinLaw -/
def k1 : Class := { plain "com/example/hemlock_gorge/hemlockgorge/KeyHashFinalMixPinLaw" (some 0) with
  accessFlags := 49
  interfaces := #[]
  cf := some (fileOf pool1 9 #[] #[{ accessFlags := 1, nameIndex := 5, descriptorIndex := 6, attributes := #[] }, { accessFlags := 10, nameIndex := 15, descriptorIndex := 16, attributes := #[] }, { accessFlags := 10, nameIndex := 26, descriptorIndex := 16, attributes := #[] }, { accessFlags := 9, nameIndex := 33, descriptorIndex := 34, attributes := #[] }] 49 2 #[] #[{ accessFlags := 26, nameIndex := 27, descriptorIndex := 28, attributes := #[] }, { accessFlags := 26, nameIndex := 30, descriptorIndex := 28, attributes := #[] }])
  fields := #[{ name := "A", type := .long, accessFlags := 26, slot := 0, constantValue := 0 }, { name := "B", type := .long, accessFlags := 26, slot := 1, constantValue := 0 }]
  methods := #[k1m0, k1m1, k1m2, k1m3]
  instanceTypes := #[]
  staticTypes := #[.long, .long]
  resolved := Array.replicate 38 none
  statics := none }

def pool2 : Array CpInfo := pool [(2, .class_ 4), (1, u "java/lang/Object"), (0, u "<init>"), (0, u "()V"), (0, .class_ 8), (0, u "java/lang/Record")] 13

def k2m0 : Method := { name := "<init>", desc := "()V", sig := { parameters := [], returnType := none }, accessFlags := 4, code := none }
/-- java/lang/Record -/
def k2 : Class := { plain "java/lang/Record" (some 0) with
  accessFlags := 1057
  interfaces := #[]
  cf := some (fileOf pool2 7 #[] #[{ accessFlags := 4, nameIndex := 5, descriptorIndex := 6, attributes := #[] }] 1057 2 #[] #[])
  fields := #[]
  methods := #[k2m0]
  instanceTypes := #[]
  staticTypes := #[]
  resolved := Array.replicate 22 none
  statics := none }

def pool3 : Array CpInfo := pool [(2, .class_ 4), (1, u "java/lang/Record"), (3, .class_ 10), (1, u "com/example/hemlock_gorge/hemlockgorge/KeyHash"), (0, u "h1"), (0, u "J"), (2, u "h2"), (10, u "LITTLE_ENDIAN_LONG"), (0, u "Ljava/lang/invoke/VarHandle;"), (64, u "(J)J"), (15, u "finalMix"), (12, u "LITTLE_ENDIAN_INT"), (11, .long 18397679294719823053), (1, .long 14181476777654086739), (29, u "C1"), (1, u "C2"), (0, u "BLOCK_BYTES"), (0, u "I"), (1, u "NOT_ASCII")] 32

def k3c0 : Code := { maxStack := 5, maxLocals := 4, code := prog_23_method_12_code, exceptionTable := #[], attributes := #[] }
def k3m0 : Method := { name := "finalMix", desc := "(J)J", sig := { parameters := [.long], returnType := some .long }, accessFlags := 8, code := some k3c0 }
/-- com/example/hemlock_gorge/hemlockgorge/KeyHash -/
def k3 : Class := { plain "com/example/hemlock_gorge/hemlockgorge/KeyHash" (some 2) with
  accessFlags := 48
  interfaces := #[]
  cf := some (fileOf pool3 8 #[] #[{ accessFlags := 8, nameIndex := 108, descriptorIndex := 92, attributes := #[] }] 48 2 #[] #[{ accessFlags := 18, nameIndex := 11, descriptorIndex := 12, attributes := #[] }, { accessFlags := 18, nameIndex := 15, descriptorIndex := 12, attributes := #[] }, { accessFlags := 26, nameIndex := 165, descriptorIndex := 12, attributes := #[] }, { accessFlags := 26, nameIndex := 167, descriptorIndex := 12, attributes := #[] }, { accessFlags := 26, nameIndex := 168, descriptorIndex := 169, attributes := #[] }, { accessFlags := 26, nameIndex := 26, descriptorIndex := 27, attributes := #[] }, { accessFlags := 26, nameIndex := 171, descriptorIndex := 12, attributes := #[] }, { accessFlags := 26, nameIndex := 121, descriptorIndex := 27, attributes := #[] }])
  fields := #[{ name := "h1", type := .long, accessFlags := 18, slot := 0, constantValue := 0 }, { name := "h2", type := .long, accessFlags := 18, slot := 1, constantValue := 0 }, { name := "C1", type := .long, accessFlags := 26, slot := 0, constantValue := 0 }, { name := "C2", type := .long, accessFlags := 26, slot := 1, constantValue := 0 }, { name := "BLOCK_BYTES", type := .int, accessFlags := 26, slot := 2, constantValue := 0 }, { name := "LITTLE_ENDIAN_LONG", type := (.object "java/lang/invoke/VarHandle"), accessFlags := 26, slot := 3, constantValue := 0 }, { name := "NOT_ASCII", type := .long, accessFlags := 26, slot := 4, constantValue := 0 }, { name := "LITTLE_ENDIAN_INT", type := (.object "java/lang/invoke/VarHandle"), accessFlags := 26, slot := 5, constantValue := 0 }]
  methods := #[k3m0]
  instanceTypes := #[.long, .long]
  staticTypes := #[.long, .long, .int, (.object "java/lang/invoke/VarHandle"), .long, (.object "java/lang/invoke/VarHandle")]
  resolved := Array.replicate 204 none
  statics := none }

def pool4 : Array CpInfo := pool [(1, u "java/lang/Cloneable"), (0, .class_ 1), (0, u "java/lang/Object"), (0, .class_ 3)] 3

/-- java/lang/Cloneable -/
def k4 : Class := { plain "java/lang/Cloneable" (some 0) with
  accessFlags := 1537
  interfaces := #[]
  cf := some (fileOf pool4 2 #[] #[] 1537 4 #[] #[])
  fields := #[]
  methods := #[]
  instanceTypes := #[]
  staticTypes := #[]
  resolved := Array.replicate 8 none
  statics := none }

def pool5 : Array CpInfo := pool [(1, u "java/io/Serializable"), (0, .class_ 1), (0, u "java/lang/Object"), (0, .class_ 3)] 3

/-- java/io/Serializable -/
def k5 : Class := { plain "java/io/Serializable" (some 0) with
  accessFlags := 1537
  interfaces := #[]
  cf := some (fileOf pool5 2 #[] #[] 1537 4 #[] #[])
  fields := #[]
  methods := #[]
  instanceTypes := #[]
  staticTypes := #[]
  resolved := Array.replicate 8 none
  statics := none }

/-- the primitive byte -/
def k6 : Class := { plain "byte" none with kind := .primitive 'B', accessFlags := 0x411 }
/-- [B -/
def k7 : Class := { plain "[B" (some 0) with kind := .array 6 .byte, interfaces := #[4, 5], accessFlags := 1041 }

/-- the primitive int -/
def k8 : Class := { plain "int" none with kind := .primitive 'I', accessFlags := 0x411 }
/-- [I -/
def k9 : Class := { plain "[I" (some 0) with kind := .array 8 .int, interfaces := #[4, 5], accessFlags := 1041 }

def heap : Heap := #[]
def classes : Array Class := #[k0, k1, k2, k3, k4, k5, k6, k7, k8, k9]
def interned : List (Array UInt16 × Addr) := []
def slotsUsed : Nat := 0
def theMethod : MethodId := ⟨1, 3⟩
def args0 : Array Value := #[.long 5]
def aboutOver (below : List Frame) : State where
  vm := { classes := classes, interned := interned.toArray }
  heap := heap
  slotsUsed := slotsUsed
  threads := #[{ frames := .invoking theMethod args0 :: below }]
def below0 : List Frame := [.native { method := ⟨0, 0⟩, args := #[] }]
def about1 : State := aboutOver below0
def p0 : Program := .bare "" "" ""
def e0 : Env := launch0.env 0 0 0
theorem w_frames : about1.frames = Frame.invoking theMethod args0 :: below0 := rfl
set_option maxRecDepth 65536 in
theorem w_args : argsFit about1.vm theMethod args0 = true := by decide +kernel
set_option maxRecDepth 65536 in
theorem w_heap : heapFits about1 = true := by decide +kernel
set_option maxRecDepth 65536 in
theorem w_runnable : about1.curStatus? = some .runnable := by decide +kernel
set_option maxRecDepth 65536 in
theorem w_alone : about1.alone = true := by decide +kernel
set_option maxRecDepth 65536 in
theorem w_named : about1.methodNamed? x = some theMethod := by decide +kernel
set_option maxRecDepth 65536 in
theorem w_hears : about1.hears theMethod below0 = true := by decide +kernel
set_option maxRecDepth 65536 in
theorem w_ripe : about1.ripe theMethod args0 below0 = true := by decide +kernel
theorem w_running : about1.status = .running := rfl
set_option maxRecDepth 65536 in
theorem w_room : about1.hasRoom e0.platform room_1 = true :=
  launch0.hasRoom_least _ room_1 (by decide +kernel) (by decide +kernel) (by decide +kernel) (by decide +kernel) (by decide +kernel) (by decide +kernel)
theorem allAtoms_all (ts : List Jvm.Cond) (a : Array Jvm.Value) (st : Jvm.State) : (allAtoms ts).before a st = ts.all (fun c => c.before a st) := by
  induction ts with
  | nil => rfl
  | cons c t ih =>
    show (Jvm.Cond.and c (allAtoms t)).before a st = _
    rw [Jvm.Cond.before_and, ih, List.all_cons]
def words1 : List Jvm.Cond := Jvm.Cond.code x code maxLocals ret :: tables_1
/-- a 'code' word, met by the world's own term for the bytes: nothing is compared byte by byte -/
theorem code_word {y : MethodName} {bytes : ByteArray} {mx : Nat} {rt : Option FieldType} {a : Array Value} {s : State} {m : MethodId} {meth : Method} {c : Code} (h1 : s.methodNamed? y = some m) (h2 : s.vm.method? m = some meth) (h3 : meth.code = some c) (h4 : c.code = bytes)
    (h5 : (c.maxLocals == mx && c.exceptionTable.isEmpty && decide (c.maxStack ≤ mostOperands) && decide (meth.sig.returnType = rt) && !meth.locks && decide (parseMethodDescriptor y.desc = some meth.sig)) = true) : (Jvm.Cond.code y bytes mx rt).before a s = true := by
  simp only [Bool.and_eq_true, beq_iff_eq, Bool.not_eq_true', decide_eq_true_eq] at h5
  obtain ⟨⟨⟨⟨⟨g1, g2⟩, g3⟩, g4⟩, g5⟩, g6⟩ := h5
  simp [Cond.before, Cond.holds, Cond.value, h1, h2, h3, h4, g1, g2, g3, g4, g5, g6]
def isCode : Jvm.Cond → Bool
  | .code _ _ _ _ => true
  | _ => false
theorem all_split {L : List Jvm.Cond} {P : Jvm.Cond → Bool} (h1 : L.all (fun c => isCode c || P c) = true) (h2 : ∀ c ∈ L.filter isCode, P c = true) : L.all P = true := by
  refine List.all_eq_true.mpr fun c hc => ?_
  have h := List.all_eq_true.mp h1 c hc
  rcases Bool.eq_false_or_eq_true (isCode c) with hi | hi
  · exact h2 c (List.mem_filter.mpr ⟨hc, hi⟩)
  · simpa [hi] using h
set_option maxRecDepth 65536 in
theorem w_c0 : (Jvm.Cond.code x code maxLocals ret).before args0 about1 = true := code_word (m := ⟨1, 3⟩) (meth := k1m3) (c := k1c3) (by decide +kernel) rfl rfl rfl (by decide +kernel)
set_option maxRecDepth 65536 in
theorem w_c1 : (Jvm.Cond.code ({ cls := "com/example/hemlock_gorge/hemlockgorge/KeyHashFinalMixPinLaw", name := "inverse", desc := "(J)J" } : Jvm.MethodName) method_2_code (4 : Nat) (Option.some Jvm.ClassFile.FieldType.long)).before args0 about1 = true := code_word (m := ⟨1, 1⟩) (meth := k1m1) (c := k1c1) (by decide +kernel) rfl rfl rfl (by decide +kernel)
set_option maxRecDepth 65536 in
theorem w_c2 : (Jvm.Cond.code ({ cls := "com/example/hemlock_gorge/hemlockgorge/KeyHash", name := "finalMix", desc := "(J)J" } : Jvm.MethodName) prog_23_method_12_code (4 : Nat) (Option.some Jvm.ClassFile.FieldType.long)).before args0 about1 = true := code_word (m := ⟨3, 0⟩) (meth := k3m0) (c := k3c0) (by decide +kernel) rfl rfl rfl (by decide +kernel)
set_option maxRecDepth 65536 in
theorem w_c3 : (Jvm.Cond.code ({ cls := "com/example/hemlock_gorge/hemlockgorge/KeyHashFinalMixPinLaw", name := "unshift", desc := "(J)J" } : Jvm.MethodName) method_3_code (2 : Nat) (Option.some Jvm.ClassFile.FieldType.long)).before args0 about1 = true := code_word (m := ⟨1, 2⟩) (meth := k1m2) (c := k1c2) (by decide +kernel) rfl rfl rfl (by decide +kernel)
def codes1 : List Jvm.Cond := [Jvm.Cond.code x code maxLocals ret, Jvm.Cond.code ({ cls := "com/example/hemlock_gorge/hemlockgorge/KeyHashFinalMixPinLaw", name := "inverse", desc := "(J)J" } : Jvm.MethodName) method_2_code (4 : Nat) (Option.some Jvm.ClassFile.FieldType.long), Jvm.Cond.code ({ cls := "com/example/hemlock_gorge/hemlockgorge/KeyHash", name := "finalMix", desc := "(J)J" } : Jvm.MethodName) prog_23_method_12_code (4 : Nat) (Option.some Jvm.ClassFile.FieldType.long), Jvm.Cond.code ({ cls := "com/example/hemlock_gorge/hemlockgorge/KeyHashFinalMixPinLaw", name := "unshift", desc := "(J)J" } : Jvm.MethodName) method_3_code (2 : Nat) (Option.some Jvm.ClassFile.FieldType.long)]
set_option maxRecDepth 65536 in
theorem codes_eq : words1.filter isCode = codes1 := rfl
theorem w_codes : ∀ c ∈ words1.filter isCode, c.before args0 about1 = true := by
  rw [codes_eq]
  intro c hc
  simp only [codes1, List.mem_cons, List.not_mem_nil, or_false] at hc
  rcases hc with rfl | rfl | rfl | rfl
  · exact w_c0
  · exact w_c1
  · exact w_c2
  · exact w_c3
set_option maxRecDepth 65536 in
theorem w_t1 : words1.all (fun c => isCode c || c.before args0 about1) = true := by decide +kernel
theorem w_tables : (allAtoms (Jvm.Cond.code x code maxLocals ret :: tables_1)).before args0 about1 = true := by
  rw [allAtoms_all]
  show words1.all (fun c => c.before args0 about1) = true
  refine all_split ?_ w_codes
  rw [w_t1]
set_option maxRecDepth 65536 in
theorem w_case : (Jvm.Cond.and given_1 narrow_1).before args0 about1 = true := by decide +kernel
theorem w_applies : (headSpec (Jvm.Cond.code x code maxLocals ret :: tables_1) room_1).applies x e0.platform about1 = true :=
  (Spec.applies_iff w_frames).mpr ⟨w_running, w_runnable, w_alone, w_named, w_hears, w_ripe, w_room, w_tables⟩
theorem atStart : AtStart classFile x code maxLocals ret World_1 tables_1 room_1 Calls_1 rest_1 Pre_1 launch0 p0 e0 about1 theMethod args0 below0 :=
  ⟨lists_1, trivial, launch0.admits_env _ _ _, launch0.least_env, fairChoices_fair.cas, fairChoices_fair.clock, w_frames, w_args, w_heap, w_applies, trivial, trivial, w_case⟩
end start1
theorem witness_1 : WitnessClaimed_1 := ⟨start1.p0, start1.e0, start1.about1, start1.theMethod, start1.args0, start1.below0, start1.atStart⟩
end Jvm.Pilot.@@N@@
