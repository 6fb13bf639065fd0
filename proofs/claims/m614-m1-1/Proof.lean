import JvmDerived
import JvmDerived.Pilot.@@N@@Statement
import JvmDerived.Pilot.@@N@@Code
set_option linter.unusedVariables false
set_option linter.unusedSimpArgs false
namespace Jvm.Pilot.@@N@@
open Jvm Jvm.ClassFile Sem Op Lib Jvm.Free Jvm.Stand Jvm.LawKit Jvm.RoadKit Bundle Jvm.Pilot.@@N@@.Jvm.D
section OwnKit
variable {p : Program} {l : Launch} {e : Env} {R : Room} {s : State} {m : MethodId} {args : Array Value} {below : List Frame} {meth : Method} {c : Code} {T T' : State} {locs : List Loc} {cells slots kc ks : Nat} {g g' : JFrame} {Q : Option Value → Heap → List Loc → Prop} {Z : State} {h h' : Heap} {a0 : Array Value} {En : Outcome → State → List Loc → Nat → Nat → Prop}
/-- from this frame the run comes to the method's end and leaves what Q says -/
def own_Out (p : Program) (e : Env) (below : List Frame) (En : Outcome → State → List Loc → Nat → Nat → Prop) (T : State) (g : JFrame) (Q : Option Value → Heap → List Loc → Prop) (kc ks : Nat) : Prop :=
  ∃ (t : State) (o : Outcome), Steps p.tables e below (T.setTop g) t ∧ t.status = .running ∧ Ended t below o ∧ ∃ (v : Option Value) (L : List Loc), o = .returned v ∧ Q v t.heap L ∧ En o t L kc ks
theorem own_to (st : ∀ t, Steps p.tables e below (T'.setTop g') t → Steps p.tables e below (T.setTop g) t) (k : own_Out p e below En T' g' Q kc ks) : own_Out p e below En T g Q kc ks := by
  obtain ⟨t, o, h1, h2⟩ := k
  exact ⟨t, o, st t h1, h2⟩
theorem own_cast (q : g = g') (k : own_Out p e below En T g' Q kc ks) : own_Out p e below En T g Q kc ks := q ▸ k
/-- a method's contract: called with these arguments over this heap it returns, and Q says what it leaves -/
def own_C (l : Launch) (Z : State) (y : MethodName) (bytes : ByteArray) (maxL : Nat) (ret : Option FieldType) (rm : Room) (as' : Array Value) (h0 : Heap) (Q : Option Value → Heap → List Loc → Prop) : Prop :=
  ∀ ws : List Jvm.Cond, MetFree l y (head1 (Jvm.Cond.code y bytes maxL ret :: ws) rm) (fun a U => a = as' ∧ Z.Warmed39 U.vm ∧ U.heap = h0) (fun _ _ _ _ _ => True) (fun _ U o U' => ∃ v L, o = .returned v ∧ Q v U'.heap L ∧ FrameEnd U o U' L rm.cells rm.slots)
theorem own_met {y : MethodName} {bytes : ByteArray} {maxL : Nat} {ret : Option FieldType} {rm : Room} {as' : Array Value} {h0 : Heap} (pl : plainFor y = true)
    (body : ∀ (p : Program) (e : Env) (s : State) (m : MethodId) (below : List Frame) (meth : Method) (c : Code) (s₁ : State), p.tables.exec = Jvm.exec → c.code = bytes → c.maxLocals = maxL → meth.sig.returnType = ret → meth.locks = false → s.vm.findClass y.cls = some m.cls → meth.name = y.name → Z.Warmed39 s.vm → Stand p l e rm s m as' below meth c s₁ [] 0 0 → s₁.heap = h0 → own_Out p e below (FrameEnd s) s₁ (entryFrame m as' maxL) Q rm.cells rm.slots) :
    own_C l Z y bytes maxL ret rm as' h0 Q := by
  intro ws
  refine MetFree.of_bodySF pl hisR ?_
  intro p e s m args below meth c s₁ Bd hml0 hP hK
  obtain ⟨rfl, hZ, hh⟩ := hP
  exact body p e s m below meth c s₁ Bd.exec Bd.bytes hml0 Bd.returns (BodyLoose.notSynchronized Bd) (findClass_of_methodNamed Bd.named) ((name_of_methodNamed Bd.named Bd.method).1) hZ (Stand.of_body Bd) (by rw [← hh, Bd.state]; rfl)
/-! returns -/
theorem own_retV (X : Stand p l e R s m args below meth c T locs cells slots) (hx : p.tables.exec = Jvm.exec) (hlk : meth.locks = false) {pc : Nat} {Ls : Array Slot} {w : Value} {t : FieldType} {i : Instr} {rest : List Value} (hret : meth.sig.returnType = some t) (hn : narrow t w = w)
    (hi : (i = .ireturn ∧ (t = .int ∨ t = .boolean ∨ t = .byte ∨ t = .char ∨ t = .short) ∧ ∃ z, w = .int z) ∨ (i = .lreturn ∧ t = .long ∧ ∃ z, w = .long z) ∨ (i = .dreturn ∧ t = .double ∧ ∃ z, w = .double z) ∨ (i = .freturn ∧ t = .float ∧ ∃ z, w = .float z) ∨ (i = .areturn ∧ t.isReference = true ∧ w.isRef = true))
    (hd : decode c.code pc = .ok (i, 1)) (hc : cells ≤ kc) (hs : slots ≤ ks) (hQ : Q (some w) T.heap locs) : own_Out p e below (FrameEnd s) T (mkF m pc Ls (w :: rest)) Q kc ks := by
  obtain ⟨fs, hr, hrun, hended, hW, hsame⟩ := X.leave (v := some w) (fun h => by rw [hret] at h; cases h) hlk
  exact ⟨_, _, retOut X hx hret hn hi hd hr, hrun, hended, _, _, rfl, hQ, ⟨_, rfl⟩, hW, hsame.mono hc hs⟩
theorem own_retI (X : Stand p l e R s m args below meth c T locs cells slots) (hx : p.tables.exec = Jvm.exec) (hlk : meth.locks = false) (hret : meth.sig.returnType = some .int) {pc : Nat} {Ls : Array Slot} {z : Int32} {rest : List Value}
    (hd : decode c.code pc = .ok (.ireturn, 1)) (hc : cells ≤ kc) (hs : slots ≤ ks) (hQ : Q (some (.int z)) T.heap locs) : own_Out p e below (FrameEnd s) T (mkF m pc Ls (.int z :: rest)) Q kc ks :=
  own_retV X hx hlk hret rfl (Or.inl ⟨rfl, Or.inl rfl, _, rfl⟩) hd hc hs hQ
theorem own_retJ (X : Stand p l e R s m args below meth c T locs cells slots) (hx : p.tables.exec = Jvm.exec) (hlk : meth.locks = false) (hret : meth.sig.returnType = some .long) {pc : Nat} {Ls : Array Slot} {z : Int64} {rest : List Value}
    (hd : decode c.code pc = .ok (.lreturn, 1)) (hc : cells ≤ kc) (hs : slots ≤ ks) (hQ : Q (some (.long z)) T.heap locs) : own_Out p e below (FrameEnd s) T (mkF m pc Ls (.long z :: rest)) Q kc ks :=
  own_retV X hx hlk hret rfl (Or.inr (Or.inl ⟨rfl, rfl, _, rfl⟩)) hd hc hs hQ
theorem own_retA (X : Stand p l e R s m args below meth c T locs cells slots) (hx : p.tables.exec = Jvm.exec) (hlk : meth.locks = false) {t : FieldType} (hret : meth.sig.returnType = some t) (ht : t.isReference = true) {pc : Nat} {Ls : Array Slot} {z : Addr} {rest : List Value}
    (hd : decode c.code pc = .ok (.areturn, 1)) (hc : cells ≤ kc) (hs : slots ≤ ks) (hQ : Q (some (.ref z)) T.heap locs) : own_Out p e below (FrameEnd s) T (mkF m pc Ls (.ref z :: rest)) Q kc ks :=
  own_retV X hx hlk hret (by cases t <;> rfl) (Or.inr (Or.inr (Or.inr (Or.inr ⟨rfl, ht, rfl⟩)))) hd hc hs hQ
/-- a boolean, byte, char or short: the value is narrowed -/
theorem own_retN (X : Stand p l e R s m args below meth c T locs cells slots) (hx : p.tables.exec = Jvm.exec) (hlk : meth.locks = false) {t : FieldType} (hret : meth.sig.returnType = some t) (ht : t = .boolean ∨ t = .byte ∨ t = .char ∨ t = .short) {pc : Nat} {Ls : Array Slot} {z : Int32} {rest : List Value}
    (hd : decode c.code pc = .ok (.ireturn, 1)) (hc : cells ≤ kc) (hs : slots ≤ ks) (hQ : Q (some (.int (nar t z))) T.heap locs) : own_Out p e below (FrameEnd s) T (mkF m pc Ls (.int z :: rest)) Q kc ks := by
  obtain ⟨fs, hr, hrun, hended, hW, hsame⟩ := X.leave (v := some (.int (nar t z))) (fun h => by rw [hret] at h; cases h) hlk
  exact ⟨_, _, retN X hx hret ht hd hr, hrun, hended, _, _, rfl, hQ, ⟨_, rfl⟩, hW, hsame.mono hc hs⟩
theorem own_ret0 (X : Stand p l e R s m args below meth c T locs cells slots) (hx : p.tables.exec = Jvm.exec) (hlk : meth.locks = false) (hret : meth.sig.returnType = none) {pc : Nat} {Ls : Array Slot}
    (hd : decode c.code pc = .ok (.return_, 1)) (hc : cells ≤ kc) (hs : slots ≤ ks) (hQ : Q none T.heap locs) : own_Out p e below (FrameEnd s) T (mkF m pc Ls []) Q kc ks := by
  obtain ⟨fs, hr, hrun, hended, hW, hsame⟩ := X.leave (v := none) (fun _ => rfl) hlk
  exact ⟨_, _, X.returnOut hx hret hd hr, hrun, hended, _, _, rfl, hQ, ⟨_, rfl⟩, hW, hsame.mono hc hs⟩
/-! calls -/
theorem own_callS (X : Stand p l e R s m args below meth c T locs cells slots) (hx : p.tables.exec = Jvm.exec) (hZ : Z.Warmed39 s.vm) {own : String} (hown : s.vm.findClass own = some m.cls) {index : Nat} {y : MethodName} {bytes : ByteArray} {maxL : Nat} {ret : Option FieldType} {rm : Room} {W : Nat} {Qc : Option Value → Heap → List Loc → Prop} {argsL rest : List Value}
    (w1 : (Jvm.Cond.methodLink own index y).before a0 Z = true) (w2 : (Jvm.Cond.static y).before a0 Z = true) (w3 : (Jvm.Cond.initialized y.cls).before a0 Z = true) (w4 : (Jvm.Cond.code y bytes maxL ret).before a0 Z = true) (hy : y.cls ≠ "java/lang/invoke/MethodHandle" ∧ y.cls ≠ "java/lang/invoke/VarHandle")
    (hM : own_C l Z y bytes maxL ret rm argsL.toArray h Qc) (hf : rm.frames + 1 ≤ R.frames) (hl : W + (maxL + 11) + rm.locals ≤ R.locals) (eT : T.heap = h) (hg : g.method = m) (hsize : g.locals.size = c.maxLocals) (hlen : ∀ sig, parseMethodDescriptor y.desc = some sig → argsL.length = sig.parameters.length)
    (hstack : g.stack = argsL.reverse ++ rest) (hW : 2 * g.monitorRoom + (rest.map fun v => v.category).sum ≤ W) (hd : decode c.code g.pc = .ok (.invokestatic index, 3)) (hc : cells + rm.cells ≤ R.cells) (hs : slots + rm.slots ≤ R.slots)
    (k : ∀ (v : Option Value) (T' : State) (h' : Heap) (L : List Loc), Stand p l e R s m args below meth c T' (locs ++ L) (cells + rm.cells) (slots + rm.slots) → T'.heap = h' → Qc v h' L → own_Out p e below En T' { g with pc := g.pc + 3, stack := v.toList ++ rest } Q kc ks) : own_Out p e below En T g Q kc ks := by
  obtain ⟨v, _, ⟨T', L', k', n'⟩, -, X', ⟨Lc, hQ, l1, l2, l3⟩, st⟩ := Jvm.LawKit.callS X hx hown (mvT hZ w1) (mvT hZ w2) (mvT hZ w3) (mvT hZ w4) hy (backOf (W := W) (hM []) hZ w4 w3 hf hl) hg hsize hlen hstack hW hd (fun _ _ => ⟨rfl, eT, hc, hs⟩)
  dsimp only [Pt.U, Pt.locs, Pt.cells, Pt.slots] at X' l1 l2 l3 st hQ
  subst l1 l2 l3
  exact own_to st (k v T' _ Lc X' rfl hQ)
/-- a constructor -/
theorem own_callC (X : Stand p l e R s m args below meth c T locs cells slots) (hx : p.tables.exec = Jvm.exec) (hZ : Z.Warmed39 s.vm) {own : String} (hown : s.vm.findClass own = some m.cls) {index : Nat} {y : MethodName} {bytes : ByteArray} {maxL : Nat} {rm : Room} {W : Nat} {Qc : Option Value → Heap → List Loc → Prop} {a : Addr} {argsL rest : List Value}
    (hy1 : y.name = "<init>") (w1 : (Jvm.Cond.methodLink own index y).before a0 Z = true) (w2 : (Jvm.Cond.instanceMethod y).before a0 Z = true) (w3 : (Jvm.Cond.initialized y.cls).before a0 Z = true) (w4 : (Jvm.Cond.code y bytes maxL none).before a0 Z = true) (hy : y.cls ≠ "java/lang/invoke/MethodHandle" ∧ y.cls ≠ "java/lang/invoke/VarHandle")
    (hM : own_C l Z y bytes maxL none rm (.ref a :: argsL).toArray h Qc) (hf : rm.frames + 1 ≤ R.frames) (hl : W + (maxL + 11) + rm.locals ≤ R.locals) (eT : T.heap = h) (hg : g.method = m) (hsize : g.locals.size = c.maxLocals) (hlen : ∀ sig, parseMethodDescriptor y.desc = some sig → argsL.length = sig.parameters.length)
    (hstack : g.stack = argsL.reverse ++ .ref a :: rest) (hW : 2 * g.monitorRoom + (rest.map fun v => v.category).sum ≤ W) (hd : decode c.code g.pc = .ok (.invokespecial index, 3)) (hc : cells + rm.cells ≤ R.cells) (hs : slots + rm.slots ≤ R.slots)
    (k : ∀ (v : Option Value) (T' : State) (h' : Heap) (L : List Loc), Stand p l e R s m args below meth c T' (locs ++ L) (cells + rm.cells) (slots + rm.slots) → T'.heap = h' → Qc v h' L → own_Out p e below En T' { g with pc := g.pc + 3, stack := v.toList ++ rest } Q kc ks) : own_Out p e below En T g Q kc ks := by
  obtain ⟨v, _, ⟨T', L', k', n'⟩, -, X', ⟨Lc, hQ, l1, l2, l3⟩, st⟩ := X.specialBack hx hy1 hown (mvT hZ w1) (mvT hZ w2) (mvT hZ w4) hy (backOf (W := W) (hM []) hZ w4 w3 hf hl) hg hsize (Steps.refl _) hlen hstack hW hd (fun _ _ => ⟨rfl, eT, hc, hs⟩)
  dsimp only [Pt.U, Pt.locs, Pt.cells, Pt.slots] at X' l1 l2 l3 st hQ
  subst l1 l2 l3
  exact own_to (fun t k => st.trans k) (k v T' _ Lc X' rfl hQ)
/-- an instance method of the object's own class -/
theorem own_callV (X : Stand p l e R s m args below meth c T locs cells slots) (hx : p.tables.exec = Jvm.exec) (hZ : Z.Warmed39 s.vm) {own C : String} (hown : s.vm.findClass own = some m.cls) {index : Nat} {y : MethodName} {bytes : ByteArray} {maxL : Nat} {ret : Option FieldType} {rm : Room} {W : Nat} {Qc : Option Value → Heap → List Loc → Prop} {a : Addr} {argsL rest : List Value}
    (w1 : (Jvm.Cond.methodLink own index y).before a0 Z = true) (w5 : (Jvm.Cond.declares y).before a0 Z = true) (w6 : (Jvm.Cond.selects C y y).before a0 Z = true) (w2 : (Jvm.Cond.instanceMethod y).before a0 Z = true) (w3 : (Jvm.Cond.initialized y.cls).before a0 Z = true) (w4 : (Jvm.Cond.code y bytes maxL ret).before a0 Z = true) (hy : y.cls ≠ "java/lang/invoke/MethodHandle" ∧ y.cls ≠ "java/lang/invoke/VarHandle")
    (hM : own_C l Z y bytes maxL ret rm (.ref a :: argsL).toArray h Qc) (hf : rm.frames + 1 ≤ R.frames) (hl : W + (maxL + 11) + rm.locals ≤ R.locals) (eT : T.heap = h) (E : Exa Z h a C) (hg : g.method = m) (hsize : g.locals.size = c.maxLocals) (hlen : ∀ sig, parseMethodDescriptor y.desc = some sig → argsL.length = sig.parameters.length)
    (hstack : g.stack = argsL.reverse ++ .ref a :: rest) (hW : 2 * g.monitorRoom + (rest.map fun v => v.category).sum ≤ W) (hd : decode c.code g.pc = .ok (.invokevirtual index, 3)) (hc : cells + rm.cells ≤ R.cells) (hs : slots + rm.slots ≤ R.slots)
    (k : ∀ (v : Option Value) (T' : State) (h' : Heap) (L : List Loc), Stand p l e R s m args below meth c T' (locs ++ L) (cells + rm.cells) (slots + rm.slots) → T'.heap = h' → Qc v h' L → own_Out p e below En T' { g with pc := g.pc + 3, stack := v.toList ++ rest } Q kc ks) : own_Out p e below En T g Q kc ks := by
  obtain ⟨cq, kq, qa, qb, qc⟩ := isOf hZ eT E
  obtain ⟨v, _, ⟨T', L', k', n'⟩, -, X', ⟨Lc, hQ, l1, l2, l3⟩, st⟩ := X.virtualBack hx hown (mvT hZ w1) (mvT hZ w5) (notFace_of_selects (args := #[]) (mvT hZ w6)) (mvT hZ w6) (mvT hZ w2) hy (backOf (W := W) (hM []) hZ w4 w3 hf hl) qa qc hg hsize (Steps.refl _) hlen hstack hW hd (fun _ _ => ⟨rfl, eT, hc, hs⟩)
  dsimp only [Pt.U, Pt.locs, Pt.cells, Pt.slots] at X' l1 l2 l3 st hQ
  subst l1 l2 l3
  exact own_to (fun t k => st.trans k) (k v T' _ Lc X' rfl hQ)
/-- a private method of the object's own class, by invokevirtual -/
theorem own_callP (X : Stand p l e R s m args below meth c T locs cells slots) (hx : p.tables.exec = Jvm.exec) (hZ : Z.Warmed39 s.vm) {own C : String} (hown : s.vm.findClass own = some m.cls) {index kk : Nat} {y : MethodName} {bytes : ByteArray} {maxL : Nat} {ret : Option FieldType} {rm : Room} {W : Nat} {Qc : Option Value → Heap → List Loc → Prop} {a : Addr} {argsL rest : List Value}
    (w1 : (Jvm.Cond.methodLink own index y).before a0 Z = true) (w5 : (Jvm.Cond.privateMethod y).before a0 Z = true) (w6 : (Jvm.Cond.instantiable y.cls kk).before a0 Z = true) (w2 : (Jvm.Cond.instanceMethod y).before a0 Z = true) (w3 : (Jvm.Cond.initialized y.cls).before a0 Z = true) (w4 : (Jvm.Cond.code y bytes maxL ret).before a0 Z = true) (hy : y.cls ≠ "java/lang/invoke/MethodHandle" ∧ y.cls ≠ "java/lang/invoke/VarHandle")
    (hM : own_C l Z y bytes maxL ret rm (.ref a :: argsL).toArray h Qc) (hf : rm.frames + 1 ≤ R.frames) (hl : W + (maxL + 11) + rm.locals ≤ R.locals) (eT : T.heap = h) (E : Exa Z h a C) (hg : g.method = m) (hsize : g.locals.size = c.maxLocals) (hlen : ∀ sig, parseMethodDescriptor y.desc = some sig → argsL.length = sig.parameters.length)
    (hstack : g.stack = argsL.reverse ++ .ref a :: rest) (hW : 2 * g.monitorRoom + (rest.map fun v => v.category).sum ≤ W) (hd : decode c.code g.pc = .ok (.invokevirtual index, 3)) (hc : cells + rm.cells ≤ R.cells) (hs : slots + rm.slots ≤ R.slots)
    (k : ∀ (v : Option Value) (T' : State) (h' : Heap) (L : List Loc), Stand p l e R s m args below meth c T' (locs ++ L) (cells + rm.cells) (slots + rm.slots) → T'.heap = h' → Qc v h' L → own_Out p e below En T' { g with pc := g.pc + 3, stack := v.toList ++ rest } Q kc ks) : own_Out p e below En T g Q kc ks := by
  obtain ⟨cq, q, q'⟩ := E.cell
  have hp : s.PrivateAt y := Cond.privateMethod_at (mvP hZ w5 (args := #[]))
  obtain ⟨cy, ky, f1, f2, -, f3, -⟩ := Cond.instantiable_spec (mvT (args := args) hZ w6)
  have hi : ky.isInterface = false := (Bool.or_eq_false_iff.mp f3).1
  have hse : (Jvm.Cond.selects y.cls y y).before args s = true := selects_self_of_private f1 f2 hi hp (mvT hZ w2) hy
  obtain ⟨v, _, ⟨T', L', k', n'⟩, -, X', ⟨Lc, hQ, l1, l2, l3⟩, st⟩ := X.privateBack hx hown (mvT hZ w1) (mvT hZ w2) hse hp (mvT hZ w4) hy (backOf (W := W) (hM []) hZ w4 w3 hf hl) hg hsize (Steps.refl _) (by rw [eT]; exact q) q' hlen hstack hW hd (fun _ _ => ⟨rfl, eT, hc, hs⟩)
  dsimp only [Pt.U, Pt.locs, Pt.cells, Pt.slots] at X' l1 l2 l3 st hQ
  subst l1 l2 l3
  exact own_to (fun t k => st.trans k) (k v T' _ Lc X' rfl hQ)
/-! the heap's steps -/
theorem own_getF (X : Stand p l e R s m args below meth c T locs cells slots) (hx : p.tables.exec = Jvm.exec) (hZ : Z.Warmed39 s.vm) {own O n d : String} {index : Nat} (hown : s.vm.findClass own = some m.cls) (w : (Jvm.Cond.fieldLink own index O n d).before a0 Z = true) (eT : T.heap = h) {a : Addr} {v : Value} (F : Fld Z h a O n d v)
    (hg : g.method = m) {rest : List Value} (hs : g.stack = .ref a :: rest) (hd : decode c.code g.pc = .ok (.getfield index, 3)) (k : ∀ T', Stand p l e R s m args below meth c T' locs cells slots → T'.heap = h → own_Out p e below En T' { g with pc := g.pc + 3, stack := v :: rest } Q kc ks) : own_Out p e below En T g Q kc ks := by
  obtain ⟨T', X', e', st⟩ := getF X hx hZ hown (host := "") (Or.inl w) Via.refl eT F hg hs hd
  exact own_to st (k T' X' e')
theorem own_putF (X : Stand p l e R s m args below meth c T locs cells slots) (hx : p.tables.exec = Jvm.exec) (hZ : Z.Warmed39 s.vm) {own O n d C : String} {index kk : Nat} {ty : FieldType} (hown : s.vm.findClass own = some m.cls) (w : (Jvm.Cond.fieldLink own index O n d).before a0 Z = true) (eT : T.heap = h) {a : Addr} {v old : Value} (F : Fld Z h a O n d old) (E : Exa Z h a C)
    (L : (Jvm.Cond.lays C O n d).before a0 Z = true ∨ ((Jvm.Cond.laysFinal C O n d).before a0 Z = true ∧ own = O ∧ meth.name = "<init>")) (wi : (Jvm.Cond.instantiable C kk).before a0 Z = true) (hty : parseFieldDescriptor d = some ty) (hn : narrow ty v = v) (hf : fits ty v = true)
    (hg : g.method = m) {rest : List Value} (hs : g.stack = v :: .ref a :: rest) (hd : decode c.code g.pc = .ok (.putfield index, 3)) (k : ∀ T' h', Stand p l e R s m args below meth c T' (locs ++ [⟨a, Jvm.RoadKit.slotOf Z O n d⟩]) cells slots → T'.heap = h' → Wr h h' a (Jvm.RoadKit.slotOf Z O n d) v → own_Out p e below En T' { g with pc := g.pc + 3, stack := rest } Q kc ks) : own_Out p e below En T g Q kc ks := by
  obtain ⟨T', h', X', e', W', st⟩ := putF X hx hZ hown (host := "") (Or.inl w) Via.refl eT F E L wi hty hn hf hg hs hd
  exact own_to st (k T' h' X' e' W')
theorem own_new (X : Stand p l e R s m args below meth c T locs cells slots) (hx : p.tables.exec = Jvm.exec) (hZ : Z.Warmed39 s.vm) {own C : String} {index n : Nat} (hown : s.vm.findClass own = some m.cls) (w : (Jvm.Cond.classLink own index C).before a0 Z = true) (wi : (Jvm.Cond.instantiable C n).before a0 Z = true) (wz : (Jvm.Cond.initialized C).before a0 Z = true) (eT : T.heap = h)
    (hg : g.method = m) (hd : decode c.code g.pc = .ok (.new index, 3)) (hc : cells + 1 ≤ R.cells) (hl : slots + n ≤ R.slots)
    (k : ∀ T' h' a, a = h.size → Stand p l e R s m args below meth c T' locs (cells + 1) (slots + n) → T'.heap = h' → Ext h h' → Exa Z h' a C → (∀ {O nm d : String} {ty : FieldType}, Laid Z a0 C O nm d → parseFieldDescriptor d = some ty → Fld Z h' a O nm d (defaultValue ty)) → own_Out p e below En T' { g with pc := g.pc + 3, stack := .ref a :: g.stack } Q kc ks) : own_Out p e below En T g Q kc ks := by
  obtain ⟨T', h', X', e', E', A', D', -, st⟩ := newO X hx hZ hown w wi wz eT hg hd hc hl
  exact own_to st (k T' h' _ rfl X' e' E' A' D')
/-! arrays of ints, bytes, booleans: how many places, and what each holds -/
def own_upd (f : Nat → Int32) (j : Nat) (x : Int32) : Nat → Int32 := fun i => if i = j then x else f i
def own_A (Z : State) (h : Heap) (a : Addr) (ty : FieldType) (n : Nat) (f : Nat → Int32) : Prop := ∃ cl : Cell, Arr Z h a cl ty ∧ cl.slots.size = n ∧ ∀ j, j < n → cl.slots[j]? = some (.int (f j))
variable {a b : Addr} {ty : FieldType} {n : Nat} {f : Nat → Int32} {ws : List Addr} {v : Value} {sl : Nat}
theorem own_A.lt (F : own_A Z h a ty n f) : a < h.size := by obtain ⟨_, A, -⟩ := F; exact A.lt
theorem own_A.ext (F : own_A Z h a ty n f) (E : Ext h h') : own_A Z h' a ty n f := by obtain ⟨cl, A, r⟩ := F; exact ⟨cl, A.ext E, r⟩
theorem own_A.other (F : own_A Z h b ty n f) (W : Wr h h' a sl v) (q : b ≠ a) : own_A Z h' b ty n f := by obtain ⟨cl, A, r⟩ := F; exact ⟨cl, A.other W q, r⟩
theorem own_A.keep (F : own_A Z h a ty n f) (K : Keep h h' ws) (q : a ∉ ws) : own_A Z h' a ty n f := by obtain ⟨cl, A, r⟩ := F; exact ⟨cl, ⟨K.2.1 a cl A.1 q, A.2⟩, r⟩
theorem own_A.congr {f' : Nat → Int32} (F : own_A Z h a ty n f) (q : ∀ j, j < n → f j = f' j) : own_A Z h a ty n f' := by obtain ⟨cl, A, r1, r2⟩ := F; exact ⟨cl, A, r1, fun j hj => by rw [r2 j hj, q j hj]⟩
theorem own_A.set {cl : Cell} {j : Nat} {x : Int32} (A : Arr Z h a cl ty) (q1 : cl.slots.size = n) (q2 : ∀ j, j < n → cl.slots[j]? = some (.int (f j))) (W : Wr h h' a j (.int x)) (hj : j < n) : own_A Z h' a ty n (own_upd f j x) := by
  refine ⟨_, A.same W, by rw [sz_set, q1], fun i hi => ?_⟩
  simp only [Cell.setSlot, Array.getElem?_setIfInBounds, own_upd]
  by_cases e : j = i
  · subst e
    simp [q1, hj]
  · rw [if_neg e, q2 i hi, if_neg (fun q => e q.symm)]
theorem own_in {j : Int32} {N : Nat} (h0 : ¬ j < 0) (h1 : j.toNatClampNeg < N) : ¬ (j < 0 ∨ N ≤ j.toNatClampNeg) := fun q => q.elim h0 (fun r => Nat.not_lt.mpr r h1)
theorem own_stI (X : Stand p l e R s m args below meth c T locs cells slots) (hx : p.tables.exec = Jvm.exec) (hZ : Z.Warmed39 s.vm) (eT : T.heap = h) (F : own_A Z h a .int n f) {j x : Int32} (h0 : ¬ j < 0) (h1 : j.toNatClampNeg < n) (hg : g.method = m) {rest : List Value} (hs : g.stack = .int x :: .int j :: .ref a :: rest) (hd : decode c.code g.pc = .ok (.iastore, 1))
    (k : ∀ T' h', Stand p l e R s m args below meth c T' (locs ++ [⟨a, j.toNatClampNeg⟩]) cells slots → T'.heap = h' → Wr h h' a j.toNatClampNeg (.int x) → own_A Z h' a .int n (own_upd f j.toNatClampNeg x) → own_Out p e below En T' { g with pc := g.pc + 1, stack := rest } Q kc ks) : own_Out p e below En T g Q kc ks := by
  obtain ⟨cl, A, q1, q2⟩ := F
  obtain ⟨T', h', X', e', W', st⟩ := stI X hx hZ eT A (own_in h0 (by rw [q1]; exact h1)) hg hs hd
  exact own_to st (k T' h' X' e' W' (own_A.set A q1 q2 W' h1))
theorem own_stZ (X : Stand p l e R s m args below meth c T locs cells slots) (hx : p.tables.exec = Jvm.exec) (hZ : Z.Warmed39 s.vm) (eT : T.heap = h) (F : own_A Z h a .boolean n f) {j x : Int32} (h0 : ¬ j < 0) (h1 : j.toNatClampNeg < n) (hg : g.method = m) {rest : List Value} (hs : g.stack = .int x :: .int j :: .ref a :: rest) (hd : decode c.code g.pc = .ok (.bastore, 1))
    (k : ∀ T' h', Stand p l e R s m args below meth c T' (locs ++ [⟨a, j.toNatClampNeg⟩]) cells slots → T'.heap = h' → Wr h h' a j.toNatClampNeg (.int (nar .boolean x)) → own_A Z h' a .boolean n (own_upd f j.toNatClampNeg (nar .boolean x)) → own_Out p e below En T' { g with pc := g.pc + 1, stack := rest } Q kc ks) : own_Out p e below En T g Q kc ks := by
  obtain ⟨cl, A, q1, q2⟩ := F
  obtain ⟨T', h', X', e', W', st⟩ := stZ X hx hZ eT A (own_in h0 (by rw [q1]; exact h1)) hg hs hd
  exact own_to st (k T' h' X' e' W' (own_A.set A q1 q2 W' h1))
theorem own_stB (X : Stand p l e R s m args below meth c T locs cells slots) (hx : p.tables.exec = Jvm.exec) (hZ : Z.Warmed39 s.vm) (eT : T.heap = h) (F : own_A Z h a .byte n f) {j x : Int32} (h0 : ¬ j < 0) (h1 : j.toNatClampNeg < n) (hg : g.method = m) {rest : List Value} (hs : g.stack = .int x :: .int j :: .ref a :: rest) (hd : decode c.code g.pc = .ok (.bastore, 1))
    (k : ∀ T' h', Stand p l e R s m args below meth c T' (locs ++ [⟨a, j.toNatClampNeg⟩]) cells slots → T'.heap = h' → Wr h h' a j.toNatClampNeg (.int (nar .byte x)) → own_A Z h' a .byte n (own_upd f j.toNatClampNeg (nar .byte x)) → own_Out p e below En T' { g with pc := g.pc + 1, stack := rest } Q kc ks) : own_Out p e below En T g Q kc ks := by
  obtain ⟨cl, A, q1, q2⟩ := F
  obtain ⟨T', h', X', e', W', st⟩ := stB X hx hZ eT A (own_in h0 (by rw [q1]; exact h1)) hg hs hd
  exact own_to st (k T' h' X' e' W' (own_A.set A q1 q2 W' h1))
theorem own_newA (X : Stand p l e R s m args below meth c T locs cells slots) (hx : p.tables.exec = Jvm.exec) (hZ : Z.Warmed39 s.vm) {aty : ArrayType} (w : (Jvm.Cond.arrayClass (newarray.typeOf aty)).before a0 Z = true) (hdef : defaultValue (newarray.typeOf aty) = .int 0) (eT : T.heap = h) (hg : g.method = m) (hd : decode c.code g.pc = .ok (.newarray aty, 2)) {N : Int32} {rest : List Value} (hs : g.stack = .int N :: rest)
    (hn : ¬ N < 0) {cap : Nat} (hcap : N.toNatClampNeg ≤ cap) (hb : cap * 8 ≤ 536870912) (hc : cells + 1 ≤ R.cells) (hl : slots + cap ≤ R.slots)
    (k : ∀ T' h' a, a = h.size → Stand p l e R s m args below meth c T' locs (cells + 1) (slots + cap) → T'.heap = h' → Ext h h' → own_A Z h' a (newarray.typeOf aty) N.toNatClampNeg (fun _ => 0) → own_Out p e below En T' { g with pc := g.pc + 2, stack := .ref a :: rest } Q kc ks) : own_Out p e below En T g Q kc ks := by
  obtain ⟨T', h', cA, X', e', E', A', st⟩ := newP X hx hZ w eT hg hd hs hn hcap hb hc hl
  refine own_to st (k T' h' _ rfl X' e' E' ⟨_, A', sz_new _ _ _, fun j hj => ?_⟩)
  simp [newA, hdef, hj]
theorem own_len (X : Stand p l e R s m args below meth c T locs cells slots) (hx : p.tables.exec = Jvm.exec) (hZ : Z.Warmed39 s.vm) (eT : T.heap = h) (F : own_A Z h a ty n f) (hg : g.method = m) {rest : List Value} (hs : g.stack = .ref a :: rest) (hd : decode c.code g.pc = .ok (.arraylength, 1))
    (k : own_Out p e below En T { g with pc := g.pc + 1, stack := .int n.toInt32 :: rest } Q kc ks) : own_Out p e below En T g Q kc ks := by
  obtain ⟨cl, A, q1, q2⟩ := F
  subst q1
  exact own_to (X.arraylength hx (by rw [eT]; exact A.1) (State.isArrayOf_alike hZ.alike A.2.1) hg hs hd) k
theorem own_ldI (X : Stand p l e R s m args below meth c T locs cells slots) (hx : p.tables.exec = Jvm.exec) (hZ : Z.Warmed39 s.vm) (eT : T.heap = h) (F : own_A Z h a .int n f) {j : Int32} (h0 : ¬ j < 0) (h1 : j.toNatClampNeg < n) (hg : g.method = m) {rest : List Value} (hs : g.stack = .int j :: .ref a :: rest) (hd : decode c.code g.pc = .ok (.iaload, 1))
    (k : ∀ w : Int32, w = f j.toNatClampNeg → own_Out p e below En T { g with pc := g.pc + 1, stack := .int w :: rest } Q kc ks) : own_Out p e below En T g Q kc ks := by
  obtain ⟨cl, A, q1, q2⟩ := F
  exact own_to (X.iaload hx (by rw [eT]; exact A.1) (State.isArrayOf_alike hZ.alike A.2.1) A.2.2 (own_in h0 (by rw [q1]; exact h1)) (q2 _ h1) hg hs hd) (k _ rfl)
theorem own_ldZ (X : Stand p l e R s m args below meth c T locs cells slots) (hx : p.tables.exec = Jvm.exec) (hZ : Z.Warmed39 s.vm) (eT : T.heap = h) (F : own_A Z h a .boolean n f) {j : Int32} (h0 : ¬ j < 0) (h1 : j.toNatClampNeg < n) (hg : g.method = m) {rest : List Value} (hs : g.stack = .int j :: .ref a :: rest) (hd : decode c.code g.pc = .ok (.baload, 1))
    (k : ∀ w : Int32, w = f j.toNatClampNeg → own_Out p e below En T { g with pc := g.pc + 1, stack := .int w :: rest } Q kc ks) : own_Out p e below En T g Q kc ks := by
  obtain ⟨cl, A, q1, q2⟩ := F
  exact own_to (X.baloadBooleans hx (by rw [eT]; exact A.1) (State.isArrayOf_alike hZ.alike A.2.1) A.2.2 (own_in h0 (by rw [q1]; exact h1)) (q2 _ h1) hg hs hd) (k _ rfl)
theorem own_ldB (X : Stand p l e R s m args below meth c T locs cells slots) (hx : p.tables.exec = Jvm.exec) (hZ : Z.Warmed39 s.vm) (eT : T.heap = h) (F : own_A Z h a .byte n f) {j : Int32} (h0 : ¬ j < 0) (h1 : j.toNatClampNeg < n) (hg : g.method = m) {rest : List Value} (hs : g.stack = .int j :: .ref a :: rest) (hd : decode c.code g.pc = .ok (.baload, 1))
    (k : ∀ w : Int32, w = f j.toNatClampNeg → own_Out p e below En T { g with pc := g.pc + 1, stack := .int w :: rest } Q kc ks) : own_Out p e below En T g Q kc ks := by
  obtain ⟨cl, A, q1, q2⟩ := F
  exact own_to (X.baloadBytes hx (by rw [eT]; exact A.1) (State.isArrayOf_alike hZ.alike A.2.1) A.2.2 (own_in h0 (by rw [q1]; exact h1)) (q2 _ h1) hg hs hd) (k _ rfl)
theorem own_idx (x n : Int32) (N : Nat) (hn : n.toInt = (N : Int)) (h0 : 0 < N) : ¬ ((x &&& (2147483647 : Int32)) % n < 0) ∧ ((x &&& (2147483647 : Int32)) % n).toNatClampNeg < N := by
  have h1 := c_mask x 2147483647 31 (by decide) (by decide)
  have h2 := c_irem (x &&& 2147483647) n N hn
  have k : (0 : Int32).toInt = 0 := by decide
  have h3 : ¬ ((x &&& (2147483647 : Int32)) % n < 0) := by
    rw [Int32.lt_iff_toInt_lt, k, h2.1 (by omega)]
    have := Int.emod_nonneg (x &&& 2147483647).toInt (show (N : Int) ≠ 0 by omega)
    omega
  have h4 := nat_of h3
  have h5 := Int.emod_lt_of_pos (x &&& 2147483647).toInt (show (0 : Int) < N by omega)
  rw [h2.1 (by omega)] at h4
  exact ⟨h3, by omega⟩
theorem own_fs {k : Nat} {L : List Loc} (N : Fr k L) (q : k ≤ a) : Fr k (L ++ [⟨a, sl⟩]) := N.app fun y hy => by cases List.mem_singleton.mp hy; exact q
end OwnKit
theorem d1_0 : decode prog_170_method_6_code 0 = .ok (.iload_n 0, 1) := by decide +kernel
theorem d1_1 : decode prog_170_method_6_code 1 = .ok (.sipush 160, 3) := by decide +kernel
theorem d1_4 : decode prog_170_method_6_code 4 = .ok (.if_icmp .lt 9, 3) := by decide +kernel
theorem d1_7 : decode prog_170_method_6_code 7 = .ok (.iload_n 0, 1) := by decide +kernel
theorem d1_8 : decode prog_170_method_6_code 8 = .ok (.ldc 205, 2) := by decide +kernel
theorem d1_10 : decode prog_170_method_6_code 10 = .ok (.if_icmp .le 60, 3) := by decide +kernel
theorem d1_13 : decode prog_170_method_6_code 13 = .ok (.iload_n 0, 1) := by decide +kernel
theorem d1_14 : decode prog_170_method_6_code 14 = .ok (.ldc 206, 2) := by decide +kernel
theorem d1_16 : decode prog_170_method_6_code 16 = .ok (.if_icmp .lt 9, 3) := by decide +kernel
theorem d1_19 : decode prog_170_method_6_code 19 = .ok (.iload_n 0, 1) := by decide +kernel
theorem d1_20 : decode prog_170_method_6_code 20 = .ok (.ldc 207, 2) := by decide +kernel
theorem d1_22 : decode prog_170_method_6_code 22 = .ok (.if_icmp .le 48, 3) := by decide +kernel
theorem d1_25 : decode prog_170_method_6_code 25 = .ok (.iload_n 0, 1) := by decide +kernel
theorem d1_26 : decode prog_170_method_6_code 26 = .ok (.ldc 208, 2) := by decide +kernel
theorem d1_28 : decode prog_170_method_6_code 28 = .ok (.if_icmp .lt 9, 3) := by decide +kernel
theorem d1_31 : decode prog_170_method_6_code 31 = .ok (.iload_n 0, 1) := by decide +kernel
theorem d1_32 : decode prog_170_method_6_code 32 = .ok (.ldc 209, 2) := by decide +kernel
theorem d1_34 : decode prog_170_method_6_code 34 = .ok (.if_icmp .le 36, 3) := by decide +kernel
theorem d1_37 : decode prog_170_method_6_code 37 = .ok (.iload_n 0, 1) := by decide +kernel
theorem d1_38 : decode prog_170_method_6_code 38 = .ok (.ldc 210, 2) := by decide +kernel
theorem d1_40 : decode prog_170_method_6_code 40 = .ok (.if_icmp .lt 34, 3) := by decide +kernel
theorem d1_43 : decode prog_170_method_6_code 43 = .ok (.iload_n 0, 1) := by decide +kernel
theorem d1_44 : decode prog_170_method_6_code 44 = .ok (.ldc 211, 2) := by decide +kernel
theorem d1_46 : decode prog_170_method_6_code 46 = .ok (.if_icmp .ge 28, 3) := by decide +kernel
theorem d1_49 : decode prog_170_method_6_code 49 = .ok (.iload_n 0, 1) := by decide +kernel
theorem d1_50 : decode prog_170_method_6_code 50 = .ok (.ldc 212, 2) := by decide +kernel
theorem d1_52 : decode prog_170_method_6_code 52 = .ok (.iand, 1) := by decide +kernel
theorem d1_53 : decode prog_170_method_6_code 53 = .ok (.ldc 213, 2) := by decide +kernel
theorem d1_55 : decode prog_170_method_6_code 55 = .ok (.if_icmp .gt 19, 3) := by decide +kernel
theorem d1_58 : decode prog_170_method_6_code 58 = .ok (.iload_n 0, 1) := by decide +kernel
theorem d1_59 : decode prog_170_method_6_code 59 = .ok (.ldc 214, 2) := by decide +kernel
theorem d1_61 : decode prog_170_method_6_code 61 = .ok (.if_icmp .lt 9, 3) := by decide +kernel
theorem d1_64 : decode prog_170_method_6_code 64 = .ok (.iload_n 0, 1) := by decide +kernel
theorem d1_65 : decode prog_170_method_6_code 65 = .ok (.ldc 215, 2) := by decide +kernel
theorem d1_67 : decode prog_170_method_6_code 67 = .ok (.if_icmp .lt 7, 3) := by decide +kernel
theorem d1_70 : decode prog_170_method_6_code 70 = .ok (.iconst 1, 1) := by decide +kernel
theorem d1_71 : decode prog_170_method_6_code 71 = .ok (.goto 4, 3) := by decide +kernel
theorem d1_74 : decode prog_170_method_6_code 74 = .ok (.iconst 0, 1) := by decide +kernel
theorem d1_75 : decode prog_170_method_6_code 75 = .ok (.ireturn, 1) := by decide +kernel
theorem pn_0 : plainName "com/example/constraint/constraint/schema/UriReference" = true := by first | (simp [plainName, overriddenIn]; done) | decide +kernel
theorem ef_1 (m : MethodId) (u0 : Int32) : entryFrame m #[(.int u0)] 1 = mkF m 0 #[.val (.int u0)] [] := by first | (simp [entryFrame, mkF, argsToLocals, Value.category]; done) | rfl
def R1 (u0 : Int32) : Int32 := (if u0 < (160 : Int32) then (if u0 < (63744 : Int32) then (if u0 < (65008 : Int32) then (if u0 < (65536 : Int32) then (0 : Int32) else (if u0 < (983040 : Int32) then (if (65533 : Int32) < (u0 &&& (65535 : Int32)) then (0 : Int32) else (if u0 < (917504 : Int32) then (1 : Int32) else (if u0 < (921600 : Int32) then (0 : Int32) else (1 : Int32)))) else (0 : Int32))) else (if (65519 : Int32) < u0 then (if u0 < (65536 : Int32) then (0 : Int32) else (if u0 < (983040 : Int32) then (if (65533 : Int32) < (u0 &&& (65535 : Int32)) then (0 : Int32) else (if u0 < (917504 : Int32) then (1 : Int32) else (if u0 < (921600 : Int32) then (0 : Int32) else (1 : Int32)))) else (0 : Int32))) else (1 : Int32))) else (if (64975 : Int32) < u0 then (if u0 < (65008 : Int32) then (if u0 < (65536 : Int32) then (0 : Int32) else (if u0 < (983040 : Int32) then (if (65533 : Int32) < (u0 &&& (65535 : Int32)) then (0 : Int32) else (if u0 < (917504 : Int32) then (1 : Int32) else (if u0 < (921600 : Int32) then (0 : Int32) else (1 : Int32)))) else (0 : Int32))) else (if (65519 : Int32) < u0 then (if u0 < (65536 : Int32) then (0 : Int32) else (if u0 < (983040 : Int32) then (if (65533 : Int32) < (u0 &&& (65535 : Int32)) then (0 : Int32) else (if u0 < (917504 : Int32) then (1 : Int32) else (if u0 < (921600 : Int32) then (0 : Int32) else (1 : Int32)))) else (0 : Int32))) else (1 : Int32))) else (1 : Int32))) else (if (55295 : Int32) < u0 then (if u0 < (63744 : Int32) then (if u0 < (65008 : Int32) then (if u0 < (65536 : Int32) then (0 : Int32) else (if u0 < (983040 : Int32) then (if (65533 : Int32) < (u0 &&& (65535 : Int32)) then (0 : Int32) else (if u0 < (917504 : Int32) then (1 : Int32) else (if u0 < (921600 : Int32) then (0 : Int32) else (1 : Int32)))) else (0 : Int32))) else (if (65519 : Int32) < u0 then (if u0 < (65536 : Int32) then (0 : Int32) else (if u0 < (983040 : Int32) then (if (65533 : Int32) < (u0 &&& (65535 : Int32)) then (0 : Int32) else (if u0 < (917504 : Int32) then (1 : Int32) else (if u0 < (921600 : Int32) then (0 : Int32) else (1 : Int32)))) else (0 : Int32))) else (1 : Int32))) else (if (64975 : Int32) < u0 then (if u0 < (65008 : Int32) then (if u0 < (65536 : Int32) then (0 : Int32) else (if u0 < (983040 : Int32) then (if (65533 : Int32) < (u0 &&& (65535 : Int32)) then (0 : Int32) else (if u0 < (917504 : Int32) then (1 : Int32) else (if u0 < (921600 : Int32) then (0 : Int32) else (1 : Int32)))) else (0 : Int32))) else (if (65519 : Int32) < u0 then (if u0 < (65536 : Int32) then (0 : Int32) else (if u0 < (983040 : Int32) then (if (65533 : Int32) < (u0 &&& (65535 : Int32)) then (0 : Int32) else (if u0 < (917504 : Int32) then (1 : Int32) else (if u0 < (921600 : Int32) then (0 : Int32) else (1 : Int32)))) else (0 : Int32))) else (1 : Int32))) else (1 : Int32))) else (1 : Int32)))
def Q1 (Z : State) (u0 : Int32) (h0 : Heap) (n0 : Nat) (v : Option Value) (h : Heap) (L : List Loc) : Prop := v = some (.int (R1 u0)) ∧ Fr n0 L ∧ h = h0
set_option maxRecDepth 65536 in
set_option maxHeartbeats 40000000 in
theorem rm1 (l : Launch) (Z : State) (a0 : Array Value) (hw : ∀ d ∈ tables_1, d.before a0 Z = true) (u0 : Int32) (h0 : Heap) (n0 : Nat) (Z0 : n0 ≤ h0.size) :
    own_C l Z (⟨"com/example/constraint/constraint/schema/UriReference", "isUcsCharacter", "(I)Z"⟩ : MethodName) prog_170_method_6_code 1 (some .boolean) ({ frames := 0, cells := 0, slots := 0, locals := 0 } : Room) #[(.int u0)] h0 (Q1 Z u0 h0 n0) := by
  refine own_met (plainFor_of_name pn_0) ?_
  intro p e s m below meth c s₁ hx hby hml hret hlk hown hnm hZ X0 e0
  refine own_cast (ef_1 m u0) ?_
  have N0 := Fr.nil n0
  show own_Out p e below _ s₁ (mkF m 0 #[.val (.int u0)] []) _ _ _
  refine own_to (fun t k => XS.iloadN X0.here hx rfl (hb hby d1_0) rfl k) ?_
  show own_Out p e below _ s₁ (mkF m 1 #[.val (.int u0)] [(.int u0)]) _ _ _
  refine own_to (fun t k => XS.sipush X0.here hx rfl (hb hby d1_1) k) ?_
  show own_Out p e below _ s₁ (mkF m 4 #[.val (.int u0)] [(.int (160 : Int32)), (.int u0)]) _ _ _
  by_cases hc4 : u0 < (160 : Int32)
  · refine own_to (fun t k => XS.icmpYes X0.here hx rfl (pc0 := 4) (pc' := 13) rfl (hb hby d1_4) rfl (tlt hc4).1 (by decide) (by decide) k) ?_
    show own_Out p e below _ s₁ (mkF m 13 #[.val (.int u0)] []) _ _ _
    refine own_to (fun t k => XS.iloadN X0.here hx rfl (hb hby d1_13) rfl k) ?_
    show own_Out p e below _ s₁ (mkF m 14 #[.val (.int u0)] [(.int u0)]) _ _ _
    refine own_to (fun t k => X0.ldcI hx hown (mvT hZ (hw _ (List.mem_of_getElem? (i := 31) rfl))) rfl (hb hby d1_14) k) ?_
    show own_Out p e below _ s₁ (mkF m 16 #[.val (.int u0)] [(.int (63744 : Int32)), (.int u0)]) _ _ _
    by_cases hc16 : u0 < (63744 : Int32)
    · refine own_to (fun t k => XS.icmpYes X0.here hx rfl (pc0 := 16) (pc' := 25) rfl (hb hby d1_16) rfl (tlt hc16).1 (by decide) (by decide) k) ?_
      show own_Out p e below _ s₁ (mkF m 25 #[.val (.int u0)] []) _ _ _
      refine own_to (fun t k => XS.iloadN X0.here hx rfl (hb hby d1_25) rfl k) ?_
      show own_Out p e below _ s₁ (mkF m 26 #[.val (.int u0)] [(.int u0)]) _ _ _
      refine own_to (fun t k => X0.ldcI hx hown (mvT hZ (hw _ (List.mem_of_getElem? (i := 32) rfl))) rfl (hb hby d1_26) k) ?_
      show own_Out p e below _ s₁ (mkF m 28 #[.val (.int u0)] [(.int (65008 : Int32)), (.int u0)]) _ _ _
      by_cases hc28 : u0 < (65008 : Int32)
      · refine own_to (fun t k => XS.icmpYes X0.here hx rfl (pc0 := 28) (pc' := 37) rfl (hb hby d1_28) rfl (tlt hc28).1 (by decide) (by decide) k) ?_
        show own_Out p e below _ s₁ (mkF m 37 #[.val (.int u0)] []) _ _ _
        refine own_to (fun t k => XS.iloadN X0.here hx rfl (hb hby d1_37) rfl k) ?_
        show own_Out p e below _ s₁ (mkF m 38 #[.val (.int u0)] [(.int u0)]) _ _ _
        refine own_to (fun t k => X0.ldcI hx hown (mvT hZ (hw _ (List.mem_of_getElem? (i := 33) rfl))) rfl (hb hby d1_38) k) ?_
        show own_Out p e below _ s₁ (mkF m 40 #[.val (.int u0)] [(.int (65536 : Int32)), (.int u0)]) _ _ _
        by_cases hc40 : u0 < (65536 : Int32)
        · refine own_to (fun t k => XS.icmpYes X0.here hx rfl (pc0 := 40) (pc' := 74) rfl (hb hby d1_40) rfl (tlt hc40).1 (by decide) (by decide) k) ?_
          show own_Out p e below _ s₁ (mkF m 74 #[.val (.int u0)] []) _ _ _
          refine own_to (fun t k => XS.iconst X0.here hx rfl (hb hby d1_74) k) ?_
          show own_Out p e below _ s₁ (mkF m 75 #[.val (.int u0)] [(.int (0 : Int32))]) _ _ _
          refine own_retV X0 hx hlk (w := .int (0 : Int32)) hret rfl (Or.inl ⟨rfl, by simp, _, rfl⟩) (hb hby d1_75) (by decide) (by decide) ?_
          rw [e0]
          exact ⟨(by unfold R1; rw [if_pos hc4, if_pos hc16, if_pos hc28, if_pos hc40]), N0, rfl⟩
        · refine own_to (fun t k => XS.icmpNo X0.here hx rfl (hb hby d1_40) rfl (flt hc40).1 k) ?_
          show own_Out p e below _ s₁ (mkF m 43 #[.val (.int u0)] []) _ _ _
          refine own_to (fun t k => XS.iloadN X0.here hx rfl (hb hby d1_43) rfl k) ?_
          show own_Out p e below _ s₁ (mkF m 44 #[.val (.int u0)] [(.int u0)]) _ _ _
          refine own_to (fun t k => X0.ldcI hx hown (mvT hZ (hw _ (List.mem_of_getElem? (i := 66) rfl))) rfl (hb hby d1_44) k) ?_
          show own_Out p e below _ s₁ (mkF m 46 #[.val (.int u0)] [(.int (983040 : Int32)), (.int u0)]) _ _ _
          by_cases hc46 : u0 < (983040 : Int32)
          · refine own_to (fun t k => XS.icmpNo X0.here hx rfl (hb hby d1_46) rfl (tlt hc46).2.1 k) ?_
            show own_Out p e below _ s₁ (mkF m 49 #[.val (.int u0)] []) _ _ _
            refine own_to (fun t k => XS.iloadN X0.here hx rfl (hb hby d1_49) rfl k) ?_
            show own_Out p e below _ s₁ (mkF m 50 #[.val (.int u0)] [(.int u0)]) _ _ _
            refine own_to (fun t k => X0.ldcI hx hown (mvT hZ (hw _ (List.mem_of_getElem? (i := 67) rfl))) rfl (hb hby d1_50) k) ?_
            show own_Out p e below _ s₁ (mkF m 52 #[.val (.int u0)] [(.int (65535 : Int32)), (.int u0)]) _ _ _
            refine own_to (fun t k => XS.iand X0.here hx rfl (hb hby d1_52) rfl k) ?_
            show own_Out p e below _ s₁ (mkF m 53 #[.val (.int u0)] [(.int (u0 &&& (65535 : Int32)))]) _ _ _
            refine own_to (fun t k => X0.ldcI hx hown (mvT hZ (hw _ (List.mem_of_getElem? (i := 68) rfl))) rfl (hb hby d1_53) k) ?_
            show own_Out p e below _ s₁ (mkF m 55 #[.val (.int u0)] [(.int (65533 : Int32)), (.int (u0 &&& (65535 : Int32)))]) _ _ _
            by_cases hc55 : (65533 : Int32) < (u0 &&& (65535 : Int32))
            · refine own_to (fun t k => XS.icmpYes X0.here hx rfl (pc0 := 55) (pc' := 74) rfl (hb hby d1_55) rfl (tlt hc55).2.2.1 (by decide) (by decide) k) ?_
              show own_Out p e below _ s₁ (mkF m 74 #[.val (.int u0)] []) _ _ _
              refine own_to (fun t k => XS.iconst X0.here hx rfl (hb hby d1_74) k) ?_
              show own_Out p e below _ s₁ (mkF m 75 #[.val (.int u0)] [(.int (0 : Int32))]) _ _ _
              refine own_retV X0 hx hlk (w := .int (0 : Int32)) hret rfl (Or.inl ⟨rfl, by simp, _, rfl⟩) (hb hby d1_75) (by decide) (by decide) ?_
              rw [e0]
              exact ⟨(by unfold R1; rw [if_pos hc4, if_pos hc16, if_pos hc28, if_neg hc40, if_pos hc46, if_pos hc55]), N0, rfl⟩
            · refine own_to (fun t k => XS.icmpNo X0.here hx rfl (hb hby d1_55) rfl (flt hc55).2.2.1 k) ?_
              show own_Out p e below _ s₁ (mkF m 58 #[.val (.int u0)] []) _ _ _
              refine own_to (fun t k => XS.iloadN X0.here hx rfl (hb hby d1_58) rfl k) ?_
              show own_Out p e below _ s₁ (mkF m 59 #[.val (.int u0)] [(.int u0)]) _ _ _
              refine own_to (fun t k => X0.ldcI hx hown (mvT hZ (hw _ (List.mem_of_getElem? (i := 69) rfl))) rfl (hb hby d1_59) k) ?_
              show own_Out p e below _ s₁ (mkF m 61 #[.val (.int u0)] [(.int (917504 : Int32)), (.int u0)]) _ _ _
              by_cases hc61 : u0 < (917504 : Int32)
              · refine own_to (fun t k => XS.icmpYes X0.here hx rfl (pc0 := 61) (pc' := 70) rfl (hb hby d1_61) rfl (tlt hc61).1 (by decide) (by decide) k) ?_
                show own_Out p e below _ s₁ (mkF m 70 #[.val (.int u0)] []) _ _ _
                refine own_to (fun t k => XS.iconst X0.here hx rfl (hb hby d1_70) k) ?_
                show own_Out p e below _ s₁ (mkF m 71 #[.val (.int u0)] [(.int (1 : Int32))]) _ _ _
                refine own_to (fun t k => XS.goto X0.here hx rfl (pc0 := 71) (pc' := 75) rfl (hb hby d1_71) (by decide) (by decide) k) ?_
                show own_Out p e below _ s₁ (mkF m 75 #[.val (.int u0)] [(.int (1 : Int32))]) _ _ _
                refine own_retV X0 hx hlk (w := .int (1 : Int32)) hret rfl (Or.inl ⟨rfl, by simp, _, rfl⟩) (hb hby d1_75) (by decide) (by decide) ?_
                rw [e0]
                exact ⟨(by unfold R1; rw [if_pos hc4, if_pos hc16, if_pos hc28, if_neg hc40, if_pos hc46, if_neg hc55, if_pos hc61]), N0, rfl⟩
              · refine own_to (fun t k => XS.icmpNo X0.here hx rfl (hb hby d1_61) rfl (flt hc61).1 k) ?_
                show own_Out p e below _ s₁ (mkF m 64 #[.val (.int u0)] []) _ _ _
                refine own_to (fun t k => XS.iloadN X0.here hx rfl (hb hby d1_64) rfl k) ?_
                show own_Out p e below _ s₁ (mkF m 65 #[.val (.int u0)] [(.int u0)]) _ _ _
                refine own_to (fun t k => X0.ldcI hx hown (mvT hZ (hw _ (List.mem_of_getElem? (i := 70) rfl))) rfl (hb hby d1_65) k) ?_
                show own_Out p e below _ s₁ (mkF m 67 #[.val (.int u0)] [(.int (921600 : Int32)), (.int u0)]) _ _ _
                by_cases hc67 : u0 < (921600 : Int32)
                · refine own_to (fun t k => XS.icmpYes X0.here hx rfl (pc0 := 67) (pc' := 74) rfl (hb hby d1_67) rfl (tlt hc67).1 (by decide) (by decide) k) ?_
                  show own_Out p e below _ s₁ (mkF m 74 #[.val (.int u0)] []) _ _ _
                  refine own_to (fun t k => XS.iconst X0.here hx rfl (hb hby d1_74) k) ?_
                  show own_Out p e below _ s₁ (mkF m 75 #[.val (.int u0)] [(.int (0 : Int32))]) _ _ _
                  refine own_retV X0 hx hlk (w := .int (0 : Int32)) hret rfl (Or.inl ⟨rfl, by simp, _, rfl⟩) (hb hby d1_75) (by decide) (by decide) ?_
                  rw [e0]
                  exact ⟨(by unfold R1; rw [if_pos hc4, if_pos hc16, if_pos hc28, if_neg hc40, if_pos hc46, if_neg hc55, if_neg hc61, if_pos hc67]), N0, rfl⟩
                · refine own_to (fun t k => XS.icmpNo X0.here hx rfl (hb hby d1_67) rfl (flt hc67).1 k) ?_
                  show own_Out p e below _ s₁ (mkF m 70 #[.val (.int u0)] []) _ _ _
                  refine own_to (fun t k => XS.iconst X0.here hx rfl (hb hby d1_70) k) ?_
                  show own_Out p e below _ s₁ (mkF m 71 #[.val (.int u0)] [(.int (1 : Int32))]) _ _ _
                  refine own_to (fun t k => XS.goto X0.here hx rfl (pc0 := 71) (pc' := 75) rfl (hb hby d1_71) (by decide) (by decide) k) ?_
                  show own_Out p e below _ s₁ (mkF m 75 #[.val (.int u0)] [(.int (1 : Int32))]) _ _ _
                  refine own_retV X0 hx hlk (w := .int (1 : Int32)) hret rfl (Or.inl ⟨rfl, by simp, _, rfl⟩) (hb hby d1_75) (by decide) (by decide) ?_
                  rw [e0]
                  exact ⟨(by unfold R1; rw [if_pos hc4, if_pos hc16, if_pos hc28, if_neg hc40, if_pos hc46, if_neg hc55, if_neg hc61, if_neg hc67]), N0, rfl⟩
          · refine own_to (fun t k => XS.icmpYes X0.here hx rfl (pc0 := 46) (pc' := 74) rfl (hb hby d1_46) rfl (flt hc46).2.1 (by decide) (by decide) k) ?_
            show own_Out p e below _ s₁ (mkF m 74 #[.val (.int u0)] []) _ _ _
            refine own_to (fun t k => XS.iconst X0.here hx rfl (hb hby d1_74) k) ?_
            show own_Out p e below _ s₁ (mkF m 75 #[.val (.int u0)] [(.int (0 : Int32))]) _ _ _
            refine own_retV X0 hx hlk (w := .int (0 : Int32)) hret rfl (Or.inl ⟨rfl, by simp, _, rfl⟩) (hb hby d1_75) (by decide) (by decide) ?_
            rw [e0]
            exact ⟨(by unfold R1; rw [if_pos hc4, if_pos hc16, if_pos hc28, if_neg hc40, if_neg hc46]), N0, rfl⟩
      · refine own_to (fun t k => XS.icmpNo X0.here hx rfl (hb hby d1_28) rfl (flt hc28).1 k) ?_
        show own_Out p e below _ s₁ (mkF m 31 #[.val (.int u0)] []) _ _ _
        refine own_to (fun t k => XS.iloadN X0.here hx rfl (hb hby d1_31) rfl k) ?_
        show own_Out p e below _ s₁ (mkF m 32 #[.val (.int u0)] [(.int u0)]) _ _ _
        refine own_to (fun t k => X0.ldcI hx hown (mvT hZ (hw _ (List.mem_of_getElem? (i := 65) rfl))) rfl (hb hby d1_32) k) ?_
        show own_Out p e below _ s₁ (mkF m 34 #[.val (.int u0)] [(.int (65519 : Int32)), (.int u0)]) _ _ _
        by_cases hc34 : (65519 : Int32) < u0
        · refine own_to (fun t k => XS.icmpNo X0.here hx rfl (hb hby d1_34) rfl (tlt hc34).2.2.2 k) ?_
          show own_Out p e below _ s₁ (mkF m 37 #[.val (.int u0)] []) _ _ _
          refine own_to (fun t k => XS.iloadN X0.here hx rfl (hb hby d1_37) rfl k) ?_
          show own_Out p e below _ s₁ (mkF m 38 #[.val (.int u0)] [(.int u0)]) _ _ _
          refine own_to (fun t k => X0.ldcI hx hown (mvT hZ (hw _ (List.mem_of_getElem? (i := 33) rfl))) rfl (hb hby d1_38) k) ?_
          show own_Out p e below _ s₁ (mkF m 40 #[.val (.int u0)] [(.int (65536 : Int32)), (.int u0)]) _ _ _
          by_cases hc40 : u0 < (65536 : Int32)
          · refine own_to (fun t k => XS.icmpYes X0.here hx rfl (pc0 := 40) (pc' := 74) rfl (hb hby d1_40) rfl (tlt hc40).1 (by decide) (by decide) k) ?_
            show own_Out p e below _ s₁ (mkF m 74 #[.val (.int u0)] []) _ _ _
            refine own_to (fun t k => XS.iconst X0.here hx rfl (hb hby d1_74) k) ?_
            show own_Out p e below _ s₁ (mkF m 75 #[.val (.int u0)] [(.int (0 : Int32))]) _ _ _
            refine own_retV X0 hx hlk (w := .int (0 : Int32)) hret rfl (Or.inl ⟨rfl, by simp, _, rfl⟩) (hb hby d1_75) (by decide) (by decide) ?_
            rw [e0]
            exact ⟨(by unfold R1; rw [if_pos hc4, if_pos hc16, if_neg hc28, if_pos hc34, if_pos hc40]), N0, rfl⟩
          · refine own_to (fun t k => XS.icmpNo X0.here hx rfl (hb hby d1_40) rfl (flt hc40).1 k) ?_
            show own_Out p e below _ s₁ (mkF m 43 #[.val (.int u0)] []) _ _ _
            refine own_to (fun t k => XS.iloadN X0.here hx rfl (hb hby d1_43) rfl k) ?_
            show own_Out p e below _ s₁ (mkF m 44 #[.val (.int u0)] [(.int u0)]) _ _ _
            refine own_to (fun t k => X0.ldcI hx hown (mvT hZ (hw _ (List.mem_of_getElem? (i := 66) rfl))) rfl (hb hby d1_44) k) ?_
            show own_Out p e below _ s₁ (mkF m 46 #[.val (.int u0)] [(.int (983040 : Int32)), (.int u0)]) _ _ _
            by_cases hc46 : u0 < (983040 : Int32)
            · refine own_to (fun t k => XS.icmpNo X0.here hx rfl (hb hby d1_46) rfl (tlt hc46).2.1 k) ?_
              show own_Out p e below _ s₁ (mkF m 49 #[.val (.int u0)] []) _ _ _
              refine own_to (fun t k => XS.iloadN X0.here hx rfl (hb hby d1_49) rfl k) ?_
              show own_Out p e below _ s₁ (mkF m 50 #[.val (.int u0)] [(.int u0)]) _ _ _
              refine own_to (fun t k => X0.ldcI hx hown (mvT hZ (hw _ (List.mem_of_getElem? (i := 67) rfl))) rfl (hb hby d1_50) k) ?_
              show own_Out p e below _ s₁ (mkF m 52 #[.val (.int u0)] [(.int (65535 : Int32)), (.int u0)]) _ _ _
              refine own_to (fun t k => XS.iand X0.here hx rfl (hb hby d1_52) rfl k) ?_
              show own_Out p e below _ s₁ (mkF m 53 #[.val (.int u0)] [(.int (u0 &&& (65535 : Int32)))]) _ _ _
              refine own_to (fun t k => X0.ldcI hx hown (mvT hZ (hw _ (List.mem_of_getElem? (i := 68) rfl))) rfl (hb hby d1_53) k) ?_
              show own_Out p e below _ s₁ (mkF m 55 #[.val (.int u0)] [(.int (65533 : Int32)), (.int (u0 &&& (65535 : Int32)))]) _ _ _
              by_cases hc55 : (65533 : Int32) < (u0 &&& (65535 : Int32))
              · refine own_to (fun t k => XS.icmpYes X0.here hx rfl (pc0 := 55) (pc' := 74) rfl (hb hby d1_55) rfl (tlt hc55).2.2.1 (by decide) (by decide) k) ?_
                show own_Out p e below _ s₁ (mkF m 74 #[.val (.int u0)] []) _ _ _
                refine own_to (fun t k => XS.iconst X0.here hx rfl (hb hby d1_74) k) ?_
                show own_Out p e below _ s₁ (mkF m 75 #[.val (.int u0)] [(.int (0 : Int32))]) _ _ _
                refine own_retV X0 hx hlk (w := .int (0 : Int32)) hret rfl (Or.inl ⟨rfl, by simp, _, rfl⟩) (hb hby d1_75) (by decide) (by decide) ?_
                rw [e0]
                exact ⟨(by unfold R1; rw [if_pos hc4, if_pos hc16, if_neg hc28, if_pos hc34, if_neg hc40, if_pos hc46, if_pos hc55]), N0, rfl⟩
              · refine own_to (fun t k => XS.icmpNo X0.here hx rfl (hb hby d1_55) rfl (flt hc55).2.2.1 k) ?_
                show own_Out p e below _ s₁ (mkF m 58 #[.val (.int u0)] []) _ _ _
                refine own_to (fun t k => XS.iloadN X0.here hx rfl (hb hby d1_58) rfl k) ?_
                show own_Out p e below _ s₁ (mkF m 59 #[.val (.int u0)] [(.int u0)]) _ _ _
                refine own_to (fun t k => X0.ldcI hx hown (mvT hZ (hw _ (List.mem_of_getElem? (i := 69) rfl))) rfl (hb hby d1_59) k) ?_
                show own_Out p e below _ s₁ (mkF m 61 #[.val (.int u0)] [(.int (917504 : Int32)), (.int u0)]) _ _ _
                by_cases hc61 : u0 < (917504 : Int32)
                · refine own_to (fun t k => XS.icmpYes X0.here hx rfl (pc0 := 61) (pc' := 70) rfl (hb hby d1_61) rfl (tlt hc61).1 (by decide) (by decide) k) ?_
                  show own_Out p e below _ s₁ (mkF m 70 #[.val (.int u0)] []) _ _ _
                  refine own_to (fun t k => XS.iconst X0.here hx rfl (hb hby d1_70) k) ?_
                  show own_Out p e below _ s₁ (mkF m 71 #[.val (.int u0)] [(.int (1 : Int32))]) _ _ _
                  refine own_to (fun t k => XS.goto X0.here hx rfl (pc0 := 71) (pc' := 75) rfl (hb hby d1_71) (by decide) (by decide) k) ?_
                  show own_Out p e below _ s₁ (mkF m 75 #[.val (.int u0)] [(.int (1 : Int32))]) _ _ _
                  refine own_retV X0 hx hlk (w := .int (1 : Int32)) hret rfl (Or.inl ⟨rfl, by simp, _, rfl⟩) (hb hby d1_75) (by decide) (by decide) ?_
                  rw [e0]
                  exact ⟨(by unfold R1; rw [if_pos hc4, if_pos hc16, if_neg hc28, if_pos hc34, if_neg hc40, if_pos hc46, if_neg hc55, if_pos hc61]), N0, rfl⟩
                · refine own_to (fun t k => XS.icmpNo X0.here hx rfl (hb hby d1_61) rfl (flt hc61).1 k) ?_
                  show own_Out p e below _ s₁ (mkF m 64 #[.val (.int u0)] []) _ _ _
                  refine own_to (fun t k => XS.iloadN X0.here hx rfl (hb hby d1_64) rfl k) ?_
                  show own_Out p e below _ s₁ (mkF m 65 #[.val (.int u0)] [(.int u0)]) _ _ _
                  refine own_to (fun t k => X0.ldcI hx hown (mvT hZ (hw _ (List.mem_of_getElem? (i := 70) rfl))) rfl (hb hby d1_65) k) ?_
                  show own_Out p e below _ s₁ (mkF m 67 #[.val (.int u0)] [(.int (921600 : Int32)), (.int u0)]) _ _ _
                  by_cases hc67 : u0 < (921600 : Int32)
                  · refine own_to (fun t k => XS.icmpYes X0.here hx rfl (pc0 := 67) (pc' := 74) rfl (hb hby d1_67) rfl (tlt hc67).1 (by decide) (by decide) k) ?_
                    show own_Out p e below _ s₁ (mkF m 74 #[.val (.int u0)] []) _ _ _
                    refine own_to (fun t k => XS.iconst X0.here hx rfl (hb hby d1_74) k) ?_
                    show own_Out p e below _ s₁ (mkF m 75 #[.val (.int u0)] [(.int (0 : Int32))]) _ _ _
                    refine own_retV X0 hx hlk (w := .int (0 : Int32)) hret rfl (Or.inl ⟨rfl, by simp, _, rfl⟩) (hb hby d1_75) (by decide) (by decide) ?_
                    rw [e0]
                    exact ⟨(by unfold R1; rw [if_pos hc4, if_pos hc16, if_neg hc28, if_pos hc34, if_neg hc40, if_pos hc46, if_neg hc55, if_neg hc61, if_pos hc67]), N0, rfl⟩
                  · refine own_to (fun t k => XS.icmpNo X0.here hx rfl (hb hby d1_67) rfl (flt hc67).1 k) ?_
                    show own_Out p e below _ s₁ (mkF m 70 #[.val (.int u0)] []) _ _ _
                    refine own_to (fun t k => XS.iconst X0.here hx rfl (hb hby d1_70) k) ?_
                    show own_Out p e below _ s₁ (mkF m 71 #[.val (.int u0)] [(.int (1 : Int32))]) _ _ _
                    refine own_to (fun t k => XS.goto X0.here hx rfl (pc0 := 71) (pc' := 75) rfl (hb hby d1_71) (by decide) (by decide) k) ?_
                    show own_Out p e below _ s₁ (mkF m 75 #[.val (.int u0)] [(.int (1 : Int32))]) _ _ _
                    refine own_retV X0 hx hlk (w := .int (1 : Int32)) hret rfl (Or.inl ⟨rfl, by simp, _, rfl⟩) (hb hby d1_75) (by decide) (by decide) ?_
                    rw [e0]
                    exact ⟨(by unfold R1; rw [if_pos hc4, if_pos hc16, if_neg hc28, if_pos hc34, if_neg hc40, if_pos hc46, if_neg hc55, if_neg hc61, if_neg hc67]), N0, rfl⟩
            · refine own_to (fun t k => XS.icmpYes X0.here hx rfl (pc0 := 46) (pc' := 74) rfl (hb hby d1_46) rfl (flt hc46).2.1 (by decide) (by decide) k) ?_
              show own_Out p e below _ s₁ (mkF m 74 #[.val (.int u0)] []) _ _ _
              refine own_to (fun t k => XS.iconst X0.here hx rfl (hb hby d1_74) k) ?_
              show own_Out p e below _ s₁ (mkF m 75 #[.val (.int u0)] [(.int (0 : Int32))]) _ _ _
              refine own_retV X0 hx hlk (w := .int (0 : Int32)) hret rfl (Or.inl ⟨rfl, by simp, _, rfl⟩) (hb hby d1_75) (by decide) (by decide) ?_
              rw [e0]
              exact ⟨(by unfold R1; rw [if_pos hc4, if_pos hc16, if_neg hc28, if_pos hc34, if_neg hc40, if_neg hc46]), N0, rfl⟩
        · refine own_to (fun t k => XS.icmpYes X0.here hx rfl (pc0 := 34) (pc' := 70) rfl (hb hby d1_34) rfl (flt hc34).2.2.2 (by decide) (by decide) k) ?_
          show own_Out p e below _ s₁ (mkF m 70 #[.val (.int u0)] []) _ _ _
          refine own_to (fun t k => XS.iconst X0.here hx rfl (hb hby d1_70) k) ?_
          show own_Out p e below _ s₁ (mkF m 71 #[.val (.int u0)] [(.int (1 : Int32))]) _ _ _
          refine own_to (fun t k => XS.goto X0.here hx rfl (pc0 := 71) (pc' := 75) rfl (hb hby d1_71) (by decide) (by decide) k) ?_
          show own_Out p e below _ s₁ (mkF m 75 #[.val (.int u0)] [(.int (1 : Int32))]) _ _ _
          refine own_retV X0 hx hlk (w := .int (1 : Int32)) hret rfl (Or.inl ⟨rfl, by simp, _, rfl⟩) (hb hby d1_75) (by decide) (by decide) ?_
          rw [e0]
          exact ⟨(by unfold R1; rw [if_pos hc4, if_pos hc16, if_neg hc28, if_neg hc34]), N0, rfl⟩
    · refine own_to (fun t k => XS.icmpNo X0.here hx rfl (hb hby d1_16) rfl (flt hc16).1 k) ?_
      show own_Out p e below _ s₁ (mkF m 19 #[.val (.int u0)] []) _ _ _
      refine own_to (fun t k => XS.iloadN X0.here hx rfl (hb hby d1_19) rfl k) ?_
      show own_Out p e below _ s₁ (mkF m 20 #[.val (.int u0)] [(.int u0)]) _ _ _
      refine own_to (fun t k => X0.ldcI hx hown (mvT hZ (hw _ (List.mem_of_getElem? (i := 64) rfl))) rfl (hb hby d1_20) k) ?_
      show own_Out p e below _ s₁ (mkF m 22 #[.val (.int u0)] [(.int (64975 : Int32)), (.int u0)]) _ _ _
      by_cases hc22 : (64975 : Int32) < u0
      · refine own_to (fun t k => XS.icmpNo X0.here hx rfl (hb hby d1_22) rfl (tlt hc22).2.2.2 k) ?_
        show own_Out p e below _ s₁ (mkF m 25 #[.val (.int u0)] []) _ _ _
        refine own_to (fun t k => XS.iloadN X0.here hx rfl (hb hby d1_25) rfl k) ?_
        show own_Out p e below _ s₁ (mkF m 26 #[.val (.int u0)] [(.int u0)]) _ _ _
        refine own_to (fun t k => X0.ldcI hx hown (mvT hZ (hw _ (List.mem_of_getElem? (i := 32) rfl))) rfl (hb hby d1_26) k) ?_
        show own_Out p e below _ s₁ (mkF m 28 #[.val (.int u0)] [(.int (65008 : Int32)), (.int u0)]) _ _ _
        by_cases hc28 : u0 < (65008 : Int32)
        · refine own_to (fun t k => XS.icmpYes X0.here hx rfl (pc0 := 28) (pc' := 37) rfl (hb hby d1_28) rfl (tlt hc28).1 (by decide) (by decide) k) ?_
          show own_Out p e below _ s₁ (mkF m 37 #[.val (.int u0)] []) _ _ _
          refine own_to (fun t k => XS.iloadN X0.here hx rfl (hb hby d1_37) rfl k) ?_
          show own_Out p e below _ s₁ (mkF m 38 #[.val (.int u0)] [(.int u0)]) _ _ _
          refine own_to (fun t k => X0.ldcI hx hown (mvT hZ (hw _ (List.mem_of_getElem? (i := 33) rfl))) rfl (hb hby d1_38) k) ?_
          show own_Out p e below _ s₁ (mkF m 40 #[.val (.int u0)] [(.int (65536 : Int32)), (.int u0)]) _ _ _
          by_cases hc40 : u0 < (65536 : Int32)
          · refine own_to (fun t k => XS.icmpYes X0.here hx rfl (pc0 := 40) (pc' := 74) rfl (hb hby d1_40) rfl (tlt hc40).1 (by decide) (by decide) k) ?_
            show own_Out p e below _ s₁ (mkF m 74 #[.val (.int u0)] []) _ _ _
            refine own_to (fun t k => XS.iconst X0.here hx rfl (hb hby d1_74) k) ?_
            show own_Out p e below _ s₁ (mkF m 75 #[.val (.int u0)] [(.int (0 : Int32))]) _ _ _
            refine own_retV X0 hx hlk (w := .int (0 : Int32)) hret rfl (Or.inl ⟨rfl, by simp, _, rfl⟩) (hb hby d1_75) (by decide) (by decide) ?_
            rw [e0]
            exact ⟨(by unfold R1; rw [if_pos hc4, if_neg hc16, if_pos hc22, if_pos hc28, if_pos hc40]), N0, rfl⟩
          · refine own_to (fun t k => XS.icmpNo X0.here hx rfl (hb hby d1_40) rfl (flt hc40).1 k) ?_
            show own_Out p e below _ s₁ (mkF m 43 #[.val (.int u0)] []) _ _ _
            refine own_to (fun t k => XS.iloadN X0.here hx rfl (hb hby d1_43) rfl k) ?_
            show own_Out p e below _ s₁ (mkF m 44 #[.val (.int u0)] [(.int u0)]) _ _ _
            refine own_to (fun t k => X0.ldcI hx hown (mvT hZ (hw _ (List.mem_of_getElem? (i := 66) rfl))) rfl (hb hby d1_44) k) ?_
            show own_Out p e below _ s₁ (mkF m 46 #[.val (.int u0)] [(.int (983040 : Int32)), (.int u0)]) _ _ _
            by_cases hc46 : u0 < (983040 : Int32)
            · refine own_to (fun t k => XS.icmpNo X0.here hx rfl (hb hby d1_46) rfl (tlt hc46).2.1 k) ?_
              show own_Out p e below _ s₁ (mkF m 49 #[.val (.int u0)] []) _ _ _
              refine own_to (fun t k => XS.iloadN X0.here hx rfl (hb hby d1_49) rfl k) ?_
              show own_Out p e below _ s₁ (mkF m 50 #[.val (.int u0)] [(.int u0)]) _ _ _
              refine own_to (fun t k => X0.ldcI hx hown (mvT hZ (hw _ (List.mem_of_getElem? (i := 67) rfl))) rfl (hb hby d1_50) k) ?_
              show own_Out p e below _ s₁ (mkF m 52 #[.val (.int u0)] [(.int (65535 : Int32)), (.int u0)]) _ _ _
              refine own_to (fun t k => XS.iand X0.here hx rfl (hb hby d1_52) rfl k) ?_
              show own_Out p e below _ s₁ (mkF m 53 #[.val (.int u0)] [(.int (u0 &&& (65535 : Int32)))]) _ _ _
              refine own_to (fun t k => X0.ldcI hx hown (mvT hZ (hw _ (List.mem_of_getElem? (i := 68) rfl))) rfl (hb hby d1_53) k) ?_
              show own_Out p e below _ s₁ (mkF m 55 #[.val (.int u0)] [(.int (65533 : Int32)), (.int (u0 &&& (65535 : Int32)))]) _ _ _
              by_cases hc55 : (65533 : Int32) < (u0 &&& (65535 : Int32))
              · refine own_to (fun t k => XS.icmpYes X0.here hx rfl (pc0 := 55) (pc' := 74) rfl (hb hby d1_55) rfl (tlt hc55).2.2.1 (by decide) (by decide) k) ?_
                show own_Out p e below _ s₁ (mkF m 74 #[.val (.int u0)] []) _ _ _
                refine own_to (fun t k => XS.iconst X0.here hx rfl (hb hby d1_74) k) ?_
                show own_Out p e below _ s₁ (mkF m 75 #[.val (.int u0)] [(.int (0 : Int32))]) _ _ _
                refine own_retV X0 hx hlk (w := .int (0 : Int32)) hret rfl (Or.inl ⟨rfl, by simp, _, rfl⟩) (hb hby d1_75) (by decide) (by decide) ?_
                rw [e0]
                exact ⟨(by unfold R1; rw [if_pos hc4, if_neg hc16, if_pos hc22, if_pos hc28, if_neg hc40, if_pos hc46, if_pos hc55]), N0, rfl⟩
              · refine own_to (fun t k => XS.icmpNo X0.here hx rfl (hb hby d1_55) rfl (flt hc55).2.2.1 k) ?_
                show own_Out p e below _ s₁ (mkF m 58 #[.val (.int u0)] []) _ _ _
                refine own_to (fun t k => XS.iloadN X0.here hx rfl (hb hby d1_58) rfl k) ?_
                show own_Out p e below _ s₁ (mkF m 59 #[.val (.int u0)] [(.int u0)]) _ _ _
                refine own_to (fun t k => X0.ldcI hx hown (mvT hZ (hw _ (List.mem_of_getElem? (i := 69) rfl))) rfl (hb hby d1_59) k) ?_
                show own_Out p e below _ s₁ (mkF m 61 #[.val (.int u0)] [(.int (917504 : Int32)), (.int u0)]) _ _ _
                by_cases hc61 : u0 < (917504 : Int32)
                · refine own_to (fun t k => XS.icmpYes X0.here hx rfl (pc0 := 61) (pc' := 70) rfl (hb hby d1_61) rfl (tlt hc61).1 (by decide) (by decide) k) ?_
                  show own_Out p e below _ s₁ (mkF m 70 #[.val (.int u0)] []) _ _ _
                  refine own_to (fun t k => XS.iconst X0.here hx rfl (hb hby d1_70) k) ?_
                  show own_Out p e below _ s₁ (mkF m 71 #[.val (.int u0)] [(.int (1 : Int32))]) _ _ _
                  refine own_to (fun t k => XS.goto X0.here hx rfl (pc0 := 71) (pc' := 75) rfl (hb hby d1_71) (by decide) (by decide) k) ?_
                  show own_Out p e below _ s₁ (mkF m 75 #[.val (.int u0)] [(.int (1 : Int32))]) _ _ _
                  refine own_retV X0 hx hlk (w := .int (1 : Int32)) hret rfl (Or.inl ⟨rfl, by simp, _, rfl⟩) (hb hby d1_75) (by decide) (by decide) ?_
                  rw [e0]
                  exact ⟨(by unfold R1; rw [if_pos hc4, if_neg hc16, if_pos hc22, if_pos hc28, if_neg hc40, if_pos hc46, if_neg hc55, if_pos hc61]), N0, rfl⟩
                · refine own_to (fun t k => XS.icmpNo X0.here hx rfl (hb hby d1_61) rfl (flt hc61).1 k) ?_
                  show own_Out p e below _ s₁ (mkF m 64 #[.val (.int u0)] []) _ _ _
                  refine own_to (fun t k => XS.iloadN X0.here hx rfl (hb hby d1_64) rfl k) ?_
                  show own_Out p e below _ s₁ (mkF m 65 #[.val (.int u0)] [(.int u0)]) _ _ _
                  refine own_to (fun t k => X0.ldcI hx hown (mvT hZ (hw _ (List.mem_of_getElem? (i := 70) rfl))) rfl (hb hby d1_65) k) ?_
                  show own_Out p e below _ s₁ (mkF m 67 #[.val (.int u0)] [(.int (921600 : Int32)), (.int u0)]) _ _ _
                  by_cases hc67 : u0 < (921600 : Int32)
                  · refine own_to (fun t k => XS.icmpYes X0.here hx rfl (pc0 := 67) (pc' := 74) rfl (hb hby d1_67) rfl (tlt hc67).1 (by decide) (by decide) k) ?_
                    show own_Out p e below _ s₁ (mkF m 74 #[.val (.int u0)] []) _ _ _
                    refine own_to (fun t k => XS.iconst X0.here hx rfl (hb hby d1_74) k) ?_
                    show own_Out p e below _ s₁ (mkF m 75 #[.val (.int u0)] [(.int (0 : Int32))]) _ _ _
                    refine own_retV X0 hx hlk (w := .int (0 : Int32)) hret rfl (Or.inl ⟨rfl, by simp, _, rfl⟩) (hb hby d1_75) (by decide) (by decide) ?_
                    rw [e0]
                    exact ⟨(by unfold R1; rw [if_pos hc4, if_neg hc16, if_pos hc22, if_pos hc28, if_neg hc40, if_pos hc46, if_neg hc55, if_neg hc61, if_pos hc67]), N0, rfl⟩
                  · refine own_to (fun t k => XS.icmpNo X0.here hx rfl (hb hby d1_67) rfl (flt hc67).1 k) ?_
                    show own_Out p e below _ s₁ (mkF m 70 #[.val (.int u0)] []) _ _ _
                    refine own_to (fun t k => XS.iconst X0.here hx rfl (hb hby d1_70) k) ?_
                    show own_Out p e below _ s₁ (mkF m 71 #[.val (.int u0)] [(.int (1 : Int32))]) _ _ _
                    refine own_to (fun t k => XS.goto X0.here hx rfl (pc0 := 71) (pc' := 75) rfl (hb hby d1_71) (by decide) (by decide) k) ?_
                    show own_Out p e below _ s₁ (mkF m 75 #[.val (.int u0)] [(.int (1 : Int32))]) _ _ _
                    refine own_retV X0 hx hlk (w := .int (1 : Int32)) hret rfl (Or.inl ⟨rfl, by simp, _, rfl⟩) (hb hby d1_75) (by decide) (by decide) ?_
                    rw [e0]
                    exact ⟨(by unfold R1; rw [if_pos hc4, if_neg hc16, if_pos hc22, if_pos hc28, if_neg hc40, if_pos hc46, if_neg hc55, if_neg hc61, if_neg hc67]), N0, rfl⟩
            · refine own_to (fun t k => XS.icmpYes X0.here hx rfl (pc0 := 46) (pc' := 74) rfl (hb hby d1_46) rfl (flt hc46).2.1 (by decide) (by decide) k) ?_
              show own_Out p e below _ s₁ (mkF m 74 #[.val (.int u0)] []) _ _ _
              refine own_to (fun t k => XS.iconst X0.here hx rfl (hb hby d1_74) k) ?_
              show own_Out p e below _ s₁ (mkF m 75 #[.val (.int u0)] [(.int (0 : Int32))]) _ _ _
              refine own_retV X0 hx hlk (w := .int (0 : Int32)) hret rfl (Or.inl ⟨rfl, by simp, _, rfl⟩) (hb hby d1_75) (by decide) (by decide) ?_
              rw [e0]
              exact ⟨(by unfold R1; rw [if_pos hc4, if_neg hc16, if_pos hc22, if_pos hc28, if_neg hc40, if_neg hc46]), N0, rfl⟩
        · refine own_to (fun t k => XS.icmpNo X0.here hx rfl (hb hby d1_28) rfl (flt hc28).1 k) ?_
          show own_Out p e below _ s₁ (mkF m 31 #[.val (.int u0)] []) _ _ _
          refine own_to (fun t k => XS.iloadN X0.here hx rfl (hb hby d1_31) rfl k) ?_
          show own_Out p e below _ s₁ (mkF m 32 #[.val (.int u0)] [(.int u0)]) _ _ _
          refine own_to (fun t k => X0.ldcI hx hown (mvT hZ (hw _ (List.mem_of_getElem? (i := 65) rfl))) rfl (hb hby d1_32) k) ?_
          show own_Out p e below _ s₁ (mkF m 34 #[.val (.int u0)] [(.int (65519 : Int32)), (.int u0)]) _ _ _
          by_cases hc34 : (65519 : Int32) < u0
          · refine own_to (fun t k => XS.icmpNo X0.here hx rfl (hb hby d1_34) rfl (tlt hc34).2.2.2 k) ?_
            show own_Out p e below _ s₁ (mkF m 37 #[.val (.int u0)] []) _ _ _
            refine own_to (fun t k => XS.iloadN X0.here hx rfl (hb hby d1_37) rfl k) ?_
            show own_Out p e below _ s₁ (mkF m 38 #[.val (.int u0)] [(.int u0)]) _ _ _
            refine own_to (fun t k => X0.ldcI hx hown (mvT hZ (hw _ (List.mem_of_getElem? (i := 33) rfl))) rfl (hb hby d1_38) k) ?_
            show own_Out p e below _ s₁ (mkF m 40 #[.val (.int u0)] [(.int (65536 : Int32)), (.int u0)]) _ _ _
            by_cases hc40 : u0 < (65536 : Int32)
            · refine own_to (fun t k => XS.icmpYes X0.here hx rfl (pc0 := 40) (pc' := 74) rfl (hb hby d1_40) rfl (tlt hc40).1 (by decide) (by decide) k) ?_
              show own_Out p e below _ s₁ (mkF m 74 #[.val (.int u0)] []) _ _ _
              refine own_to (fun t k => XS.iconst X0.here hx rfl (hb hby d1_74) k) ?_
              show own_Out p e below _ s₁ (mkF m 75 #[.val (.int u0)] [(.int (0 : Int32))]) _ _ _
              refine own_retV X0 hx hlk (w := .int (0 : Int32)) hret rfl (Or.inl ⟨rfl, by simp, _, rfl⟩) (hb hby d1_75) (by decide) (by decide) ?_
              rw [e0]
              exact ⟨(by unfold R1; rw [if_pos hc4, if_neg hc16, if_pos hc22, if_neg hc28, if_pos hc34, if_pos hc40]), N0, rfl⟩
            · refine own_to (fun t k => XS.icmpNo X0.here hx rfl (hb hby d1_40) rfl (flt hc40).1 k) ?_
              show own_Out p e below _ s₁ (mkF m 43 #[.val (.int u0)] []) _ _ _
              refine own_to (fun t k => XS.iloadN X0.here hx rfl (hb hby d1_43) rfl k) ?_
              show own_Out p e below _ s₁ (mkF m 44 #[.val (.int u0)] [(.int u0)]) _ _ _
              refine own_to (fun t k => X0.ldcI hx hown (mvT hZ (hw _ (List.mem_of_getElem? (i := 66) rfl))) rfl (hb hby d1_44) k) ?_
              show own_Out p e below _ s₁ (mkF m 46 #[.val (.int u0)] [(.int (983040 : Int32)), (.int u0)]) _ _ _
              by_cases hc46 : u0 < (983040 : Int32)
              · refine own_to (fun t k => XS.icmpNo X0.here hx rfl (hb hby d1_46) rfl (tlt hc46).2.1 k) ?_
                show own_Out p e below _ s₁ (mkF m 49 #[.val (.int u0)] []) _ _ _
                refine own_to (fun t k => XS.iloadN X0.here hx rfl (hb hby d1_49) rfl k) ?_
                show own_Out p e below _ s₁ (mkF m 50 #[.val (.int u0)] [(.int u0)]) _ _ _
                refine own_to (fun t k => X0.ldcI hx hown (mvT hZ (hw _ (List.mem_of_getElem? (i := 67) rfl))) rfl (hb hby d1_50) k) ?_
                show own_Out p e below _ s₁ (mkF m 52 #[.val (.int u0)] [(.int (65535 : Int32)), (.int u0)]) _ _ _
                refine own_to (fun t k => XS.iand X0.here hx rfl (hb hby d1_52) rfl k) ?_
                show own_Out p e below _ s₁ (mkF m 53 #[.val (.int u0)] [(.int (u0 &&& (65535 : Int32)))]) _ _ _
                refine own_to (fun t k => X0.ldcI hx hown (mvT hZ (hw _ (List.mem_of_getElem? (i := 68) rfl))) rfl (hb hby d1_53) k) ?_
                show own_Out p e below _ s₁ (mkF m 55 #[.val (.int u0)] [(.int (65533 : Int32)), (.int (u0 &&& (65535 : Int32)))]) _ _ _
                by_cases hc55 : (65533 : Int32) < (u0 &&& (65535 : Int32))
                · refine own_to (fun t k => XS.icmpYes X0.here hx rfl (pc0 := 55) (pc' := 74) rfl (hb hby d1_55) rfl (tlt hc55).2.2.1 (by decide) (by decide) k) ?_
                  show own_Out p e below _ s₁ (mkF m 74 #[.val (.int u0)] []) _ _ _
                  refine own_to (fun t k => XS.iconst X0.here hx rfl (hb hby d1_74) k) ?_
                  show own_Out p e below _ s₁ (mkF m 75 #[.val (.int u0)] [(.int (0 : Int32))]) _ _ _
                  refine own_retV X0 hx hlk (w := .int (0 : Int32)) hret rfl (Or.inl ⟨rfl, by simp, _, rfl⟩) (hb hby d1_75) (by decide) (by decide) ?_
                  rw [e0]
                  exact ⟨(by unfold R1; rw [if_pos hc4, if_neg hc16, if_pos hc22, if_neg hc28, if_pos hc34, if_neg hc40, if_pos hc46, if_pos hc55]), N0, rfl⟩
                · refine own_to (fun t k => XS.icmpNo X0.here hx rfl (hb hby d1_55) rfl (flt hc55).2.2.1 k) ?_
                  show own_Out p e below _ s₁ (mkF m 58 #[.val (.int u0)] []) _ _ _
                  refine own_to (fun t k => XS.iloadN X0.here hx rfl (hb hby d1_58) rfl k) ?_
                  show own_Out p e below _ s₁ (mkF m 59 #[.val (.int u0)] [(.int u0)]) _ _ _
                  refine own_to (fun t k => X0.ldcI hx hown (mvT hZ (hw _ (List.mem_of_getElem? (i := 69) rfl))) rfl (hb hby d1_59) k) ?_
                  show own_Out p e below _ s₁ (mkF m 61 #[.val (.int u0)] [(.int (917504 : Int32)), (.int u0)]) _ _ _
                  by_cases hc61 : u0 < (917504 : Int32)
                  · refine own_to (fun t k => XS.icmpYes X0.here hx rfl (pc0 := 61) (pc' := 70) rfl (hb hby d1_61) rfl (tlt hc61).1 (by decide) (by decide) k) ?_
                    show own_Out p e below _ s₁ (mkF m 70 #[.val (.int u0)] []) _ _ _
                    refine own_to (fun t k => XS.iconst X0.here hx rfl (hb hby d1_70) k) ?_
                    show own_Out p e below _ s₁ (mkF m 71 #[.val (.int u0)] [(.int (1 : Int32))]) _ _ _
                    refine own_to (fun t k => XS.goto X0.here hx rfl (pc0 := 71) (pc' := 75) rfl (hb hby d1_71) (by decide) (by decide) k) ?_
                    show own_Out p e below _ s₁ (mkF m 75 #[.val (.int u0)] [(.int (1 : Int32))]) _ _ _
                    refine own_retV X0 hx hlk (w := .int (1 : Int32)) hret rfl (Or.inl ⟨rfl, by simp, _, rfl⟩) (hb hby d1_75) (by decide) (by decide) ?_
                    rw [e0]
                    exact ⟨(by unfold R1; rw [if_pos hc4, if_neg hc16, if_pos hc22, if_neg hc28, if_pos hc34, if_neg hc40, if_pos hc46, if_neg hc55, if_pos hc61]), N0, rfl⟩
                  · refine own_to (fun t k => XS.icmpNo X0.here hx rfl (hb hby d1_61) rfl (flt hc61).1 k) ?_
                    show own_Out p e below _ s₁ (mkF m 64 #[.val (.int u0)] []) _ _ _
                    refine own_to (fun t k => XS.iloadN X0.here hx rfl (hb hby d1_64) rfl k) ?_
                    show own_Out p e below _ s₁ (mkF m 65 #[.val (.int u0)] [(.int u0)]) _ _ _
                    refine own_to (fun t k => X0.ldcI hx hown (mvT hZ (hw _ (List.mem_of_getElem? (i := 70) rfl))) rfl (hb hby d1_65) k) ?_
                    show own_Out p e below _ s₁ (mkF m 67 #[.val (.int u0)] [(.int (921600 : Int32)), (.int u0)]) _ _ _
                    by_cases hc67 : u0 < (921600 : Int32)
                    · refine own_to (fun t k => XS.icmpYes X0.here hx rfl (pc0 := 67) (pc' := 74) rfl (hb hby d1_67) rfl (tlt hc67).1 (by decide) (by decide) k) ?_
                      show own_Out p e below _ s₁ (mkF m 74 #[.val (.int u0)] []) _ _ _
                      refine own_to (fun t k => XS.iconst X0.here hx rfl (hb hby d1_74) k) ?_
                      show own_Out p e below _ s₁ (mkF m 75 #[.val (.int u0)] [(.int (0 : Int32))]) _ _ _
                      refine own_retV X0 hx hlk (w := .int (0 : Int32)) hret rfl (Or.inl ⟨rfl, by simp, _, rfl⟩) (hb hby d1_75) (by decide) (by decide) ?_
                      rw [e0]
                      exact ⟨(by unfold R1; rw [if_pos hc4, if_neg hc16, if_pos hc22, if_neg hc28, if_pos hc34, if_neg hc40, if_pos hc46, if_neg hc55, if_neg hc61, if_pos hc67]), N0, rfl⟩
                    · refine own_to (fun t k => XS.icmpNo X0.here hx rfl (hb hby d1_67) rfl (flt hc67).1 k) ?_
                      show own_Out p e below _ s₁ (mkF m 70 #[.val (.int u0)] []) _ _ _
                      refine own_to (fun t k => XS.iconst X0.here hx rfl (hb hby d1_70) k) ?_
                      show own_Out p e below _ s₁ (mkF m 71 #[.val (.int u0)] [(.int (1 : Int32))]) _ _ _
                      refine own_to (fun t k => XS.goto X0.here hx rfl (pc0 := 71) (pc' := 75) rfl (hb hby d1_71) (by decide) (by decide) k) ?_
                      show own_Out p e below _ s₁ (mkF m 75 #[.val (.int u0)] [(.int (1 : Int32))]) _ _ _
                      refine own_retV X0 hx hlk (w := .int (1 : Int32)) hret rfl (Or.inl ⟨rfl, by simp, _, rfl⟩) (hb hby d1_75) (by decide) (by decide) ?_
                      rw [e0]
                      exact ⟨(by unfold R1; rw [if_pos hc4, if_neg hc16, if_pos hc22, if_neg hc28, if_pos hc34, if_neg hc40, if_pos hc46, if_neg hc55, if_neg hc61, if_neg hc67]), N0, rfl⟩
              · refine own_to (fun t k => XS.icmpYes X0.here hx rfl (pc0 := 46) (pc' := 74) rfl (hb hby d1_46) rfl (flt hc46).2.1 (by decide) (by decide) k) ?_
                show own_Out p e below _ s₁ (mkF m 74 #[.val (.int u0)] []) _ _ _
                refine own_to (fun t k => XS.iconst X0.here hx rfl (hb hby d1_74) k) ?_
                show own_Out p e below _ s₁ (mkF m 75 #[.val (.int u0)] [(.int (0 : Int32))]) _ _ _
                refine own_retV X0 hx hlk (w := .int (0 : Int32)) hret rfl (Or.inl ⟨rfl, by simp, _, rfl⟩) (hb hby d1_75) (by decide) (by decide) ?_
                rw [e0]
                exact ⟨(by unfold R1; rw [if_pos hc4, if_neg hc16, if_pos hc22, if_neg hc28, if_pos hc34, if_neg hc40, if_neg hc46]), N0, rfl⟩
          · refine own_to (fun t k => XS.icmpYes X0.here hx rfl (pc0 := 34) (pc' := 70) rfl (hb hby d1_34) rfl (flt hc34).2.2.2 (by decide) (by decide) k) ?_
            show own_Out p e below _ s₁ (mkF m 70 #[.val (.int u0)] []) _ _ _
            refine own_to (fun t k => XS.iconst X0.here hx rfl (hb hby d1_70) k) ?_
            show own_Out p e below _ s₁ (mkF m 71 #[.val (.int u0)] [(.int (1 : Int32))]) _ _ _
            refine own_to (fun t k => XS.goto X0.here hx rfl (pc0 := 71) (pc' := 75) rfl (hb hby d1_71) (by decide) (by decide) k) ?_
            show own_Out p e below _ s₁ (mkF m 75 #[.val (.int u0)] [(.int (1 : Int32))]) _ _ _
            refine own_retV X0 hx hlk (w := .int (1 : Int32)) hret rfl (Or.inl ⟨rfl, by simp, _, rfl⟩) (hb hby d1_75) (by decide) (by decide) ?_
            rw [e0]
            exact ⟨(by unfold R1; rw [if_pos hc4, if_neg hc16, if_pos hc22, if_neg hc28, if_neg hc34]), N0, rfl⟩
      · refine own_to (fun t k => XS.icmpYes X0.here hx rfl (pc0 := 22) (pc' := 70) rfl (hb hby d1_22) rfl (flt hc22).2.2.2 (by decide) (by decide) k) ?_
        show own_Out p e below _ s₁ (mkF m 70 #[.val (.int u0)] []) _ _ _
        refine own_to (fun t k => XS.iconst X0.here hx rfl (hb hby d1_70) k) ?_
        show own_Out p e below _ s₁ (mkF m 71 #[.val (.int u0)] [(.int (1 : Int32))]) _ _ _
        refine own_to (fun t k => XS.goto X0.here hx rfl (pc0 := 71) (pc' := 75) rfl (hb hby d1_71) (by decide) (by decide) k) ?_
        show own_Out p e below _ s₁ (mkF m 75 #[.val (.int u0)] [(.int (1 : Int32))]) _ _ _
        refine own_retV X0 hx hlk (w := .int (1 : Int32)) hret rfl (Or.inl ⟨rfl, by simp, _, rfl⟩) (hb hby d1_75) (by decide) (by decide) ?_
        rw [e0]
        exact ⟨(by unfold R1; rw [if_pos hc4, if_neg hc16, if_neg hc22]), N0, rfl⟩
  · refine own_to (fun t k => XS.icmpNo X0.here hx rfl (hb hby d1_4) rfl (flt hc4).1 k) ?_
    show own_Out p e below _ s₁ (mkF m 7 #[.val (.int u0)] []) _ _ _
    refine own_to (fun t k => XS.iloadN X0.here hx rfl (hb hby d1_7) rfl k) ?_
    show own_Out p e below _ s₁ (mkF m 8 #[.val (.int u0)] [(.int u0)]) _ _ _
    refine own_to (fun t k => X0.ldcI hx hown (mvT hZ (hw _ (List.mem_of_getElem? (i := 63) rfl))) rfl (hb hby d1_8) k) ?_
    show own_Out p e below _ s₁ (mkF m 10 #[.val (.int u0)] [(.int (55295 : Int32)), (.int u0)]) _ _ _
    by_cases hc10 : (55295 : Int32) < u0
    · refine own_to (fun t k => XS.icmpNo X0.here hx rfl (hb hby d1_10) rfl (tlt hc10).2.2.2 k) ?_
      show own_Out p e below _ s₁ (mkF m 13 #[.val (.int u0)] []) _ _ _
      refine own_to (fun t k => XS.iloadN X0.here hx rfl (hb hby d1_13) rfl k) ?_
      show own_Out p e below _ s₁ (mkF m 14 #[.val (.int u0)] [(.int u0)]) _ _ _
      refine own_to (fun t k => X0.ldcI hx hown (mvT hZ (hw _ (List.mem_of_getElem? (i := 31) rfl))) rfl (hb hby d1_14) k) ?_
      show own_Out p e below _ s₁ (mkF m 16 #[.val (.int u0)] [(.int (63744 : Int32)), (.int u0)]) _ _ _
      by_cases hc16 : u0 < (63744 : Int32)
      · refine own_to (fun t k => XS.icmpYes X0.here hx rfl (pc0 := 16) (pc' := 25) rfl (hb hby d1_16) rfl (tlt hc16).1 (by decide) (by decide) k) ?_
        show own_Out p e below _ s₁ (mkF m 25 #[.val (.int u0)] []) _ _ _
        refine own_to (fun t k => XS.iloadN X0.here hx rfl (hb hby d1_25) rfl k) ?_
        show own_Out p e below _ s₁ (mkF m 26 #[.val (.int u0)] [(.int u0)]) _ _ _
        refine own_to (fun t k => X0.ldcI hx hown (mvT hZ (hw _ (List.mem_of_getElem? (i := 32) rfl))) rfl (hb hby d1_26) k) ?_
        show own_Out p e below _ s₁ (mkF m 28 #[.val (.int u0)] [(.int (65008 : Int32)), (.int u0)]) _ _ _
        by_cases hc28 : u0 < (65008 : Int32)
        · refine own_to (fun t k => XS.icmpYes X0.here hx rfl (pc0 := 28) (pc' := 37) rfl (hb hby d1_28) rfl (tlt hc28).1 (by decide) (by decide) k) ?_
          show own_Out p e below _ s₁ (mkF m 37 #[.val (.int u0)] []) _ _ _
          refine own_to (fun t k => XS.iloadN X0.here hx rfl (hb hby d1_37) rfl k) ?_
          show own_Out p e below _ s₁ (mkF m 38 #[.val (.int u0)] [(.int u0)]) _ _ _
          refine own_to (fun t k => X0.ldcI hx hown (mvT hZ (hw _ (List.mem_of_getElem? (i := 33) rfl))) rfl (hb hby d1_38) k) ?_
          show own_Out p e below _ s₁ (mkF m 40 #[.val (.int u0)] [(.int (65536 : Int32)), (.int u0)]) _ _ _
          by_cases hc40 : u0 < (65536 : Int32)
          · refine own_to (fun t k => XS.icmpYes X0.here hx rfl (pc0 := 40) (pc' := 74) rfl (hb hby d1_40) rfl (tlt hc40).1 (by decide) (by decide) k) ?_
            show own_Out p e below _ s₁ (mkF m 74 #[.val (.int u0)] []) _ _ _
            refine own_to (fun t k => XS.iconst X0.here hx rfl (hb hby d1_74) k) ?_
            show own_Out p e below _ s₁ (mkF m 75 #[.val (.int u0)] [(.int (0 : Int32))]) _ _ _
            refine own_retV X0 hx hlk (w := .int (0 : Int32)) hret rfl (Or.inl ⟨rfl, by simp, _, rfl⟩) (hb hby d1_75) (by decide) (by decide) ?_
            rw [e0]
            exact ⟨(by unfold R1; rw [if_neg hc4, if_pos hc10, if_pos hc16, if_pos hc28, if_pos hc40]), N0, rfl⟩
          · refine own_to (fun t k => XS.icmpNo X0.here hx rfl (hb hby d1_40) rfl (flt hc40).1 k) ?_
            show own_Out p e below _ s₁ (mkF m 43 #[.val (.int u0)] []) _ _ _
            refine own_to (fun t k => XS.iloadN X0.here hx rfl (hb hby d1_43) rfl k) ?_
            show own_Out p e below _ s₁ (mkF m 44 #[.val (.int u0)] [(.int u0)]) _ _ _
            refine own_to (fun t k => X0.ldcI hx hown (mvT hZ (hw _ (List.mem_of_getElem? (i := 66) rfl))) rfl (hb hby d1_44) k) ?_
            show own_Out p e below _ s₁ (mkF m 46 #[.val (.int u0)] [(.int (983040 : Int32)), (.int u0)]) _ _ _
            by_cases hc46 : u0 < (983040 : Int32)
            · refine own_to (fun t k => XS.icmpNo X0.here hx rfl (hb hby d1_46) rfl (tlt hc46).2.1 k) ?_
              show own_Out p e below _ s₁ (mkF m 49 #[.val (.int u0)] []) _ _ _
              refine own_to (fun t k => XS.iloadN X0.here hx rfl (hb hby d1_49) rfl k) ?_
              show own_Out p e below _ s₁ (mkF m 50 #[.val (.int u0)] [(.int u0)]) _ _ _
              refine own_to (fun t k => X0.ldcI hx hown (mvT hZ (hw _ (List.mem_of_getElem? (i := 67) rfl))) rfl (hb hby d1_50) k) ?_
              show own_Out p e below _ s₁ (mkF m 52 #[.val (.int u0)] [(.int (65535 : Int32)), (.int u0)]) _ _ _
              refine own_to (fun t k => XS.iand X0.here hx rfl (hb hby d1_52) rfl k) ?_
              show own_Out p e below _ s₁ (mkF m 53 #[.val (.int u0)] [(.int (u0 &&& (65535 : Int32)))]) _ _ _
              refine own_to (fun t k => X0.ldcI hx hown (mvT hZ (hw _ (List.mem_of_getElem? (i := 68) rfl))) rfl (hb hby d1_53) k) ?_
              show own_Out p e below _ s₁ (mkF m 55 #[.val (.int u0)] [(.int (65533 : Int32)), (.int (u0 &&& (65535 : Int32)))]) _ _ _
              by_cases hc55 : (65533 : Int32) < (u0 &&& (65535 : Int32))
              · refine own_to (fun t k => XS.icmpYes X0.here hx rfl (pc0 := 55) (pc' := 74) rfl (hb hby d1_55) rfl (tlt hc55).2.2.1 (by decide) (by decide) k) ?_
                show own_Out p e below _ s₁ (mkF m 74 #[.val (.int u0)] []) _ _ _
                refine own_to (fun t k => XS.iconst X0.here hx rfl (hb hby d1_74) k) ?_
                show own_Out p e below _ s₁ (mkF m 75 #[.val (.int u0)] [(.int (0 : Int32))]) _ _ _
                refine own_retV X0 hx hlk (w := .int (0 : Int32)) hret rfl (Or.inl ⟨rfl, by simp, _, rfl⟩) (hb hby d1_75) (by decide) (by decide) ?_
                rw [e0]
                exact ⟨(by unfold R1; rw [if_neg hc4, if_pos hc10, if_pos hc16, if_pos hc28, if_neg hc40, if_pos hc46, if_pos hc55]), N0, rfl⟩
              · refine own_to (fun t k => XS.icmpNo X0.here hx rfl (hb hby d1_55) rfl (flt hc55).2.2.1 k) ?_
                show own_Out p e below _ s₁ (mkF m 58 #[.val (.int u0)] []) _ _ _
                refine own_to (fun t k => XS.iloadN X0.here hx rfl (hb hby d1_58) rfl k) ?_
                show own_Out p e below _ s₁ (mkF m 59 #[.val (.int u0)] [(.int u0)]) _ _ _
                refine own_to (fun t k => X0.ldcI hx hown (mvT hZ (hw _ (List.mem_of_getElem? (i := 69) rfl))) rfl (hb hby d1_59) k) ?_
                show own_Out p e below _ s₁ (mkF m 61 #[.val (.int u0)] [(.int (917504 : Int32)), (.int u0)]) _ _ _
                by_cases hc61 : u0 < (917504 : Int32)
                · refine own_to (fun t k => XS.icmpYes X0.here hx rfl (pc0 := 61) (pc' := 70) rfl (hb hby d1_61) rfl (tlt hc61).1 (by decide) (by decide) k) ?_
                  show own_Out p e below _ s₁ (mkF m 70 #[.val (.int u0)] []) _ _ _
                  refine own_to (fun t k => XS.iconst X0.here hx rfl (hb hby d1_70) k) ?_
                  show own_Out p e below _ s₁ (mkF m 71 #[.val (.int u0)] [(.int (1 : Int32))]) _ _ _
                  refine own_to (fun t k => XS.goto X0.here hx rfl (pc0 := 71) (pc' := 75) rfl (hb hby d1_71) (by decide) (by decide) k) ?_
                  show own_Out p e below _ s₁ (mkF m 75 #[.val (.int u0)] [(.int (1 : Int32))]) _ _ _
                  refine own_retV X0 hx hlk (w := .int (1 : Int32)) hret rfl (Or.inl ⟨rfl, by simp, _, rfl⟩) (hb hby d1_75) (by decide) (by decide) ?_
                  rw [e0]
                  exact ⟨(by unfold R1; rw [if_neg hc4, if_pos hc10, if_pos hc16, if_pos hc28, if_neg hc40, if_pos hc46, if_neg hc55, if_pos hc61]), N0, rfl⟩
                · refine own_to (fun t k => XS.icmpNo X0.here hx rfl (hb hby d1_61) rfl (flt hc61).1 k) ?_
                  show own_Out p e below _ s₁ (mkF m 64 #[.val (.int u0)] []) _ _ _
                  refine own_to (fun t k => XS.iloadN X0.here hx rfl (hb hby d1_64) rfl k) ?_
                  show own_Out p e below _ s₁ (mkF m 65 #[.val (.int u0)] [(.int u0)]) _ _ _
                  refine own_to (fun t k => X0.ldcI hx hown (mvT hZ (hw _ (List.mem_of_getElem? (i := 70) rfl))) rfl (hb hby d1_65) k) ?_
                  show own_Out p e below _ s₁ (mkF m 67 #[.val (.int u0)] [(.int (921600 : Int32)), (.int u0)]) _ _ _
                  by_cases hc67 : u0 < (921600 : Int32)
                  · refine own_to (fun t k => XS.icmpYes X0.here hx rfl (pc0 := 67) (pc' := 74) rfl (hb hby d1_67) rfl (tlt hc67).1 (by decide) (by decide) k) ?_
                    show own_Out p e below _ s₁ (mkF m 74 #[.val (.int u0)] []) _ _ _
                    refine own_to (fun t k => XS.iconst X0.here hx rfl (hb hby d1_74) k) ?_
                    show own_Out p e below _ s₁ (mkF m 75 #[.val (.int u0)] [(.int (0 : Int32))]) _ _ _
                    refine own_retV X0 hx hlk (w := .int (0 : Int32)) hret rfl (Or.inl ⟨rfl, by simp, _, rfl⟩) (hb hby d1_75) (by decide) (by decide) ?_
                    rw [e0]
                    exact ⟨(by unfold R1; rw [if_neg hc4, if_pos hc10, if_pos hc16, if_pos hc28, if_neg hc40, if_pos hc46, if_neg hc55, if_neg hc61, if_pos hc67]), N0, rfl⟩
                  · refine own_to (fun t k => XS.icmpNo X0.here hx rfl (hb hby d1_67) rfl (flt hc67).1 k) ?_
                    show own_Out p e below _ s₁ (mkF m 70 #[.val (.int u0)] []) _ _ _
                    refine own_to (fun t k => XS.iconst X0.here hx rfl (hb hby d1_70) k) ?_
                    show own_Out p e below _ s₁ (mkF m 71 #[.val (.int u0)] [(.int (1 : Int32))]) _ _ _
                    refine own_to (fun t k => XS.goto X0.here hx rfl (pc0 := 71) (pc' := 75) rfl (hb hby d1_71) (by decide) (by decide) k) ?_
                    show own_Out p e below _ s₁ (mkF m 75 #[.val (.int u0)] [(.int (1 : Int32))]) _ _ _
                    refine own_retV X0 hx hlk (w := .int (1 : Int32)) hret rfl (Or.inl ⟨rfl, by simp, _, rfl⟩) (hb hby d1_75) (by decide) (by decide) ?_
                    rw [e0]
                    exact ⟨(by unfold R1; rw [if_neg hc4, if_pos hc10, if_pos hc16, if_pos hc28, if_neg hc40, if_pos hc46, if_neg hc55, if_neg hc61, if_neg hc67]), N0, rfl⟩
            · refine own_to (fun t k => XS.icmpYes X0.here hx rfl (pc0 := 46) (pc' := 74) rfl (hb hby d1_46) rfl (flt hc46).2.1 (by decide) (by decide) k) ?_
              show own_Out p e below _ s₁ (mkF m 74 #[.val (.int u0)] []) _ _ _
              refine own_to (fun t k => XS.iconst X0.here hx rfl (hb hby d1_74) k) ?_
              show own_Out p e below _ s₁ (mkF m 75 #[.val (.int u0)] [(.int (0 : Int32))]) _ _ _
              refine own_retV X0 hx hlk (w := .int (0 : Int32)) hret rfl (Or.inl ⟨rfl, by simp, _, rfl⟩) (hb hby d1_75) (by decide) (by decide) ?_
              rw [e0]
              exact ⟨(by unfold R1; rw [if_neg hc4, if_pos hc10, if_pos hc16, if_pos hc28, if_neg hc40, if_neg hc46]), N0, rfl⟩
        · refine own_to (fun t k => XS.icmpNo X0.here hx rfl (hb hby d1_28) rfl (flt hc28).1 k) ?_
          show own_Out p e below _ s₁ (mkF m 31 #[.val (.int u0)] []) _ _ _
          refine own_to (fun t k => XS.iloadN X0.here hx rfl (hb hby d1_31) rfl k) ?_
          show own_Out p e below _ s₁ (mkF m 32 #[.val (.int u0)] [(.int u0)]) _ _ _
          refine own_to (fun t k => X0.ldcI hx hown (mvT hZ (hw _ (List.mem_of_getElem? (i := 65) rfl))) rfl (hb hby d1_32) k) ?_
          show own_Out p e below _ s₁ (mkF m 34 #[.val (.int u0)] [(.int (65519 : Int32)), (.int u0)]) _ _ _
          by_cases hc34 : (65519 : Int32) < u0
          · refine own_to (fun t k => XS.icmpNo X0.here hx rfl (hb hby d1_34) rfl (tlt hc34).2.2.2 k) ?_
            show own_Out p e below _ s₁ (mkF m 37 #[.val (.int u0)] []) _ _ _
            refine own_to (fun t k => XS.iloadN X0.here hx rfl (hb hby d1_37) rfl k) ?_
            show own_Out p e below _ s₁ (mkF m 38 #[.val (.int u0)] [(.int u0)]) _ _ _
            refine own_to (fun t k => X0.ldcI hx hown (mvT hZ (hw _ (List.mem_of_getElem? (i := 33) rfl))) rfl (hb hby d1_38) k) ?_
            show own_Out p e below _ s₁ (mkF m 40 #[.val (.int u0)] [(.int (65536 : Int32)), (.int u0)]) _ _ _
            by_cases hc40 : u0 < (65536 : Int32)
            · refine own_to (fun t k => XS.icmpYes X0.here hx rfl (pc0 := 40) (pc' := 74) rfl (hb hby d1_40) rfl (tlt hc40).1 (by decide) (by decide) k) ?_
              show own_Out p e below _ s₁ (mkF m 74 #[.val (.int u0)] []) _ _ _
              refine own_to (fun t k => XS.iconst X0.here hx rfl (hb hby d1_74) k) ?_
              show own_Out p e below _ s₁ (mkF m 75 #[.val (.int u0)] [(.int (0 : Int32))]) _ _ _
              refine own_retV X0 hx hlk (w := .int (0 : Int32)) hret rfl (Or.inl ⟨rfl, by simp, _, rfl⟩) (hb hby d1_75) (by decide) (by decide) ?_
              rw [e0]
              exact ⟨(by unfold R1; rw [if_neg hc4, if_pos hc10, if_pos hc16, if_neg hc28, if_pos hc34, if_pos hc40]), N0, rfl⟩
            · refine own_to (fun t k => XS.icmpNo X0.here hx rfl (hb hby d1_40) rfl (flt hc40).1 k) ?_
              show own_Out p e below _ s₁ (mkF m 43 #[.val (.int u0)] []) _ _ _
              refine own_to (fun t k => XS.iloadN X0.here hx rfl (hb hby d1_43) rfl k) ?_
              show own_Out p e below _ s₁ (mkF m 44 #[.val (.int u0)] [(.int u0)]) _ _ _
              refine own_to (fun t k => X0.ldcI hx hown (mvT hZ (hw _ (List.mem_of_getElem? (i := 66) rfl))) rfl (hb hby d1_44) k) ?_
              show own_Out p e below _ s₁ (mkF m 46 #[.val (.int u0)] [(.int (983040 : Int32)), (.int u0)]) _ _ _
              by_cases hc46 : u0 < (983040 : Int32)
              · refine own_to (fun t k => XS.icmpNo X0.here hx rfl (hb hby d1_46) rfl (tlt hc46).2.1 k) ?_
                show own_Out p e below _ s₁ (mkF m 49 #[.val (.int u0)] []) _ _ _
                refine own_to (fun t k => XS.iloadN X0.here hx rfl (hb hby d1_49) rfl k) ?_
                show own_Out p e below _ s₁ (mkF m 50 #[.val (.int u0)] [(.int u0)]) _ _ _
                refine own_to (fun t k => X0.ldcI hx hown (mvT hZ (hw _ (List.mem_of_getElem? (i := 67) rfl))) rfl (hb hby d1_50) k) ?_
                show own_Out p e below _ s₁ (mkF m 52 #[.val (.int u0)] [(.int (65535 : Int32)), (.int u0)]) _ _ _
                refine own_to (fun t k => XS.iand X0.here hx rfl (hb hby d1_52) rfl k) ?_
                show own_Out p e below _ s₁ (mkF m 53 #[.val (.int u0)] [(.int (u0 &&& (65535 : Int32)))]) _ _ _
                refine own_to (fun t k => X0.ldcI hx hown (mvT hZ (hw _ (List.mem_of_getElem? (i := 68) rfl))) rfl (hb hby d1_53) k) ?_
                show own_Out p e below _ s₁ (mkF m 55 #[.val (.int u0)] [(.int (65533 : Int32)), (.int (u0 &&& (65535 : Int32)))]) _ _ _
                by_cases hc55 : (65533 : Int32) < (u0 &&& (65535 : Int32))
                · refine own_to (fun t k => XS.icmpYes X0.here hx rfl (pc0 := 55) (pc' := 74) rfl (hb hby d1_55) rfl (tlt hc55).2.2.1 (by decide) (by decide) k) ?_
                  show own_Out p e below _ s₁ (mkF m 74 #[.val (.int u0)] []) _ _ _
                  refine own_to (fun t k => XS.iconst X0.here hx rfl (hb hby d1_74) k) ?_
                  show own_Out p e below _ s₁ (mkF m 75 #[.val (.int u0)] [(.int (0 : Int32))]) _ _ _
                  refine own_retV X0 hx hlk (w := .int (0 : Int32)) hret rfl (Or.inl ⟨rfl, by simp, _, rfl⟩) (hb hby d1_75) (by decide) (by decide) ?_
                  rw [e0]
                  exact ⟨(by unfold R1; rw [if_neg hc4, if_pos hc10, if_pos hc16, if_neg hc28, if_pos hc34, if_neg hc40, if_pos hc46, if_pos hc55]), N0, rfl⟩
                · refine own_to (fun t k => XS.icmpNo X0.here hx rfl (hb hby d1_55) rfl (flt hc55).2.2.1 k) ?_
                  show own_Out p e below _ s₁ (mkF m 58 #[.val (.int u0)] []) _ _ _
                  refine own_to (fun t k => XS.iloadN X0.here hx rfl (hb hby d1_58) rfl k) ?_
                  show own_Out p e below _ s₁ (mkF m 59 #[.val (.int u0)] [(.int u0)]) _ _ _
                  refine own_to (fun t k => X0.ldcI hx hown (mvT hZ (hw _ (List.mem_of_getElem? (i := 69) rfl))) rfl (hb hby d1_59) k) ?_
                  show own_Out p e below _ s₁ (mkF m 61 #[.val (.int u0)] [(.int (917504 : Int32)), (.int u0)]) _ _ _
                  by_cases hc61 : u0 < (917504 : Int32)
                  · refine own_to (fun t k => XS.icmpYes X0.here hx rfl (pc0 := 61) (pc' := 70) rfl (hb hby d1_61) rfl (tlt hc61).1 (by decide) (by decide) k) ?_
                    show own_Out p e below _ s₁ (mkF m 70 #[.val (.int u0)] []) _ _ _
                    refine own_to (fun t k => XS.iconst X0.here hx rfl (hb hby d1_70) k) ?_
                    show own_Out p e below _ s₁ (mkF m 71 #[.val (.int u0)] [(.int (1 : Int32))]) _ _ _
                    refine own_to (fun t k => XS.goto X0.here hx rfl (pc0 := 71) (pc' := 75) rfl (hb hby d1_71) (by decide) (by decide) k) ?_
                    show own_Out p e below _ s₁ (mkF m 75 #[.val (.int u0)] [(.int (1 : Int32))]) _ _ _
                    refine own_retV X0 hx hlk (w := .int (1 : Int32)) hret rfl (Or.inl ⟨rfl, by simp, _, rfl⟩) (hb hby d1_75) (by decide) (by decide) ?_
                    rw [e0]
                    exact ⟨(by unfold R1; rw [if_neg hc4, if_pos hc10, if_pos hc16, if_neg hc28, if_pos hc34, if_neg hc40, if_pos hc46, if_neg hc55, if_pos hc61]), N0, rfl⟩
                  · refine own_to (fun t k => XS.icmpNo X0.here hx rfl (hb hby d1_61) rfl (flt hc61).1 k) ?_
                    show own_Out p e below _ s₁ (mkF m 64 #[.val (.int u0)] []) _ _ _
                    refine own_to (fun t k => XS.iloadN X0.here hx rfl (hb hby d1_64) rfl k) ?_
                    show own_Out p e below _ s₁ (mkF m 65 #[.val (.int u0)] [(.int u0)]) _ _ _
                    refine own_to (fun t k => X0.ldcI hx hown (mvT hZ (hw _ (List.mem_of_getElem? (i := 70) rfl))) rfl (hb hby d1_65) k) ?_
                    show own_Out p e below _ s₁ (mkF m 67 #[.val (.int u0)] [(.int (921600 : Int32)), (.int u0)]) _ _ _
                    by_cases hc67 : u0 < (921600 : Int32)
                    · refine own_to (fun t k => XS.icmpYes X0.here hx rfl (pc0 := 67) (pc' := 74) rfl (hb hby d1_67) rfl (tlt hc67).1 (by decide) (by decide) k) ?_
                      show own_Out p e below _ s₁ (mkF m 74 #[.val (.int u0)] []) _ _ _
                      refine own_to (fun t k => XS.iconst X0.here hx rfl (hb hby d1_74) k) ?_
                      show own_Out p e below _ s₁ (mkF m 75 #[.val (.int u0)] [(.int (0 : Int32))]) _ _ _
                      refine own_retV X0 hx hlk (w := .int (0 : Int32)) hret rfl (Or.inl ⟨rfl, by simp, _, rfl⟩) (hb hby d1_75) (by decide) (by decide) ?_
                      rw [e0]
                      exact ⟨(by unfold R1; rw [if_neg hc4, if_pos hc10, if_pos hc16, if_neg hc28, if_pos hc34, if_neg hc40, if_pos hc46, if_neg hc55, if_neg hc61, if_pos hc67]), N0, rfl⟩
                    · refine own_to (fun t k => XS.icmpNo X0.here hx rfl (hb hby d1_67) rfl (flt hc67).1 k) ?_
                      show own_Out p e below _ s₁ (mkF m 70 #[.val (.int u0)] []) _ _ _
                      refine own_to (fun t k => XS.iconst X0.here hx rfl (hb hby d1_70) k) ?_
                      show own_Out p e below _ s₁ (mkF m 71 #[.val (.int u0)] [(.int (1 : Int32))]) _ _ _
                      refine own_to (fun t k => XS.goto X0.here hx rfl (pc0 := 71) (pc' := 75) rfl (hb hby d1_71) (by decide) (by decide) k) ?_
                      show own_Out p e below _ s₁ (mkF m 75 #[.val (.int u0)] [(.int (1 : Int32))]) _ _ _
                      refine own_retV X0 hx hlk (w := .int (1 : Int32)) hret rfl (Or.inl ⟨rfl, by simp, _, rfl⟩) (hb hby d1_75) (by decide) (by decide) ?_
                      rw [e0]
                      exact ⟨(by unfold R1; rw [if_neg hc4, if_pos hc10, if_pos hc16, if_neg hc28, if_pos hc34, if_neg hc40, if_pos hc46, if_neg hc55, if_neg hc61, if_neg hc67]), N0, rfl⟩
              · refine own_to (fun t k => XS.icmpYes X0.here hx rfl (pc0 := 46) (pc' := 74) rfl (hb hby d1_46) rfl (flt hc46).2.1 (by decide) (by decide) k) ?_
                show own_Out p e below _ s₁ (mkF m 74 #[.val (.int u0)] []) _ _ _
                refine own_to (fun t k => XS.iconst X0.here hx rfl (hb hby d1_74) k) ?_
                show own_Out p e below _ s₁ (mkF m 75 #[.val (.int u0)] [(.int (0 : Int32))]) _ _ _
                refine own_retV X0 hx hlk (w := .int (0 : Int32)) hret rfl (Or.inl ⟨rfl, by simp, _, rfl⟩) (hb hby d1_75) (by decide) (by decide) ?_
                rw [e0]
                exact ⟨(by unfold R1; rw [if_neg hc4, if_pos hc10, if_pos hc16, if_neg hc28, if_pos hc34, if_neg hc40, if_neg hc46]), N0, rfl⟩
          · refine own_to (fun t k => XS.icmpYes X0.here hx rfl (pc0 := 34) (pc' := 70) rfl (hb hby d1_34) rfl (flt hc34).2.2.2 (by decide) (by decide) k) ?_
            show own_Out p e below _ s₁ (mkF m 70 #[.val (.int u0)] []) _ _ _
            refine own_to (fun t k => XS.iconst X0.here hx rfl (hb hby d1_70) k) ?_
            show own_Out p e below _ s₁ (mkF m 71 #[.val (.int u0)] [(.int (1 : Int32))]) _ _ _
            refine own_to (fun t k => XS.goto X0.here hx rfl (pc0 := 71) (pc' := 75) rfl (hb hby d1_71) (by decide) (by decide) k) ?_
            show own_Out p e below _ s₁ (mkF m 75 #[.val (.int u0)] [(.int (1 : Int32))]) _ _ _
            refine own_retV X0 hx hlk (w := .int (1 : Int32)) hret rfl (Or.inl ⟨rfl, by simp, _, rfl⟩) (hb hby d1_75) (by decide) (by decide) ?_
            rw [e0]
            exact ⟨(by unfold R1; rw [if_neg hc4, if_pos hc10, if_pos hc16, if_neg hc28, if_neg hc34]), N0, rfl⟩
      · refine own_to (fun t k => XS.icmpNo X0.here hx rfl (hb hby d1_16) rfl (flt hc16).1 k) ?_
        show own_Out p e below _ s₁ (mkF m 19 #[.val (.int u0)] []) _ _ _
        refine own_to (fun t k => XS.iloadN X0.here hx rfl (hb hby d1_19) rfl k) ?_
        show own_Out p e below _ s₁ (mkF m 20 #[.val (.int u0)] [(.int u0)]) _ _ _
        refine own_to (fun t k => X0.ldcI hx hown (mvT hZ (hw _ (List.mem_of_getElem? (i := 64) rfl))) rfl (hb hby d1_20) k) ?_
        show own_Out p e below _ s₁ (mkF m 22 #[.val (.int u0)] [(.int (64975 : Int32)), (.int u0)]) _ _ _
        by_cases hc22 : (64975 : Int32) < u0
        · refine own_to (fun t k => XS.icmpNo X0.here hx rfl (hb hby d1_22) rfl (tlt hc22).2.2.2 k) ?_
          show own_Out p e below _ s₁ (mkF m 25 #[.val (.int u0)] []) _ _ _
          refine own_to (fun t k => XS.iloadN X0.here hx rfl (hb hby d1_25) rfl k) ?_
          show own_Out p e below _ s₁ (mkF m 26 #[.val (.int u0)] [(.int u0)]) _ _ _
          refine own_to (fun t k => X0.ldcI hx hown (mvT hZ (hw _ (List.mem_of_getElem? (i := 32) rfl))) rfl (hb hby d1_26) k) ?_
          show own_Out p e below _ s₁ (mkF m 28 #[.val (.int u0)] [(.int (65008 : Int32)), (.int u0)]) _ _ _
          by_cases hc28 : u0 < (65008 : Int32)
          · refine own_to (fun t k => XS.icmpYes X0.here hx rfl (pc0 := 28) (pc' := 37) rfl (hb hby d1_28) rfl (tlt hc28).1 (by decide) (by decide) k) ?_
            show own_Out p e below _ s₁ (mkF m 37 #[.val (.int u0)] []) _ _ _
            refine own_to (fun t k => XS.iloadN X0.here hx rfl (hb hby d1_37) rfl k) ?_
            show own_Out p e below _ s₁ (mkF m 38 #[.val (.int u0)] [(.int u0)]) _ _ _
            refine own_to (fun t k => X0.ldcI hx hown (mvT hZ (hw _ (List.mem_of_getElem? (i := 33) rfl))) rfl (hb hby d1_38) k) ?_
            show own_Out p e below _ s₁ (mkF m 40 #[.val (.int u0)] [(.int (65536 : Int32)), (.int u0)]) _ _ _
            by_cases hc40 : u0 < (65536 : Int32)
            · refine own_to (fun t k => XS.icmpYes X0.here hx rfl (pc0 := 40) (pc' := 74) rfl (hb hby d1_40) rfl (tlt hc40).1 (by decide) (by decide) k) ?_
              show own_Out p e below _ s₁ (mkF m 74 #[.val (.int u0)] []) _ _ _
              refine own_to (fun t k => XS.iconst X0.here hx rfl (hb hby d1_74) k) ?_
              show own_Out p e below _ s₁ (mkF m 75 #[.val (.int u0)] [(.int (0 : Int32))]) _ _ _
              refine own_retV X0 hx hlk (w := .int (0 : Int32)) hret rfl (Or.inl ⟨rfl, by simp, _, rfl⟩) (hb hby d1_75) (by decide) (by decide) ?_
              rw [e0]
              exact ⟨(by unfold R1; rw [if_neg hc4, if_pos hc10, if_neg hc16, if_pos hc22, if_pos hc28, if_pos hc40]), N0, rfl⟩
            · refine own_to (fun t k => XS.icmpNo X0.here hx rfl (hb hby d1_40) rfl (flt hc40).1 k) ?_
              show own_Out p e below _ s₁ (mkF m 43 #[.val (.int u0)] []) _ _ _
              refine own_to (fun t k => XS.iloadN X0.here hx rfl (hb hby d1_43) rfl k) ?_
              show own_Out p e below _ s₁ (mkF m 44 #[.val (.int u0)] [(.int u0)]) _ _ _
              refine own_to (fun t k => X0.ldcI hx hown (mvT hZ (hw _ (List.mem_of_getElem? (i := 66) rfl))) rfl (hb hby d1_44) k) ?_
              show own_Out p e below _ s₁ (mkF m 46 #[.val (.int u0)] [(.int (983040 : Int32)), (.int u0)]) _ _ _
              by_cases hc46 : u0 < (983040 : Int32)
              · refine own_to (fun t k => XS.icmpNo X0.here hx rfl (hb hby d1_46) rfl (tlt hc46).2.1 k) ?_
                show own_Out p e below _ s₁ (mkF m 49 #[.val (.int u0)] []) _ _ _
                refine own_to (fun t k => XS.iloadN X0.here hx rfl (hb hby d1_49) rfl k) ?_
                show own_Out p e below _ s₁ (mkF m 50 #[.val (.int u0)] [(.int u0)]) _ _ _
                refine own_to (fun t k => X0.ldcI hx hown (mvT hZ (hw _ (List.mem_of_getElem? (i := 67) rfl))) rfl (hb hby d1_50) k) ?_
                show own_Out p e below _ s₁ (mkF m 52 #[.val (.int u0)] [(.int (65535 : Int32)), (.int u0)]) _ _ _
                refine own_to (fun t k => XS.iand X0.here hx rfl (hb hby d1_52) rfl k) ?_
                show own_Out p e below _ s₁ (mkF m 53 #[.val (.int u0)] [(.int (u0 &&& (65535 : Int32)))]) _ _ _
                refine own_to (fun t k => X0.ldcI hx hown (mvT hZ (hw _ (List.mem_of_getElem? (i := 68) rfl))) rfl (hb hby d1_53) k) ?_
                show own_Out p e below _ s₁ (mkF m 55 #[.val (.int u0)] [(.int (65533 : Int32)), (.int (u0 &&& (65535 : Int32)))]) _ _ _
                by_cases hc55 : (65533 : Int32) < (u0 &&& (65535 : Int32))
                · refine own_to (fun t k => XS.icmpYes X0.here hx rfl (pc0 := 55) (pc' := 74) rfl (hb hby d1_55) rfl (tlt hc55).2.2.1 (by decide) (by decide) k) ?_
                  show own_Out p e below _ s₁ (mkF m 74 #[.val (.int u0)] []) _ _ _
                  refine own_to (fun t k => XS.iconst X0.here hx rfl (hb hby d1_74) k) ?_
                  show own_Out p e below _ s₁ (mkF m 75 #[.val (.int u0)] [(.int (0 : Int32))]) _ _ _
                  refine own_retV X0 hx hlk (w := .int (0 : Int32)) hret rfl (Or.inl ⟨rfl, by simp, _, rfl⟩) (hb hby d1_75) (by decide) (by decide) ?_
                  rw [e0]
                  exact ⟨(by unfold R1; rw [if_neg hc4, if_pos hc10, if_neg hc16, if_pos hc22, if_pos hc28, if_neg hc40, if_pos hc46, if_pos hc55]), N0, rfl⟩
                · refine own_to (fun t k => XS.icmpNo X0.here hx rfl (hb hby d1_55) rfl (flt hc55).2.2.1 k) ?_
                  show own_Out p e below _ s₁ (mkF m 58 #[.val (.int u0)] []) _ _ _
                  refine own_to (fun t k => XS.iloadN X0.here hx rfl (hb hby d1_58) rfl k) ?_
                  show own_Out p e below _ s₁ (mkF m 59 #[.val (.int u0)] [(.int u0)]) _ _ _
                  refine own_to (fun t k => X0.ldcI hx hown (mvT hZ (hw _ (List.mem_of_getElem? (i := 69) rfl))) rfl (hb hby d1_59) k) ?_
                  show own_Out p e below _ s₁ (mkF m 61 #[.val (.int u0)] [(.int (917504 : Int32)), (.int u0)]) _ _ _
                  by_cases hc61 : u0 < (917504 : Int32)
                  · refine own_to (fun t k => XS.icmpYes X0.here hx rfl (pc0 := 61) (pc' := 70) rfl (hb hby d1_61) rfl (tlt hc61).1 (by decide) (by decide) k) ?_
                    show own_Out p e below _ s₁ (mkF m 70 #[.val (.int u0)] []) _ _ _
                    refine own_to (fun t k => XS.iconst X0.here hx rfl (hb hby d1_70) k) ?_
                    show own_Out p e below _ s₁ (mkF m 71 #[.val (.int u0)] [(.int (1 : Int32))]) _ _ _
                    refine own_to (fun t k => XS.goto X0.here hx rfl (pc0 := 71) (pc' := 75) rfl (hb hby d1_71) (by decide) (by decide) k) ?_
                    show own_Out p e below _ s₁ (mkF m 75 #[.val (.int u0)] [(.int (1 : Int32))]) _ _ _
                    refine own_retV X0 hx hlk (w := .int (1 : Int32)) hret rfl (Or.inl ⟨rfl, by simp, _, rfl⟩) (hb hby d1_75) (by decide) (by decide) ?_
                    rw [e0]
                    exact ⟨(by unfold R1; rw [if_neg hc4, if_pos hc10, if_neg hc16, if_pos hc22, if_pos hc28, if_neg hc40, if_pos hc46, if_neg hc55, if_pos hc61]), N0, rfl⟩
                  · refine own_to (fun t k => XS.icmpNo X0.here hx rfl (hb hby d1_61) rfl (flt hc61).1 k) ?_
                    show own_Out p e below _ s₁ (mkF m 64 #[.val (.int u0)] []) _ _ _
                    refine own_to (fun t k => XS.iloadN X0.here hx rfl (hb hby d1_64) rfl k) ?_
                    show own_Out p e below _ s₁ (mkF m 65 #[.val (.int u0)] [(.int u0)]) _ _ _
                    refine own_to (fun t k => X0.ldcI hx hown (mvT hZ (hw _ (List.mem_of_getElem? (i := 70) rfl))) rfl (hb hby d1_65) k) ?_
                    show own_Out p e below _ s₁ (mkF m 67 #[.val (.int u0)] [(.int (921600 : Int32)), (.int u0)]) _ _ _
                    by_cases hc67 : u0 < (921600 : Int32)
                    · refine own_to (fun t k => XS.icmpYes X0.here hx rfl (pc0 := 67) (pc' := 74) rfl (hb hby d1_67) rfl (tlt hc67).1 (by decide) (by decide) k) ?_
                      show own_Out p e below _ s₁ (mkF m 74 #[.val (.int u0)] []) _ _ _
                      refine own_to (fun t k => XS.iconst X0.here hx rfl (hb hby d1_74) k) ?_
                      show own_Out p e below _ s₁ (mkF m 75 #[.val (.int u0)] [(.int (0 : Int32))]) _ _ _
                      refine own_retV X0 hx hlk (w := .int (0 : Int32)) hret rfl (Or.inl ⟨rfl, by simp, _, rfl⟩) (hb hby d1_75) (by decide) (by decide) ?_
                      rw [e0]
                      exact ⟨(by unfold R1; rw [if_neg hc4, if_pos hc10, if_neg hc16, if_pos hc22, if_pos hc28, if_neg hc40, if_pos hc46, if_neg hc55, if_neg hc61, if_pos hc67]), N0, rfl⟩
                    · refine own_to (fun t k => XS.icmpNo X0.here hx rfl (hb hby d1_67) rfl (flt hc67).1 k) ?_
                      show own_Out p e below _ s₁ (mkF m 70 #[.val (.int u0)] []) _ _ _
                      refine own_to (fun t k => XS.iconst X0.here hx rfl (hb hby d1_70) k) ?_
                      show own_Out p e below _ s₁ (mkF m 71 #[.val (.int u0)] [(.int (1 : Int32))]) _ _ _
                      refine own_to (fun t k => XS.goto X0.here hx rfl (pc0 := 71) (pc' := 75) rfl (hb hby d1_71) (by decide) (by decide) k) ?_
                      show own_Out p e below _ s₁ (mkF m 75 #[.val (.int u0)] [(.int (1 : Int32))]) _ _ _
                      refine own_retV X0 hx hlk (w := .int (1 : Int32)) hret rfl (Or.inl ⟨rfl, by simp, _, rfl⟩) (hb hby d1_75) (by decide) (by decide) ?_
                      rw [e0]
                      exact ⟨(by unfold R1; rw [if_neg hc4, if_pos hc10, if_neg hc16, if_pos hc22, if_pos hc28, if_neg hc40, if_pos hc46, if_neg hc55, if_neg hc61, if_neg hc67]), N0, rfl⟩
              · refine own_to (fun t k => XS.icmpYes X0.here hx rfl (pc0 := 46) (pc' := 74) rfl (hb hby d1_46) rfl (flt hc46).2.1 (by decide) (by decide) k) ?_
                show own_Out p e below _ s₁ (mkF m 74 #[.val (.int u0)] []) _ _ _
                refine own_to (fun t k => XS.iconst X0.here hx rfl (hb hby d1_74) k) ?_
                show own_Out p e below _ s₁ (mkF m 75 #[.val (.int u0)] [(.int (0 : Int32))]) _ _ _
                refine own_retV X0 hx hlk (w := .int (0 : Int32)) hret rfl (Or.inl ⟨rfl, by simp, _, rfl⟩) (hb hby d1_75) (by decide) (by decide) ?_
                rw [e0]
                exact ⟨(by unfold R1; rw [if_neg hc4, if_pos hc10, if_neg hc16, if_pos hc22, if_pos hc28, if_neg hc40, if_neg hc46]), N0, rfl⟩
          · refine own_to (fun t k => XS.icmpNo X0.here hx rfl (hb hby d1_28) rfl (flt hc28).1 k) ?_
            show own_Out p e below _ s₁ (mkF m 31 #[.val (.int u0)] []) _ _ _
            refine own_to (fun t k => XS.iloadN X0.here hx rfl (hb hby d1_31) rfl k) ?_
            show own_Out p e below _ s₁ (mkF m 32 #[.val (.int u0)] [(.int u0)]) _ _ _
            refine own_to (fun t k => X0.ldcI hx hown (mvT hZ (hw _ (List.mem_of_getElem? (i := 65) rfl))) rfl (hb hby d1_32) k) ?_
            show own_Out p e below _ s₁ (mkF m 34 #[.val (.int u0)] [(.int (65519 : Int32)), (.int u0)]) _ _ _
            by_cases hc34 : (65519 : Int32) < u0
            · refine own_to (fun t k => XS.icmpNo X0.here hx rfl (hb hby d1_34) rfl (tlt hc34).2.2.2 k) ?_
              show own_Out p e below _ s₁ (mkF m 37 #[.val (.int u0)] []) _ _ _
              refine own_to (fun t k => XS.iloadN X0.here hx rfl (hb hby d1_37) rfl k) ?_
              show own_Out p e below _ s₁ (mkF m 38 #[.val (.int u0)] [(.int u0)]) _ _ _
              refine own_to (fun t k => X0.ldcI hx hown (mvT hZ (hw _ (List.mem_of_getElem? (i := 33) rfl))) rfl (hb hby d1_38) k) ?_
              show own_Out p e below _ s₁ (mkF m 40 #[.val (.int u0)] [(.int (65536 : Int32)), (.int u0)]) _ _ _
              by_cases hc40 : u0 < (65536 : Int32)
              · refine own_to (fun t k => XS.icmpYes X0.here hx rfl (pc0 := 40) (pc' := 74) rfl (hb hby d1_40) rfl (tlt hc40).1 (by decide) (by decide) k) ?_
                show own_Out p e below _ s₁ (mkF m 74 #[.val (.int u0)] []) _ _ _
                refine own_to (fun t k => XS.iconst X0.here hx rfl (hb hby d1_74) k) ?_
                show own_Out p e below _ s₁ (mkF m 75 #[.val (.int u0)] [(.int (0 : Int32))]) _ _ _
                refine own_retV X0 hx hlk (w := .int (0 : Int32)) hret rfl (Or.inl ⟨rfl, by simp, _, rfl⟩) (hb hby d1_75) (by decide) (by decide) ?_
                rw [e0]
                exact ⟨(by unfold R1; rw [if_neg hc4, if_pos hc10, if_neg hc16, if_pos hc22, if_neg hc28, if_pos hc34, if_pos hc40]), N0, rfl⟩
              · refine own_to (fun t k => XS.icmpNo X0.here hx rfl (hb hby d1_40) rfl (flt hc40).1 k) ?_
                show own_Out p e below _ s₁ (mkF m 43 #[.val (.int u0)] []) _ _ _
                refine own_to (fun t k => XS.iloadN X0.here hx rfl (hb hby d1_43) rfl k) ?_
                show own_Out p e below _ s₁ (mkF m 44 #[.val (.int u0)] [(.int u0)]) _ _ _
                refine own_to (fun t k => X0.ldcI hx hown (mvT hZ (hw _ (List.mem_of_getElem? (i := 66) rfl))) rfl (hb hby d1_44) k) ?_
                show own_Out p e below _ s₁ (mkF m 46 #[.val (.int u0)] [(.int (983040 : Int32)), (.int u0)]) _ _ _
                by_cases hc46 : u0 < (983040 : Int32)
                · refine own_to (fun t k => XS.icmpNo X0.here hx rfl (hb hby d1_46) rfl (tlt hc46).2.1 k) ?_
                  show own_Out p e below _ s₁ (mkF m 49 #[.val (.int u0)] []) _ _ _
                  refine own_to (fun t k => XS.iloadN X0.here hx rfl (hb hby d1_49) rfl k) ?_
                  show own_Out p e below _ s₁ (mkF m 50 #[.val (.int u0)] [(.int u0)]) _ _ _
                  refine own_to (fun t k => X0.ldcI hx hown (mvT hZ (hw _ (List.mem_of_getElem? (i := 67) rfl))) rfl (hb hby d1_50) k) ?_
                  show own_Out p e below _ s₁ (mkF m 52 #[.val (.int u0)] [(.int (65535 : Int32)), (.int u0)]) _ _ _
                  refine own_to (fun t k => XS.iand X0.here hx rfl (hb hby d1_52) rfl k) ?_
                  show own_Out p e below _ s₁ (mkF m 53 #[.val (.int u0)] [(.int (u0 &&& (65535 : Int32)))]) _ _ _
                  refine own_to (fun t k => X0.ldcI hx hown (mvT hZ (hw _ (List.mem_of_getElem? (i := 68) rfl))) rfl (hb hby d1_53) k) ?_
                  show own_Out p e below _ s₁ (mkF m 55 #[.val (.int u0)] [(.int (65533 : Int32)), (.int (u0 &&& (65535 : Int32)))]) _ _ _
                  by_cases hc55 : (65533 : Int32) < (u0 &&& (65535 : Int32))
                  · refine own_to (fun t k => XS.icmpYes X0.here hx rfl (pc0 := 55) (pc' := 74) rfl (hb hby d1_55) rfl (tlt hc55).2.2.1 (by decide) (by decide) k) ?_
                    show own_Out p e below _ s₁ (mkF m 74 #[.val (.int u0)] []) _ _ _
                    refine own_to (fun t k => XS.iconst X0.here hx rfl (hb hby d1_74) k) ?_
                    show own_Out p e below _ s₁ (mkF m 75 #[.val (.int u0)] [(.int (0 : Int32))]) _ _ _
                    refine own_retV X0 hx hlk (w := .int (0 : Int32)) hret rfl (Or.inl ⟨rfl, by simp, _, rfl⟩) (hb hby d1_75) (by decide) (by decide) ?_
                    rw [e0]
                    exact ⟨(by unfold R1; rw [if_neg hc4, if_pos hc10, if_neg hc16, if_pos hc22, if_neg hc28, if_pos hc34, if_neg hc40, if_pos hc46, if_pos hc55]), N0, rfl⟩
                  · refine own_to (fun t k => XS.icmpNo X0.here hx rfl (hb hby d1_55) rfl (flt hc55).2.2.1 k) ?_
                    show own_Out p e below _ s₁ (mkF m 58 #[.val (.int u0)] []) _ _ _
                    refine own_to (fun t k => XS.iloadN X0.here hx rfl (hb hby d1_58) rfl k) ?_
                    show own_Out p e below _ s₁ (mkF m 59 #[.val (.int u0)] [(.int u0)]) _ _ _
                    refine own_to (fun t k => X0.ldcI hx hown (mvT hZ (hw _ (List.mem_of_getElem? (i := 69) rfl))) rfl (hb hby d1_59) k) ?_
                    show own_Out p e below _ s₁ (mkF m 61 #[.val (.int u0)] [(.int (917504 : Int32)), (.int u0)]) _ _ _
                    by_cases hc61 : u0 < (917504 : Int32)
                    · refine own_to (fun t k => XS.icmpYes X0.here hx rfl (pc0 := 61) (pc' := 70) rfl (hb hby d1_61) rfl (tlt hc61).1 (by decide) (by decide) k) ?_
                      show own_Out p e below _ s₁ (mkF m 70 #[.val (.int u0)] []) _ _ _
                      refine own_to (fun t k => XS.iconst X0.here hx rfl (hb hby d1_70) k) ?_
                      show own_Out p e below _ s₁ (mkF m 71 #[.val (.int u0)] [(.int (1 : Int32))]) _ _ _
                      refine own_to (fun t k => XS.goto X0.here hx rfl (pc0 := 71) (pc' := 75) rfl (hb hby d1_71) (by decide) (by decide) k) ?_
                      show own_Out p e below _ s₁ (mkF m 75 #[.val (.int u0)] [(.int (1 : Int32))]) _ _ _
                      refine own_retV X0 hx hlk (w := .int (1 : Int32)) hret rfl (Or.inl ⟨rfl, by simp, _, rfl⟩) (hb hby d1_75) (by decide) (by decide) ?_
                      rw [e0]
                      exact ⟨(by unfold R1; rw [if_neg hc4, if_pos hc10, if_neg hc16, if_pos hc22, if_neg hc28, if_pos hc34, if_neg hc40, if_pos hc46, if_neg hc55, if_pos hc61]), N0, rfl⟩
                    · refine own_to (fun t k => XS.icmpNo X0.here hx rfl (hb hby d1_61) rfl (flt hc61).1 k) ?_
                      show own_Out p e below _ s₁ (mkF m 64 #[.val (.int u0)] []) _ _ _
                      refine own_to (fun t k => XS.iloadN X0.here hx rfl (hb hby d1_64) rfl k) ?_
                      show own_Out p e below _ s₁ (mkF m 65 #[.val (.int u0)] [(.int u0)]) _ _ _
                      refine own_to (fun t k => X0.ldcI hx hown (mvT hZ (hw _ (List.mem_of_getElem? (i := 70) rfl))) rfl (hb hby d1_65) k) ?_
                      show own_Out p e below _ s₁ (mkF m 67 #[.val (.int u0)] [(.int (921600 : Int32)), (.int u0)]) _ _ _
                      by_cases hc67 : u0 < (921600 : Int32)
                      · refine own_to (fun t k => XS.icmpYes X0.here hx rfl (pc0 := 67) (pc' := 74) rfl (hb hby d1_67) rfl (tlt hc67).1 (by decide) (by decide) k) ?_
                        show own_Out p e below _ s₁ (mkF m 74 #[.val (.int u0)] []) _ _ _
                        refine own_to (fun t k => XS.iconst X0.here hx rfl (hb hby d1_74) k) ?_
                        show own_Out p e below _ s₁ (mkF m 75 #[.val (.int u0)] [(.int (0 : Int32))]) _ _ _
                        refine own_retV X0 hx hlk (w := .int (0 : Int32)) hret rfl (Or.inl ⟨rfl, by simp, _, rfl⟩) (hb hby d1_75) (by decide) (by decide) ?_
                        rw [e0]
                        exact ⟨(by unfold R1; rw [if_neg hc4, if_pos hc10, if_neg hc16, if_pos hc22, if_neg hc28, if_pos hc34, if_neg hc40, if_pos hc46, if_neg hc55, if_neg hc61, if_pos hc67]), N0, rfl⟩
                      · refine own_to (fun t k => XS.icmpNo X0.here hx rfl (hb hby d1_67) rfl (flt hc67).1 k) ?_
                        show own_Out p e below _ s₁ (mkF m 70 #[.val (.int u0)] []) _ _ _
                        refine own_to (fun t k => XS.iconst X0.here hx rfl (hb hby d1_70) k) ?_
                        show own_Out p e below _ s₁ (mkF m 71 #[.val (.int u0)] [(.int (1 : Int32))]) _ _ _
                        refine own_to (fun t k => XS.goto X0.here hx rfl (pc0 := 71) (pc' := 75) rfl (hb hby d1_71) (by decide) (by decide) k) ?_
                        show own_Out p e below _ s₁ (mkF m 75 #[.val (.int u0)] [(.int (1 : Int32))]) _ _ _
                        refine own_retV X0 hx hlk (w := .int (1 : Int32)) hret rfl (Or.inl ⟨rfl, by simp, _, rfl⟩) (hb hby d1_75) (by decide) (by decide) ?_
                        rw [e0]
                        exact ⟨(by unfold R1; rw [if_neg hc4, if_pos hc10, if_neg hc16, if_pos hc22, if_neg hc28, if_pos hc34, if_neg hc40, if_pos hc46, if_neg hc55, if_neg hc61, if_neg hc67]), N0, rfl⟩
                · refine own_to (fun t k => XS.icmpYes X0.here hx rfl (pc0 := 46) (pc' := 74) rfl (hb hby d1_46) rfl (flt hc46).2.1 (by decide) (by decide) k) ?_
                  show own_Out p e below _ s₁ (mkF m 74 #[.val (.int u0)] []) _ _ _
                  refine own_to (fun t k => XS.iconst X0.here hx rfl (hb hby d1_74) k) ?_
                  show own_Out p e below _ s₁ (mkF m 75 #[.val (.int u0)] [(.int (0 : Int32))]) _ _ _
                  refine own_retV X0 hx hlk (w := .int (0 : Int32)) hret rfl (Or.inl ⟨rfl, by simp, _, rfl⟩) (hb hby d1_75) (by decide) (by decide) ?_
                  rw [e0]
                  exact ⟨(by unfold R1; rw [if_neg hc4, if_pos hc10, if_neg hc16, if_pos hc22, if_neg hc28, if_pos hc34, if_neg hc40, if_neg hc46]), N0, rfl⟩
            · refine own_to (fun t k => XS.icmpYes X0.here hx rfl (pc0 := 34) (pc' := 70) rfl (hb hby d1_34) rfl (flt hc34).2.2.2 (by decide) (by decide) k) ?_
              show own_Out p e below _ s₁ (mkF m 70 #[.val (.int u0)] []) _ _ _
              refine own_to (fun t k => XS.iconst X0.here hx rfl (hb hby d1_70) k) ?_
              show own_Out p e below _ s₁ (mkF m 71 #[.val (.int u0)] [(.int (1 : Int32))]) _ _ _
              refine own_to (fun t k => XS.goto X0.here hx rfl (pc0 := 71) (pc' := 75) rfl (hb hby d1_71) (by decide) (by decide) k) ?_
              show own_Out p e below _ s₁ (mkF m 75 #[.val (.int u0)] [(.int (1 : Int32))]) _ _ _
              refine own_retV X0 hx hlk (w := .int (1 : Int32)) hret rfl (Or.inl ⟨rfl, by simp, _, rfl⟩) (hb hby d1_75) (by decide) (by decide) ?_
              rw [e0]
              exact ⟨(by unfold R1; rw [if_neg hc4, if_pos hc10, if_neg hc16, if_pos hc22, if_neg hc28, if_neg hc34]), N0, rfl⟩
        · refine own_to (fun t k => XS.icmpYes X0.here hx rfl (pc0 := 22) (pc' := 70) rfl (hb hby d1_22) rfl (flt hc22).2.2.2 (by decide) (by decide) k) ?_
          show own_Out p e below _ s₁ (mkF m 70 #[.val (.int u0)] []) _ _ _
          refine own_to (fun t k => XS.iconst X0.here hx rfl (hb hby d1_70) k) ?_
          show own_Out p e below _ s₁ (mkF m 71 #[.val (.int u0)] [(.int (1 : Int32))]) _ _ _
          refine own_to (fun t k => XS.goto X0.here hx rfl (pc0 := 71) (pc' := 75) rfl (hb hby d1_71) (by decide) (by decide) k) ?_
          show own_Out p e below _ s₁ (mkF m 75 #[.val (.int u0)] [(.int (1 : Int32))]) _ _ _
          refine own_retV X0 hx hlk (w := .int (1 : Int32)) hret rfl (Or.inl ⟨rfl, by simp, _, rfl⟩) (hb hby d1_75) (by decide) (by decide) ?_
          rw [e0]
          exact ⟨(by unfold R1; rw [if_neg hc4, if_pos hc10, if_neg hc16, if_neg hc22]), N0, rfl⟩
    · refine own_to (fun t k => XS.icmpYes X0.here hx rfl (pc0 := 10) (pc' := 70) rfl (hb hby d1_10) rfl (flt hc10).2.2.2 (by decide) (by decide) k) ?_
      show own_Out p e below _ s₁ (mkF m 70 #[.val (.int u0)] []) _ _ _
      refine own_to (fun t k => XS.iconst X0.here hx rfl (hb hby d1_70) k) ?_
      show own_Out p e below _ s₁ (mkF m 71 #[.val (.int u0)] [(.int (1 : Int32))]) _ _ _
      refine own_to (fun t k => XS.goto X0.here hx rfl (pc0 := 71) (pc' := 75) rfl (hb hby d1_71) (by decide) (by decide) k) ?_
      show own_Out p e below _ s₁ (mkF m 75 #[.val (.int u0)] [(.int (1 : Int32))]) _ _ _
      refine own_retV X0 hx hlk (w := .int (1 : Int32)) hret rfl (Or.inl ⟨rfl, by simp, _, rfl⟩) (hb hby d1_75) (by decide) (by decide) ?_
      rw [e0]
      exact ⟨(by unfold R1; rw [if_neg hc4, if_neg hc10]), N0, rfl⟩
theorem d3_0 : decode method_3_code 0 = .ok (.iload_n 1, 1) := by decide +kernel
theorem d3_1 : decode method_3_code 1 = .ok (.iload_n 0, 1) := by decide +kernel
theorem d3_2 : decode method_3_code 2 = .ok (.if_icmp .gt 12, 3) := by decide +kernel
theorem d3_5 : decode method_3_code 5 = .ok (.iload_n 0, 1) := by decide +kernel
theorem d3_6 : decode method_3_code 6 = .ok (.iload_n 2, 1) := by decide +kernel
theorem d3_7 : decode method_3_code 7 = .ok (.if_icmp .gt 7, 3) := by decide +kernel
theorem d3_10 : decode method_3_code 10 = .ok (.iconst 1, 1) := by decide +kernel
theorem d3_11 : decode method_3_code 11 = .ok (.goto 4, 3) := by decide +kernel
theorem d3_14 : decode method_3_code 14 = .ok (.iconst 0, 1) := by decide +kernel
theorem d3_15 : decode method_3_code 15 = .ok (.ireturn, 1) := by decide +kernel
theorem pn_1 : plainName "com/example/constraint/constraint/schema/UriReferenceIsUcsCharacterPinLaw" = true := by first | (simp [plainName, overriddenIn]; done) | decide +kernel
theorem ef_3 (m : MethodId) (u0 : Int32) (u1 : Int32) (u2 : Int32) : entryFrame m #[(.int u0), (.int u1), (.int u2)] 3 = mkF m 0 #[.val (.int u0), .val (.int u1), .val (.int u2)] [] := by first | (simp [entryFrame, mkF, argsToLocals, Value.category]; done) | rfl
def R3 (u0 : Int32) (u1 : Int32) (u2 : Int32) : Int32 := (if u0 < u1 then (0 : Int32) else (if u2 < u0 then (0 : Int32) else (1 : Int32)))
def Q3 (Z : State) (u0 : Int32) (u1 : Int32) (u2 : Int32) (h0 : Heap) (n0 : Nat) (v : Option Value) (h : Heap) (L : List Loc) : Prop := v = some (.int (R3 u0 u1 u2)) ∧ Fr n0 L ∧ h = h0
set_option maxRecDepth 65536 in
set_option maxHeartbeats 40000000 in
theorem rm3 (l : Launch) (Z : State) (a0 : Array Value) (hw : ∀ d ∈ tables_1, d.before a0 Z = true) (u0 : Int32) (u1 : Int32) (u2 : Int32) (h0 : Heap) (n0 : Nat) (Z0 : n0 ≤ h0.size) :
    own_C l Z (⟨"com/example/constraint/constraint/schema/UriReferenceIsUcsCharacterPinLaw", "in", "(III)Z"⟩ : MethodName) method_3_code 3 (some .boolean) ({ frames := 0, cells := 0, slots := 0, locals := 0 } : Room) #[(.int u0), (.int u1), (.int u2)] h0 (Q3 Z u0 u1 u2 h0 n0) := by
  refine own_met (plainFor_of_name pn_1) ?_
  intro p e s m below meth c s₁ hx hby hml hret hlk hown hnm hZ X0 e0
  refine own_cast (ef_3 m u0 u1 u2) ?_
  have N0 := Fr.nil n0
  show own_Out p e below _ s₁ (mkF m 0 #[.val (.int u0), .val (.int u1), .val (.int u2)] []) _ _ _
  refine own_to (fun t k => XS.iloadN X0.here hx rfl (hb hby d3_0) rfl k) ?_
  show own_Out p e below _ s₁ (mkF m 1 #[.val (.int u0), .val (.int u1), .val (.int u2)] [(.int u1)]) _ _ _
  refine own_to (fun t k => XS.iloadN X0.here hx rfl (hb hby d3_1) rfl k) ?_
  show own_Out p e below _ s₁ (mkF m 2 #[.val (.int u0), .val (.int u1), .val (.int u2)] [(.int u0), (.int u1)]) _ _ _
  by_cases hc2 : u0 < u1
  · refine own_to (fun t k => XS.icmpYes X0.here hx rfl (pc0 := 2) (pc' := 14) rfl (hb hby d3_2) rfl (tlt hc2).2.2.1 (by decide) (by decide) k) ?_
    show own_Out p e below _ s₁ (mkF m 14 #[.val (.int u0), .val (.int u1), .val (.int u2)] []) _ _ _
    refine own_to (fun t k => XS.iconst X0.here hx rfl (hb hby d3_14) k) ?_
    show own_Out p e below _ s₁ (mkF m 15 #[.val (.int u0), .val (.int u1), .val (.int u2)] [(.int (0 : Int32))]) _ _ _
    refine own_retV X0 hx hlk (w := .int (0 : Int32)) hret rfl (Or.inl ⟨rfl, by simp, _, rfl⟩) (hb hby d3_15) (by decide) (by decide) ?_
    rw [e0]
    exact ⟨(by unfold R3; rw [if_pos hc2]), N0, rfl⟩
  · refine own_to (fun t k => XS.icmpNo X0.here hx rfl (hb hby d3_2) rfl (flt hc2).2.2.1 k) ?_
    show own_Out p e below _ s₁ (mkF m 5 #[.val (.int u0), .val (.int u1), .val (.int u2)] []) _ _ _
    refine own_to (fun t k => XS.iloadN X0.here hx rfl (hb hby d3_5) rfl k) ?_
    show own_Out p e below _ s₁ (mkF m 6 #[.val (.int u0), .val (.int u1), .val (.int u2)] [(.int u0)]) _ _ _
    refine own_to (fun t k => XS.iloadN X0.here hx rfl (hb hby d3_6) rfl k) ?_
    show own_Out p e below _ s₁ (mkF m 7 #[.val (.int u0), .val (.int u1), .val (.int u2)] [(.int u2), (.int u0)]) _ _ _
    by_cases hc7 : u2 < u0
    · refine own_to (fun t k => XS.icmpYes X0.here hx rfl (pc0 := 7) (pc' := 14) rfl (hb hby d3_7) rfl (tlt hc7).2.2.1 (by decide) (by decide) k) ?_
      show own_Out p e below _ s₁ (mkF m 14 #[.val (.int u0), .val (.int u1), .val (.int u2)] []) _ _ _
      refine own_to (fun t k => XS.iconst X0.here hx rfl (hb hby d3_14) k) ?_
      show own_Out p e below _ s₁ (mkF m 15 #[.val (.int u0), .val (.int u1), .val (.int u2)] [(.int (0 : Int32))]) _ _ _
      refine own_retV X0 hx hlk (w := .int (0 : Int32)) hret rfl (Or.inl ⟨rfl, by simp, _, rfl⟩) (hb hby d3_15) (by decide) (by decide) ?_
      rw [e0]
      exact ⟨(by unfold R3; rw [if_neg hc2, if_pos hc7]), N0, rfl⟩
    · refine own_to (fun t k => XS.icmpNo X0.here hx rfl (hb hby d3_7) rfl (flt hc7).2.2.1 k) ?_
      show own_Out p e below _ s₁ (mkF m 10 #[.val (.int u0), .val (.int u1), .val (.int u2)] []) _ _ _
      refine own_to (fun t k => XS.iconst X0.here hx rfl (hb hby d3_10) k) ?_
      show own_Out p e below _ s₁ (mkF m 11 #[.val (.int u0), .val (.int u1), .val (.int u2)] [(.int (1 : Int32))]) _ _ _
      refine own_to (fun t k => XS.goto X0.here hx rfl (pc0 := 11) (pc' := 15) rfl (hb hby d3_11) (by decide) (by decide) k) ?_
      show own_Out p e below _ s₁ (mkF m 15 #[.val (.int u0), .val (.int u1), .val (.int u2)] [(.int (1 : Int32))]) _ _ _
      refine own_retV X0 hx hlk (w := .int (1 : Int32)) hret rfl (Or.inl ⟨rfl, by simp, _, rfl⟩) (hb hby d3_15) (by decide) (by decide) ?_
      rw [e0]
      exact ⟨(by unfold R3; rw [if_neg hc2, if_neg hc7]), N0, rfl⟩
theorem d2_0 : decode method_4_code 0 = .ok (.iload_n 0, 1) := by decide +kernel
theorem d2_1 : decode method_4_code 1 = .ok (.sipush 160, 3) := by decide +kernel
theorem d2_4 : decode method_4_code 4 = .ok (.ldc 8, 2) := by decide +kernel
theorem d2_6 : decode method_4_code 6 = .ok (.invokestatic 46, 3) := by decide +kernel
theorem d2_9 : decode method_4_code 9 = .ok (.ifCond .ne 179, 3) := by decide +kernel
theorem d2_12 : decode method_4_code 12 = .ok (.iload_n 0, 1) := by decide +kernel
theorem d2_13 : decode method_4_code 13 = .ok (.ldc 11, 2) := by decide +kernel
theorem d2_15 : decode method_4_code 15 = .ok (.ldc 12, 2) := by decide +kernel
theorem d2_17 : decode method_4_code 17 = .ok (.invokestatic 46, 3) := by decide +kernel
theorem d2_20 : decode method_4_code 20 = .ok (.ifCond .ne 168, 3) := by decide +kernel
theorem d2_23 : decode method_4_code 23 = .ok (.iload_n 0, 1) := by decide +kernel
theorem d2_24 : decode method_4_code 24 = .ok (.ldc 15, 2) := by decide +kernel
theorem d2_26 : decode method_4_code 26 = .ok (.ldc 16, 2) := by decide +kernel
theorem d2_28 : decode method_4_code 28 = .ok (.invokestatic 46, 3) := by decide +kernel
theorem d2_31 : decode method_4_code 31 = .ok (.ifCond .ne 157, 3) := by decide +kernel
theorem d2_34 : decode method_4_code 34 = .ok (.iload_n 0, 1) := by decide +kernel
theorem d2_35 : decode method_4_code 35 = .ok (.ldc 18, 2) := by decide +kernel
theorem d2_37 : decode method_4_code 37 = .ok (.ldc 19, 2) := by decide +kernel
theorem d2_39 : decode method_4_code 39 = .ok (.invokestatic 46, 3) := by decide +kernel
theorem d2_42 : decode method_4_code 42 = .ok (.ifCond .ne 146, 3) := by decide +kernel
theorem d2_45 : decode method_4_code 45 = .ok (.iload_n 0, 1) := by decide +kernel
theorem d2_46 : decode method_4_code 46 = .ok (.ldc 21, 2) := by decide +kernel
theorem d2_48 : decode method_4_code 48 = .ok (.ldc 50, 2) := by decide +kernel
theorem d2_50 : decode method_4_code 50 = .ok (.invokestatic 46, 3) := by decide +kernel
theorem d2_53 : decode method_4_code 53 = .ok (.ifCond .ne 135, 3) := by decide +kernel
theorem d2_56 : decode method_4_code 56 = .ok (.iload_n 0, 1) := by decide +kernel
theorem d2_57 : decode method_4_code 57 = .ok (.ldc 51, 2) := by decide +kernel
theorem d2_59 : decode method_4_code 59 = .ok (.ldc 52, 2) := by decide +kernel
theorem d2_61 : decode method_4_code 61 = .ok (.invokestatic 46, 3) := by decide +kernel
theorem d2_64 : decode method_4_code 64 = .ok (.ifCond .ne 124, 3) := by decide +kernel
theorem d2_67 : decode method_4_code 67 = .ok (.iload_n 0, 1) := by decide +kernel
theorem d2_68 : decode method_4_code 68 = .ok (.ldc 53, 2) := by decide +kernel
theorem d2_70 : decode method_4_code 70 = .ok (.ldc 54, 2) := by decide +kernel
theorem d2_72 : decode method_4_code 72 = .ok (.invokestatic 46, 3) := by decide +kernel
theorem d2_75 : decode method_4_code 75 = .ok (.ifCond .ne 113, 3) := by decide +kernel
theorem d2_78 : decode method_4_code 78 = .ok (.iload_n 0, 1) := by decide +kernel
theorem d2_79 : decode method_4_code 79 = .ok (.ldc 55, 2) := by decide +kernel
theorem d2_81 : decode method_4_code 81 = .ok (.ldc 56, 2) := by decide +kernel
theorem d2_83 : decode method_4_code 83 = .ok (.invokestatic 46, 3) := by decide +kernel
theorem d2_86 : decode method_4_code 86 = .ok (.ifCond .ne 102, 3) := by decide +kernel
theorem d2_89 : decode method_4_code 89 = .ok (.iload_n 0, 1) := by decide +kernel
theorem d2_90 : decode method_4_code 90 = .ok (.ldc 57, 2) := by decide +kernel
theorem d2_92 : decode method_4_code 92 = .ok (.ldc 58, 2) := by decide +kernel
theorem d2_94 : decode method_4_code 94 = .ok (.invokestatic 46, 3) := by decide +kernel
theorem d2_97 : decode method_4_code 97 = .ok (.ifCond .ne 91, 3) := by decide +kernel
theorem d2_100 : decode method_4_code 100 = .ok (.iload_n 0, 1) := by decide +kernel
theorem d2_101 : decode method_4_code 101 = .ok (.ldc 59, 2) := by decide +kernel
theorem d2_103 : decode method_4_code 103 = .ok (.ldc 60, 2) := by decide +kernel
theorem d2_105 : decode method_4_code 105 = .ok (.invokestatic 46, 3) := by decide +kernel
theorem d2_108 : decode method_4_code 108 = .ok (.ifCond .ne 80, 3) := by decide +kernel
theorem d2_111 : decode method_4_code 111 = .ok (.iload_n 0, 1) := by decide +kernel
theorem d2_112 : decode method_4_code 112 = .ok (.ldc 61, 2) := by decide +kernel
theorem d2_114 : decode method_4_code 114 = .ok (.ldc 62, 2) := by decide +kernel
theorem d2_116 : decode method_4_code 116 = .ok (.invokestatic 46, 3) := by decide +kernel
theorem d2_119 : decode method_4_code 119 = .ok (.ifCond .ne 69, 3) := by decide +kernel
theorem d2_122 : decode method_4_code 122 = .ok (.iload_n 0, 1) := by decide +kernel
theorem d2_123 : decode method_4_code 123 = .ok (.ldc 63, 2) := by decide +kernel
theorem d2_125 : decode method_4_code 125 = .ok (.ldc 64, 2) := by decide +kernel
theorem d2_127 : decode method_4_code 127 = .ok (.invokestatic 46, 3) := by decide +kernel
theorem d2_130 : decode method_4_code 130 = .ok (.ifCond .ne 58, 3) := by decide +kernel
theorem d2_133 : decode method_4_code 133 = .ok (.iload_n 0, 1) := by decide +kernel
theorem d2_134 : decode method_4_code 134 = .ok (.ldc 65, 2) := by decide +kernel
theorem d2_136 : decode method_4_code 136 = .ok (.ldc 66, 2) := by decide +kernel
theorem d2_138 : decode method_4_code 138 = .ok (.invokestatic 46, 3) := by decide +kernel
theorem d2_141 : decode method_4_code 141 = .ok (.ifCond .ne 47, 3) := by decide +kernel
theorem d2_144 : decode method_4_code 144 = .ok (.iload_n 0, 1) := by decide +kernel
theorem d2_145 : decode method_4_code 145 = .ok (.ldc 67, 2) := by decide +kernel
theorem d2_147 : decode method_4_code 147 = .ok (.ldc 68, 2) := by decide +kernel
theorem d2_149 : decode method_4_code 149 = .ok (.invokestatic 46, 3) := by decide +kernel
theorem d2_152 : decode method_4_code 152 = .ok (.ifCond .ne 36, 3) := by decide +kernel
theorem d2_155 : decode method_4_code 155 = .ok (.iload_n 0, 1) := by decide +kernel
theorem d2_156 : decode method_4_code 156 = .ok (.ldc 69, 2) := by decide +kernel
theorem d2_158 : decode method_4_code 158 = .ok (.ldc 70, 2) := by decide +kernel
theorem d2_160 : decode method_4_code 160 = .ok (.invokestatic 46, 3) := by decide +kernel
theorem d2_163 : decode method_4_code 163 = .ok (.ifCond .ne 25, 3) := by decide +kernel
theorem d2_166 : decode method_4_code 166 = .ok (.iload_n 0, 1) := by decide +kernel
theorem d2_167 : decode method_4_code 167 = .ok (.ldc 71, 2) := by decide +kernel
theorem d2_169 : decode method_4_code 169 = .ok (.ldc 22, 2) := by decide +kernel
theorem d2_171 : decode method_4_code 171 = .ok (.invokestatic 46, 3) := by decide +kernel
theorem d2_174 : decode method_4_code 174 = .ok (.ifCond .ne 14, 3) := by decide +kernel
theorem d2_177 : decode method_4_code 177 = .ok (.iload_n 0, 1) := by decide +kernel
theorem d2_178 : decode method_4_code 178 = .ok (.ldc 25, 2) := by decide +kernel
theorem d2_180 : decode method_4_code 180 = .ok (.ldc 26, 2) := by decide +kernel
theorem d2_182 : decode method_4_code 182 = .ok (.invokestatic 46, 3) := by decide +kernel
theorem d2_185 : decode method_4_code 185 = .ok (.ifCond .eq 7, 3) := by decide +kernel
theorem d2_188 : decode method_4_code 188 = .ok (.iconst 1, 1) := by decide +kernel
theorem d2_189 : decode method_4_code 189 = .ok (.goto 4, 3) := by decide +kernel
theorem d2_192 : decode method_4_code 192 = .ok (.iconst 0, 1) := by decide +kernel
theorem d2_193 : decode method_4_code 193 = .ok (.ireturn, 1) := by decide +kernel
theorem ef_2 (m : MethodId) (u0 : Int32) : entryFrame m #[(.int u0)] 1 = mkF m 0 #[.val (.int u0)] [] := by first | (simp [entryFrame, mkF, argsToLocals, Value.category]; done) | rfl
def R2 (u0 : Int32) : Int32 := (if (R3 u0 (160 : Int32) (55295 : Int32)) = (0 : Int32) then (if (R3 u0 (63744 : Int32) (64975 : Int32)) = (0 : Int32) then (if (R3 u0 (65008 : Int32) (65519 : Int32)) = (0 : Int32) then (if (R3 u0 (65536 : Int32) (131069 : Int32)) = (0 : Int32) then (if (R3 u0 (131072 : Int32) (196605 : Int32)) = (0 : Int32) then (if (R3 u0 (196608 : Int32) (262141 : Int32)) = (0 : Int32) then (if (R3 u0 (262144 : Int32) (327677 : Int32)) = (0 : Int32) then (if (R3 u0 (327680 : Int32) (393213 : Int32)) = (0 : Int32) then (if (R3 u0 (393216 : Int32) (458749 : Int32)) = (0 : Int32) then (if (R3 u0 (458752 : Int32) (524285 : Int32)) = (0 : Int32) then (if (R3 u0 (524288 : Int32) (589821 : Int32)) = (0 : Int32) then (if (R3 u0 (589824 : Int32) (655357 : Int32)) = (0 : Int32) then (if (R3 u0 (655360 : Int32) (720893 : Int32)) = (0 : Int32) then (if (R3 u0 (720896 : Int32) (786429 : Int32)) = (0 : Int32) then (if (R3 u0 (786432 : Int32) (851965 : Int32)) = (0 : Int32) then (if (R3 u0 (851968 : Int32) (917501 : Int32)) = (0 : Int32) then (if (R3 u0 (921600 : Int32) (983037 : Int32)) = (0 : Int32) then (0 : Int32) else (1 : Int32)) else (1 : Int32)) else (1 : Int32)) else (1 : Int32)) else (1 : Int32)) else (1 : Int32)) else (1 : Int32)) else (1 : Int32)) else (1 : Int32)) else (1 : Int32)) else (1 : Int32)) else (1 : Int32)) else (1 : Int32)) else (1 : Int32)) else (1 : Int32)) else (1 : Int32)) else (1 : Int32))
def Q2 (Z : State) (u0 : Int32) (h0 : Heap) (n0 : Nat) (v : Option Value) (h : Heap) (L : List Loc) : Prop := v = some (.int (R2 u0)) ∧ Fr n0 L ∧ h = h0
theorem pd_0 : parseMethodDescriptor "(III)Z" = some ⟨[.int, .int, .int], some .boolean⟩ := by decide +kernel
set_option maxRecDepth 65536 in
set_option maxHeartbeats 40000000 in
theorem rm2 (l : Launch) (Z : State) (a0 : Array Value) (hw : ∀ d ∈ tables_1, d.before a0 Z = true) (u0 : Int32) (h0 : Heap) (n0 : Nat) (Z0 : n0 ≤ h0.size) :
    own_C l Z (⟨"com/example/constraint/constraint/schema/UriReferenceIsUcsCharacterPinLaw", "ref", "(I)Z"⟩ : MethodName) method_4_code 1 (some .boolean) ({ frames := 1, cells := 0, slots := 0, locals := 14 } : Room) #[(.int u0)] h0 (Q2 Z u0 h0 n0) := by
  refine own_met (plainFor_of_name pn_1) ?_
  intro p e s m below meth c s₁ hx hby hml hret hlk hown hnm hZ X0 e0
  refine own_cast (ef_2 m u0) ?_
  have N0 := Fr.nil n0
  show own_Out p e below _ s₁ (mkF m 0 #[.val (.int u0)] []) _ _ _
  refine own_to (fun t k => XS.iloadN X0.here hx rfl (hb hby d2_0) rfl k) ?_
  show own_Out p e below _ s₁ (mkF m 1 #[.val (.int u0)] [(.int u0)]) _ _ _
  refine own_to (fun t k => XS.sipush X0.here hx rfl (hb hby d2_1) k) ?_
  show own_Out p e below _ s₁ (mkF m 4 #[.val (.int u0)] [(.int (160 : Int32)), (.int u0)]) _ _ _
  refine own_to (fun t k => X0.ldcI hx hown (mvT hZ (hw _ (List.mem_of_getElem? (i := 2) rfl))) rfl (hb hby d2_4) k) ?_
  show own_Out p e below _ s₁ (mkF m 6 #[.val (.int u0)] [(.int (55295 : Int32)), (.int (160 : Int32)), (.int u0)]) _ _ _
  refine own_callS X0 hx hZ hown (argsL := [(.int u0), (.int (160 : Int32)), (.int (55295 : Int32))]) (rest := []) (hw _ (List.mem_of_getElem? (i := 38) rfl)) (hw _ (List.mem_of_getElem? (i := 39) rfl)) (hw _ (List.mem_of_getElem? (i := 36) rfl)) (hw _ (List.mem_of_getElem? (i := 40) rfl)) (by decide) (rm3 l Z a0 hw u0 (160 : Int32) (55295 : Int32) h0 n0 Z0 ) (by decide) (by decide) e0 rfl (by rw [hml]; rfl) (lenOf pd_0 rfl) rfl (W := 0) (by show 2 * 0 + _ ≤ _; exact Nat.le_of_eq rfl) (hb hby d2_6) (by decide) (by decide) fun v1 T1 hh1 L1 X1 e1 hQ1 => ?_
  obtain ⟨rfl, NL1, he1⟩ := hQ1
  replace e1 := e1.trans he1
  have N1 := Fr.app N0 NL1
  show own_Out p e below _ T1 (mkF m 9 #[.val (.int u0)] [(.int (R3 u0 (160 : Int32) (55295 : Int32)))]) _ _ _
  by_cases hc9 : (R3 u0 (160 : Int32) (55295 : Int32)) = (0 : Int32)
  · refine own_to (fun t k => XS.ifNo X1.here hx rfl (hb hby d2_9) rfl ((if0 _ _).trans (teq hc9).2) k) ?_
    show own_Out p e below _ T1 (mkF m 12 #[.val (.int u0)] []) _ _ _
    refine own_to (fun t k => XS.iloadN X1.here hx rfl (hb hby d2_12) rfl k) ?_
    show own_Out p e below _ T1 (mkF m 13 #[.val (.int u0)] [(.int u0)]) _ _ _
    refine own_to (fun t k => X1.ldcI hx hown (mvT hZ (hw _ (List.mem_of_getElem? (i := 5) rfl))) rfl (hb hby d2_13) k) ?_
    show own_Out p e below _ T1 (mkF m 15 #[.val (.int u0)] [(.int (63744 : Int32)), (.int u0)]) _ _ _
    refine own_to (fun t k => X1.ldcI hx hown (mvT hZ (hw _ (List.mem_of_getElem? (i := 6) rfl))) rfl (hb hby d2_15) k) ?_
    show own_Out p e below _ T1 (mkF m 17 #[.val (.int u0)] [(.int (64975 : Int32)), (.int (63744 : Int32)), (.int u0)]) _ _ _
    refine own_callS X1 hx hZ hown (argsL := [(.int u0), (.int (63744 : Int32)), (.int (64975 : Int32))]) (rest := []) (hw _ (List.mem_of_getElem? (i := 38) rfl)) (hw _ (List.mem_of_getElem? (i := 39) rfl)) (hw _ (List.mem_of_getElem? (i := 36) rfl)) (hw _ (List.mem_of_getElem? (i := 40) rfl)) (by decide) (rm3 l Z a0 hw u0 (63744 : Int32) (64975 : Int32) h0 n0 Z0 ) (by decide) (by decide) e1 rfl (by rw [hml]; rfl) (lenOf pd_0 rfl) rfl (W := 0) (by show 2 * 0 + _ ≤ _; exact Nat.le_of_eq rfl) (hb hby d2_17) (by decide) (by decide) fun v2 T2 hh2 L2 X2 e2 hQ2 => ?_
    obtain ⟨rfl, NL2, he2⟩ := hQ2
    replace e2 := e2.trans he2
    have N2 := Fr.app N1 NL2
    show own_Out p e below _ T2 (mkF m 20 #[.val (.int u0)] [(.int (R3 u0 (63744 : Int32) (64975 : Int32)))]) _ _ _
    by_cases hc20 : (R3 u0 (63744 : Int32) (64975 : Int32)) = (0 : Int32)
    · refine own_to (fun t k => XS.ifNo X2.here hx rfl (hb hby d2_20) rfl ((if0 _ _).trans (teq hc20).2) k) ?_
      show own_Out p e below _ T2 (mkF m 23 #[.val (.int u0)] []) _ _ _
      refine own_to (fun t k => XS.iloadN X2.here hx rfl (hb hby d2_23) rfl k) ?_
      show own_Out p e below _ T2 (mkF m 24 #[.val (.int u0)] [(.int u0)]) _ _ _
      refine own_to (fun t k => X2.ldcI hx hown (mvT hZ (hw _ (List.mem_of_getElem? (i := 9) rfl))) rfl (hb hby d2_24) k) ?_
      show own_Out p e below _ T2 (mkF m 26 #[.val (.int u0)] [(.int (65008 : Int32)), (.int u0)]) _ _ _
      refine own_to (fun t k => X2.ldcI hx hown (mvT hZ (hw _ (List.mem_of_getElem? (i := 10) rfl))) rfl (hb hby d2_26) k) ?_
      show own_Out p e below _ T2 (mkF m 28 #[.val (.int u0)] [(.int (65519 : Int32)), (.int (65008 : Int32)), (.int u0)]) _ _ _
      refine own_callS X2 hx hZ hown (argsL := [(.int u0), (.int (65008 : Int32)), (.int (65519 : Int32))]) (rest := []) (hw _ (List.mem_of_getElem? (i := 38) rfl)) (hw _ (List.mem_of_getElem? (i := 39) rfl)) (hw _ (List.mem_of_getElem? (i := 36) rfl)) (hw _ (List.mem_of_getElem? (i := 40) rfl)) (by decide) (rm3 l Z a0 hw u0 (65008 : Int32) (65519 : Int32) h0 n0 Z0 ) (by decide) (by decide) e2 rfl (by rw [hml]; rfl) (lenOf pd_0 rfl) rfl (W := 0) (by show 2 * 0 + _ ≤ _; exact Nat.le_of_eq rfl) (hb hby d2_28) (by decide) (by decide) fun v3 T3 hh3 L3 X3 e3 hQ3 => ?_
      obtain ⟨rfl, NL3, he3⟩ := hQ3
      replace e3 := e3.trans he3
      have N3 := Fr.app N2 NL3
      show own_Out p e below _ T3 (mkF m 31 #[.val (.int u0)] [(.int (R3 u0 (65008 : Int32) (65519 : Int32)))]) _ _ _
      by_cases hc31 : (R3 u0 (65008 : Int32) (65519 : Int32)) = (0 : Int32)
      · refine own_to (fun t k => XS.ifNo X3.here hx rfl (hb hby d2_31) rfl ((if0 _ _).trans (teq hc31).2) k) ?_
        show own_Out p e below _ T3 (mkF m 34 #[.val (.int u0)] []) _ _ _
        refine own_to (fun t k => XS.iloadN X3.here hx rfl (hb hby d2_34) rfl k) ?_
        show own_Out p e below _ T3 (mkF m 35 #[.val (.int u0)] [(.int u0)]) _ _ _
        refine own_to (fun t k => X3.ldcI hx hown (mvT hZ (hw _ (List.mem_of_getElem? (i := 12) rfl))) rfl (hb hby d2_35) k) ?_
        show own_Out p e below _ T3 (mkF m 37 #[.val (.int u0)] [(.int (65536 : Int32)), (.int u0)]) _ _ _
        refine own_to (fun t k => X3.ldcI hx hown (mvT hZ (hw _ (List.mem_of_getElem? (i := 13) rfl))) rfl (hb hby d2_37) k) ?_
        show own_Out p e below _ T3 (mkF m 39 #[.val (.int u0)] [(.int (131069 : Int32)), (.int (65536 : Int32)), (.int u0)]) _ _ _
        refine own_callS X3 hx hZ hown (argsL := [(.int u0), (.int (65536 : Int32)), (.int (131069 : Int32))]) (rest := []) (hw _ (List.mem_of_getElem? (i := 38) rfl)) (hw _ (List.mem_of_getElem? (i := 39) rfl)) (hw _ (List.mem_of_getElem? (i := 36) rfl)) (hw _ (List.mem_of_getElem? (i := 40) rfl)) (by decide) (rm3 l Z a0 hw u0 (65536 : Int32) (131069 : Int32) h0 n0 Z0 ) (by decide) (by decide) e3 rfl (by rw [hml]; rfl) (lenOf pd_0 rfl) rfl (W := 0) (by show 2 * 0 + _ ≤ _; exact Nat.le_of_eq rfl) (hb hby d2_39) (by decide) (by decide) fun v4 T4 hh4 L4 X4 e4 hQ4 => ?_
        obtain ⟨rfl, NL4, he4⟩ := hQ4
        replace e4 := e4.trans he4
        have N4 := Fr.app N3 NL4
        show own_Out p e below _ T4 (mkF m 42 #[.val (.int u0)] [(.int (R3 u0 (65536 : Int32) (131069 : Int32)))]) _ _ _
        by_cases hc42 : (R3 u0 (65536 : Int32) (131069 : Int32)) = (0 : Int32)
        · refine own_to (fun t k => XS.ifNo X4.here hx rfl (hb hby d2_42) rfl ((if0 _ _).trans (teq hc42).2) k) ?_
          show own_Out p e below _ T4 (mkF m 45 #[.val (.int u0)] []) _ _ _
          refine own_to (fun t k => XS.iloadN X4.here hx rfl (hb hby d2_45) rfl k) ?_
          show own_Out p e below _ T4 (mkF m 46 #[.val (.int u0)] [(.int u0)]) _ _ _
          refine own_to (fun t k => X4.ldcI hx hown (mvT hZ (hw _ (List.mem_of_getElem? (i := 15) rfl))) rfl (hb hby d2_46) k) ?_
          show own_Out p e below _ T4 (mkF m 48 #[.val (.int u0)] [(.int (131072 : Int32)), (.int u0)]) _ _ _
          refine own_to (fun t k => X4.ldcI hx hown (mvT hZ (hw _ (List.mem_of_getElem? (i := 41) rfl))) rfl (hb hby d2_48) k) ?_
          show own_Out p e below _ T4 (mkF m 50 #[.val (.int u0)] [(.int (196605 : Int32)), (.int (131072 : Int32)), (.int u0)]) _ _ _
          refine own_callS X4 hx hZ hown (argsL := [(.int u0), (.int (131072 : Int32)), (.int (196605 : Int32))]) (rest := []) (hw _ (List.mem_of_getElem? (i := 38) rfl)) (hw _ (List.mem_of_getElem? (i := 39) rfl)) (hw _ (List.mem_of_getElem? (i := 36) rfl)) (hw _ (List.mem_of_getElem? (i := 40) rfl)) (by decide) (rm3 l Z a0 hw u0 (131072 : Int32) (196605 : Int32) h0 n0 Z0 ) (by decide) (by decide) e4 rfl (by rw [hml]; rfl) (lenOf pd_0 rfl) rfl (W := 0) (by show 2 * 0 + _ ≤ _; exact Nat.le_of_eq rfl) (hb hby d2_50) (by decide) (by decide) fun v5 T5 hh5 L5 X5 e5 hQ5 => ?_
          obtain ⟨rfl, NL5, he5⟩ := hQ5
          replace e5 := e5.trans he5
          have N5 := Fr.app N4 NL5
          show own_Out p e below _ T5 (mkF m 53 #[.val (.int u0)] [(.int (R3 u0 (131072 : Int32) (196605 : Int32)))]) _ _ _
          by_cases hc53 : (R3 u0 (131072 : Int32) (196605 : Int32)) = (0 : Int32)
          · refine own_to (fun t k => XS.ifNo X5.here hx rfl (hb hby d2_53) rfl ((if0 _ _).trans (teq hc53).2) k) ?_
            show own_Out p e below _ T5 (mkF m 56 #[.val (.int u0)] []) _ _ _
            refine own_to (fun t k => XS.iloadN X5.here hx rfl (hb hby d2_56) rfl k) ?_
            show own_Out p e below _ T5 (mkF m 57 #[.val (.int u0)] [(.int u0)]) _ _ _
            refine own_to (fun t k => X5.ldcI hx hown (mvT hZ (hw _ (List.mem_of_getElem? (i := 42) rfl))) rfl (hb hby d2_57) k) ?_
            show own_Out p e below _ T5 (mkF m 59 #[.val (.int u0)] [(.int (196608 : Int32)), (.int u0)]) _ _ _
            refine own_to (fun t k => X5.ldcI hx hown (mvT hZ (hw _ (List.mem_of_getElem? (i := 43) rfl))) rfl (hb hby d2_59) k) ?_
            show own_Out p e below _ T5 (mkF m 61 #[.val (.int u0)] [(.int (262141 : Int32)), (.int (196608 : Int32)), (.int u0)]) _ _ _
            refine own_callS X5 hx hZ hown (argsL := [(.int u0), (.int (196608 : Int32)), (.int (262141 : Int32))]) (rest := []) (hw _ (List.mem_of_getElem? (i := 38) rfl)) (hw _ (List.mem_of_getElem? (i := 39) rfl)) (hw _ (List.mem_of_getElem? (i := 36) rfl)) (hw _ (List.mem_of_getElem? (i := 40) rfl)) (by decide) (rm3 l Z a0 hw u0 (196608 : Int32) (262141 : Int32) h0 n0 Z0 ) (by decide) (by decide) e5 rfl (by rw [hml]; rfl) (lenOf pd_0 rfl) rfl (W := 0) (by show 2 * 0 + _ ≤ _; exact Nat.le_of_eq rfl) (hb hby d2_61) (by decide) (by decide) fun v6 T6 hh6 L6 X6 e6 hQ6 => ?_
            obtain ⟨rfl, NL6, he6⟩ := hQ6
            replace e6 := e6.trans he6
            have N6 := Fr.app N5 NL6
            show own_Out p e below _ T6 (mkF m 64 #[.val (.int u0)] [(.int (R3 u0 (196608 : Int32) (262141 : Int32)))]) _ _ _
            by_cases hc64 : (R3 u0 (196608 : Int32) (262141 : Int32)) = (0 : Int32)
            · refine own_to (fun t k => XS.ifNo X6.here hx rfl (hb hby d2_64) rfl ((if0 _ _).trans (teq hc64).2) k) ?_
              show own_Out p e below _ T6 (mkF m 67 #[.val (.int u0)] []) _ _ _
              refine own_to (fun t k => XS.iloadN X6.here hx rfl (hb hby d2_67) rfl k) ?_
              show own_Out p e below _ T6 (mkF m 68 #[.val (.int u0)] [(.int u0)]) _ _ _
              refine own_to (fun t k => X6.ldcI hx hown (mvT hZ (hw _ (List.mem_of_getElem? (i := 44) rfl))) rfl (hb hby d2_68) k) ?_
              show own_Out p e below _ T6 (mkF m 70 #[.val (.int u0)] [(.int (262144 : Int32)), (.int u0)]) _ _ _
              refine own_to (fun t k => X6.ldcI hx hown (mvT hZ (hw _ (List.mem_of_getElem? (i := 45) rfl))) rfl (hb hby d2_70) k) ?_
              show own_Out p e below _ T6 (mkF m 72 #[.val (.int u0)] [(.int (327677 : Int32)), (.int (262144 : Int32)), (.int u0)]) _ _ _
              refine own_callS X6 hx hZ hown (argsL := [(.int u0), (.int (262144 : Int32)), (.int (327677 : Int32))]) (rest := []) (hw _ (List.mem_of_getElem? (i := 38) rfl)) (hw _ (List.mem_of_getElem? (i := 39) rfl)) (hw _ (List.mem_of_getElem? (i := 36) rfl)) (hw _ (List.mem_of_getElem? (i := 40) rfl)) (by decide) (rm3 l Z a0 hw u0 (262144 : Int32) (327677 : Int32) h0 n0 Z0 ) (by decide) (by decide) e6 rfl (by rw [hml]; rfl) (lenOf pd_0 rfl) rfl (W := 0) (by show 2 * 0 + _ ≤ _; exact Nat.le_of_eq rfl) (hb hby d2_72) (by decide) (by decide) fun v7 T7 hh7 L7 X7 e7 hQ7 => ?_
              obtain ⟨rfl, NL7, he7⟩ := hQ7
              replace e7 := e7.trans he7
              have N7 := Fr.app N6 NL7
              show own_Out p e below _ T7 (mkF m 75 #[.val (.int u0)] [(.int (R3 u0 (262144 : Int32) (327677 : Int32)))]) _ _ _
              by_cases hc75 : (R3 u0 (262144 : Int32) (327677 : Int32)) = (0 : Int32)
              · refine own_to (fun t k => XS.ifNo X7.here hx rfl (hb hby d2_75) rfl ((if0 _ _).trans (teq hc75).2) k) ?_
                show own_Out p e below _ T7 (mkF m 78 #[.val (.int u0)] []) _ _ _
                refine own_to (fun t k => XS.iloadN X7.here hx rfl (hb hby d2_78) rfl k) ?_
                show own_Out p e below _ T7 (mkF m 79 #[.val (.int u0)] [(.int u0)]) _ _ _
                refine own_to (fun t k => X7.ldcI hx hown (mvT hZ (hw _ (List.mem_of_getElem? (i := 46) rfl))) rfl (hb hby d2_79) k) ?_
                show own_Out p e below _ T7 (mkF m 81 #[.val (.int u0)] [(.int (327680 : Int32)), (.int u0)]) _ _ _
                refine own_to (fun t k => X7.ldcI hx hown (mvT hZ (hw _ (List.mem_of_getElem? (i := 47) rfl))) rfl (hb hby d2_81) k) ?_
                show own_Out p e below _ T7 (mkF m 83 #[.val (.int u0)] [(.int (393213 : Int32)), (.int (327680 : Int32)), (.int u0)]) _ _ _
                refine own_callS X7 hx hZ hown (argsL := [(.int u0), (.int (327680 : Int32)), (.int (393213 : Int32))]) (rest := []) (hw _ (List.mem_of_getElem? (i := 38) rfl)) (hw _ (List.mem_of_getElem? (i := 39) rfl)) (hw _ (List.mem_of_getElem? (i := 36) rfl)) (hw _ (List.mem_of_getElem? (i := 40) rfl)) (by decide) (rm3 l Z a0 hw u0 (327680 : Int32) (393213 : Int32) h0 n0 Z0 ) (by decide) (by decide) e7 rfl (by rw [hml]; rfl) (lenOf pd_0 rfl) rfl (W := 0) (by show 2 * 0 + _ ≤ _; exact Nat.le_of_eq rfl) (hb hby d2_83) (by decide) (by decide) fun v8 T8 hh8 L8 X8 e8 hQ8 => ?_
                obtain ⟨rfl, NL8, he8⟩ := hQ8
                replace e8 := e8.trans he8
                have N8 := Fr.app N7 NL8
                show own_Out p e below _ T8 (mkF m 86 #[.val (.int u0)] [(.int (R3 u0 (327680 : Int32) (393213 : Int32)))]) _ _ _
                by_cases hc86 : (R3 u0 (327680 : Int32) (393213 : Int32)) = (0 : Int32)
                · refine own_to (fun t k => XS.ifNo X8.here hx rfl (hb hby d2_86) rfl ((if0 _ _).trans (teq hc86).2) k) ?_
                  show own_Out p e below _ T8 (mkF m 89 #[.val (.int u0)] []) _ _ _
                  refine own_to (fun t k => XS.iloadN X8.here hx rfl (hb hby d2_89) rfl k) ?_
                  show own_Out p e below _ T8 (mkF m 90 #[.val (.int u0)] [(.int u0)]) _ _ _
                  refine own_to (fun t k => X8.ldcI hx hown (mvT hZ (hw _ (List.mem_of_getElem? (i := 48) rfl))) rfl (hb hby d2_90) k) ?_
                  show own_Out p e below _ T8 (mkF m 92 #[.val (.int u0)] [(.int (393216 : Int32)), (.int u0)]) _ _ _
                  refine own_to (fun t k => X8.ldcI hx hown (mvT hZ (hw _ (List.mem_of_getElem? (i := 49) rfl))) rfl (hb hby d2_92) k) ?_
                  show own_Out p e below _ T8 (mkF m 94 #[.val (.int u0)] [(.int (458749 : Int32)), (.int (393216 : Int32)), (.int u0)]) _ _ _
                  refine own_callS X8 hx hZ hown (argsL := [(.int u0), (.int (393216 : Int32)), (.int (458749 : Int32))]) (rest := []) (hw _ (List.mem_of_getElem? (i := 38) rfl)) (hw _ (List.mem_of_getElem? (i := 39) rfl)) (hw _ (List.mem_of_getElem? (i := 36) rfl)) (hw _ (List.mem_of_getElem? (i := 40) rfl)) (by decide) (rm3 l Z a0 hw u0 (393216 : Int32) (458749 : Int32) h0 n0 Z0 ) (by decide) (by decide) e8 rfl (by rw [hml]; rfl) (lenOf pd_0 rfl) rfl (W := 0) (by show 2 * 0 + _ ≤ _; exact Nat.le_of_eq rfl) (hb hby d2_94) (by decide) (by decide) fun v9 T9 hh9 L9 X9 e9 hQ9 => ?_
                  obtain ⟨rfl, NL9, he9⟩ := hQ9
                  replace e9 := e9.trans he9
                  have N9 := Fr.app N8 NL9
                  show own_Out p e below _ T9 (mkF m 97 #[.val (.int u0)] [(.int (R3 u0 (393216 : Int32) (458749 : Int32)))]) _ _ _
                  by_cases hc97 : (R3 u0 (393216 : Int32) (458749 : Int32)) = (0 : Int32)
                  · refine own_to (fun t k => XS.ifNo X9.here hx rfl (hb hby d2_97) rfl ((if0 _ _).trans (teq hc97).2) k) ?_
                    show own_Out p e below _ T9 (mkF m 100 #[.val (.int u0)] []) _ _ _
                    refine own_to (fun t k => XS.iloadN X9.here hx rfl (hb hby d2_100) rfl k) ?_
                    show own_Out p e below _ T9 (mkF m 101 #[.val (.int u0)] [(.int u0)]) _ _ _
                    refine own_to (fun t k => X9.ldcI hx hown (mvT hZ (hw _ (List.mem_of_getElem? (i := 50) rfl))) rfl (hb hby d2_101) k) ?_
                    show own_Out p e below _ T9 (mkF m 103 #[.val (.int u0)] [(.int (458752 : Int32)), (.int u0)]) _ _ _
                    refine own_to (fun t k => X9.ldcI hx hown (mvT hZ (hw _ (List.mem_of_getElem? (i := 51) rfl))) rfl (hb hby d2_103) k) ?_
                    show own_Out p e below _ T9 (mkF m 105 #[.val (.int u0)] [(.int (524285 : Int32)), (.int (458752 : Int32)), (.int u0)]) _ _ _
                    refine own_callS X9 hx hZ hown (argsL := [(.int u0), (.int (458752 : Int32)), (.int (524285 : Int32))]) (rest := []) (hw _ (List.mem_of_getElem? (i := 38) rfl)) (hw _ (List.mem_of_getElem? (i := 39) rfl)) (hw _ (List.mem_of_getElem? (i := 36) rfl)) (hw _ (List.mem_of_getElem? (i := 40) rfl)) (by decide) (rm3 l Z a0 hw u0 (458752 : Int32) (524285 : Int32) h0 n0 Z0 ) (by decide) (by decide) e9 rfl (by rw [hml]; rfl) (lenOf pd_0 rfl) rfl (W := 0) (by show 2 * 0 + _ ≤ _; exact Nat.le_of_eq rfl) (hb hby d2_105) (by decide) (by decide) fun v10 T10 hh10 L10 X10 e10 hQ10 => ?_
                    obtain ⟨rfl, NL10, he10⟩ := hQ10
                    replace e10 := e10.trans he10
                    have N10 := Fr.app N9 NL10
                    show own_Out p e below _ T10 (mkF m 108 #[.val (.int u0)] [(.int (R3 u0 (458752 : Int32) (524285 : Int32)))]) _ _ _
                    by_cases hc108 : (R3 u0 (458752 : Int32) (524285 : Int32)) = (0 : Int32)
                    · refine own_to (fun t k => XS.ifNo X10.here hx rfl (hb hby d2_108) rfl ((if0 _ _).trans (teq hc108).2) k) ?_
                      show own_Out p e below _ T10 (mkF m 111 #[.val (.int u0)] []) _ _ _
                      refine own_to (fun t k => XS.iloadN X10.here hx rfl (hb hby d2_111) rfl k) ?_
                      show own_Out p e below _ T10 (mkF m 112 #[.val (.int u0)] [(.int u0)]) _ _ _
                      refine own_to (fun t k => X10.ldcI hx hown (mvT hZ (hw _ (List.mem_of_getElem? (i := 52) rfl))) rfl (hb hby d2_112) k) ?_
                      show own_Out p e below _ T10 (mkF m 114 #[.val (.int u0)] [(.int (524288 : Int32)), (.int u0)]) _ _ _
                      refine own_to (fun t k => X10.ldcI hx hown (mvT hZ (hw _ (List.mem_of_getElem? (i := 53) rfl))) rfl (hb hby d2_114) k) ?_
                      show own_Out p e below _ T10 (mkF m 116 #[.val (.int u0)] [(.int (589821 : Int32)), (.int (524288 : Int32)), (.int u0)]) _ _ _
                      refine own_callS X10 hx hZ hown (argsL := [(.int u0), (.int (524288 : Int32)), (.int (589821 : Int32))]) (rest := []) (hw _ (List.mem_of_getElem? (i := 38) rfl)) (hw _ (List.mem_of_getElem? (i := 39) rfl)) (hw _ (List.mem_of_getElem? (i := 36) rfl)) (hw _ (List.mem_of_getElem? (i := 40) rfl)) (by decide) (rm3 l Z a0 hw u0 (524288 : Int32) (589821 : Int32) h0 n0 Z0 ) (by decide) (by decide) e10 rfl (by rw [hml]; rfl) (lenOf pd_0 rfl) rfl (W := 0) (by show 2 * 0 + _ ≤ _; exact Nat.le_of_eq rfl) (hb hby d2_116) (by decide) (by decide) fun v11 T11 hh11 L11 X11 e11 hQ11 => ?_
                      obtain ⟨rfl, NL11, he11⟩ := hQ11
                      replace e11 := e11.trans he11
                      have N11 := Fr.app N10 NL11
                      show own_Out p e below _ T11 (mkF m 119 #[.val (.int u0)] [(.int (R3 u0 (524288 : Int32) (589821 : Int32)))]) _ _ _
                      by_cases hc119 : (R3 u0 (524288 : Int32) (589821 : Int32)) = (0 : Int32)
                      · refine own_to (fun t k => XS.ifNo X11.here hx rfl (hb hby d2_119) rfl ((if0 _ _).trans (teq hc119).2) k) ?_
                        show own_Out p e below _ T11 (mkF m 122 #[.val (.int u0)] []) _ _ _
                        refine own_to (fun t k => XS.iloadN X11.here hx rfl (hb hby d2_122) rfl k) ?_
                        show own_Out p e below _ T11 (mkF m 123 #[.val (.int u0)] [(.int u0)]) _ _ _
                        refine own_to (fun t k => X11.ldcI hx hown (mvT hZ (hw _ (List.mem_of_getElem? (i := 54) rfl))) rfl (hb hby d2_123) k) ?_
                        show own_Out p e below _ T11 (mkF m 125 #[.val (.int u0)] [(.int (589824 : Int32)), (.int u0)]) _ _ _
                        refine own_to (fun t k => X11.ldcI hx hown (mvT hZ (hw _ (List.mem_of_getElem? (i := 55) rfl))) rfl (hb hby d2_125) k) ?_
                        show own_Out p e below _ T11 (mkF m 127 #[.val (.int u0)] [(.int (655357 : Int32)), (.int (589824 : Int32)), (.int u0)]) _ _ _
                        refine own_callS X11 hx hZ hown (argsL := [(.int u0), (.int (589824 : Int32)), (.int (655357 : Int32))]) (rest := []) (hw _ (List.mem_of_getElem? (i := 38) rfl)) (hw _ (List.mem_of_getElem? (i := 39) rfl)) (hw _ (List.mem_of_getElem? (i := 36) rfl)) (hw _ (List.mem_of_getElem? (i := 40) rfl)) (by decide) (rm3 l Z a0 hw u0 (589824 : Int32) (655357 : Int32) h0 n0 Z0 ) (by decide) (by decide) e11 rfl (by rw [hml]; rfl) (lenOf pd_0 rfl) rfl (W := 0) (by show 2 * 0 + _ ≤ _; exact Nat.le_of_eq rfl) (hb hby d2_127) (by decide) (by decide) fun v12 T12 hh12 L12 X12 e12 hQ12 => ?_
                        obtain ⟨rfl, NL12, he12⟩ := hQ12
                        replace e12 := e12.trans he12
                        have N12 := Fr.app N11 NL12
                        show own_Out p e below _ T12 (mkF m 130 #[.val (.int u0)] [(.int (R3 u0 (589824 : Int32) (655357 : Int32)))]) _ _ _
                        by_cases hc130 : (R3 u0 (589824 : Int32) (655357 : Int32)) = (0 : Int32)
                        · refine own_to (fun t k => XS.ifNo X12.here hx rfl (hb hby d2_130) rfl ((if0 _ _).trans (teq hc130).2) k) ?_
                          show own_Out p e below _ T12 (mkF m 133 #[.val (.int u0)] []) _ _ _
                          refine own_to (fun t k => XS.iloadN X12.here hx rfl (hb hby d2_133) rfl k) ?_
                          show own_Out p e below _ T12 (mkF m 134 #[.val (.int u0)] [(.int u0)]) _ _ _
                          refine own_to (fun t k => X12.ldcI hx hown (mvT hZ (hw _ (List.mem_of_getElem? (i := 56) rfl))) rfl (hb hby d2_134) k) ?_
                          show own_Out p e below _ T12 (mkF m 136 #[.val (.int u0)] [(.int (655360 : Int32)), (.int u0)]) _ _ _
                          refine own_to (fun t k => X12.ldcI hx hown (mvT hZ (hw _ (List.mem_of_getElem? (i := 57) rfl))) rfl (hb hby d2_136) k) ?_
                          show own_Out p e below _ T12 (mkF m 138 #[.val (.int u0)] [(.int (720893 : Int32)), (.int (655360 : Int32)), (.int u0)]) _ _ _
                          refine own_callS X12 hx hZ hown (argsL := [(.int u0), (.int (655360 : Int32)), (.int (720893 : Int32))]) (rest := []) (hw _ (List.mem_of_getElem? (i := 38) rfl)) (hw _ (List.mem_of_getElem? (i := 39) rfl)) (hw _ (List.mem_of_getElem? (i := 36) rfl)) (hw _ (List.mem_of_getElem? (i := 40) rfl)) (by decide) (rm3 l Z a0 hw u0 (655360 : Int32) (720893 : Int32) h0 n0 Z0 ) (by decide) (by decide) e12 rfl (by rw [hml]; rfl) (lenOf pd_0 rfl) rfl (W := 0) (by show 2 * 0 + _ ≤ _; exact Nat.le_of_eq rfl) (hb hby d2_138) (by decide) (by decide) fun v13 T13 hh13 L13 X13 e13 hQ13 => ?_
                          obtain ⟨rfl, NL13, he13⟩ := hQ13
                          replace e13 := e13.trans he13
                          have N13 := Fr.app N12 NL13
                          show own_Out p e below _ T13 (mkF m 141 #[.val (.int u0)] [(.int (R3 u0 (655360 : Int32) (720893 : Int32)))]) _ _ _
                          by_cases hc141 : (R3 u0 (655360 : Int32) (720893 : Int32)) = (0 : Int32)
                          · refine own_to (fun t k => XS.ifNo X13.here hx rfl (hb hby d2_141) rfl ((if0 _ _).trans (teq hc141).2) k) ?_
                            show own_Out p e below _ T13 (mkF m 144 #[.val (.int u0)] []) _ _ _
                            refine own_to (fun t k => XS.iloadN X13.here hx rfl (hb hby d2_144) rfl k) ?_
                            show own_Out p e below _ T13 (mkF m 145 #[.val (.int u0)] [(.int u0)]) _ _ _
                            refine own_to (fun t k => X13.ldcI hx hown (mvT hZ (hw _ (List.mem_of_getElem? (i := 58) rfl))) rfl (hb hby d2_145) k) ?_
                            show own_Out p e below _ T13 (mkF m 147 #[.val (.int u0)] [(.int (720896 : Int32)), (.int u0)]) _ _ _
                            refine own_to (fun t k => X13.ldcI hx hown (mvT hZ (hw _ (List.mem_of_getElem? (i := 59) rfl))) rfl (hb hby d2_147) k) ?_
                            show own_Out p e below _ T13 (mkF m 149 #[.val (.int u0)] [(.int (786429 : Int32)), (.int (720896 : Int32)), (.int u0)]) _ _ _
                            refine own_callS X13 hx hZ hown (argsL := [(.int u0), (.int (720896 : Int32)), (.int (786429 : Int32))]) (rest := []) (hw _ (List.mem_of_getElem? (i := 38) rfl)) (hw _ (List.mem_of_getElem? (i := 39) rfl)) (hw _ (List.mem_of_getElem? (i := 36) rfl)) (hw _ (List.mem_of_getElem? (i := 40) rfl)) (by decide) (rm3 l Z a0 hw u0 (720896 : Int32) (786429 : Int32) h0 n0 Z0 ) (by decide) (by decide) e13 rfl (by rw [hml]; rfl) (lenOf pd_0 rfl) rfl (W := 0) (by show 2 * 0 + _ ≤ _; exact Nat.le_of_eq rfl) (hb hby d2_149) (by decide) (by decide) fun v14 T14 hh14 L14 X14 e14 hQ14 => ?_
                            obtain ⟨rfl, NL14, he14⟩ := hQ14
                            replace e14 := e14.trans he14
                            have N14 := Fr.app N13 NL14
                            show own_Out p e below _ T14 (mkF m 152 #[.val (.int u0)] [(.int (R3 u0 (720896 : Int32) (786429 : Int32)))]) _ _ _
                            by_cases hc152 : (R3 u0 (720896 : Int32) (786429 : Int32)) = (0 : Int32)
                            · refine own_to (fun t k => XS.ifNo X14.here hx rfl (hb hby d2_152) rfl ((if0 _ _).trans (teq hc152).2) k) ?_
                              show own_Out p e below _ T14 (mkF m 155 #[.val (.int u0)] []) _ _ _
                              refine own_to (fun t k => XS.iloadN X14.here hx rfl (hb hby d2_155) rfl k) ?_
                              show own_Out p e below _ T14 (mkF m 156 #[.val (.int u0)] [(.int u0)]) _ _ _
                              refine own_to (fun t k => X14.ldcI hx hown (mvT hZ (hw _ (List.mem_of_getElem? (i := 60) rfl))) rfl (hb hby d2_156) k) ?_
                              show own_Out p e below _ T14 (mkF m 158 #[.val (.int u0)] [(.int (786432 : Int32)), (.int u0)]) _ _ _
                              refine own_to (fun t k => X14.ldcI hx hown (mvT hZ (hw _ (List.mem_of_getElem? (i := 61) rfl))) rfl (hb hby d2_158) k) ?_
                              show own_Out p e below _ T14 (mkF m 160 #[.val (.int u0)] [(.int (851965 : Int32)), (.int (786432 : Int32)), (.int u0)]) _ _ _
                              refine own_callS X14 hx hZ hown (argsL := [(.int u0), (.int (786432 : Int32)), (.int (851965 : Int32))]) (rest := []) (hw _ (List.mem_of_getElem? (i := 38) rfl)) (hw _ (List.mem_of_getElem? (i := 39) rfl)) (hw _ (List.mem_of_getElem? (i := 36) rfl)) (hw _ (List.mem_of_getElem? (i := 40) rfl)) (by decide) (rm3 l Z a0 hw u0 (786432 : Int32) (851965 : Int32) h0 n0 Z0 ) (by decide) (by decide) e14 rfl (by rw [hml]; rfl) (lenOf pd_0 rfl) rfl (W := 0) (by show 2 * 0 + _ ≤ _; exact Nat.le_of_eq rfl) (hb hby d2_160) (by decide) (by decide) fun v15 T15 hh15 L15 X15 e15 hQ15 => ?_
                              obtain ⟨rfl, NL15, he15⟩ := hQ15
                              replace e15 := e15.trans he15
                              have N15 := Fr.app N14 NL15
                              show own_Out p e below _ T15 (mkF m 163 #[.val (.int u0)] [(.int (R3 u0 (786432 : Int32) (851965 : Int32)))]) _ _ _
                              by_cases hc163 : (R3 u0 (786432 : Int32) (851965 : Int32)) = (0 : Int32)
                              · refine own_to (fun t k => XS.ifNo X15.here hx rfl (hb hby d2_163) rfl ((if0 _ _).trans (teq hc163).2) k) ?_
                                show own_Out p e below _ T15 (mkF m 166 #[.val (.int u0)] []) _ _ _
                                refine own_to (fun t k => XS.iloadN X15.here hx rfl (hb hby d2_166) rfl k) ?_
                                show own_Out p e below _ T15 (mkF m 167 #[.val (.int u0)] [(.int u0)]) _ _ _
                                refine own_to (fun t k => X15.ldcI hx hown (mvT hZ (hw _ (List.mem_of_getElem? (i := 62) rfl))) rfl (hb hby d2_167) k) ?_
                                show own_Out p e below _ T15 (mkF m 169 #[.val (.int u0)] [(.int (851968 : Int32)), (.int u0)]) _ _ _
                                refine own_to (fun t k => X15.ldcI hx hown (mvT hZ (hw _ (List.mem_of_getElem? (i := 16) rfl))) rfl (hb hby d2_169) k) ?_
                                show own_Out p e below _ T15 (mkF m 171 #[.val (.int u0)] [(.int (917501 : Int32)), (.int (851968 : Int32)), (.int u0)]) _ _ _
                                refine own_callS X15 hx hZ hown (argsL := [(.int u0), (.int (851968 : Int32)), (.int (917501 : Int32))]) (rest := []) (hw _ (List.mem_of_getElem? (i := 38) rfl)) (hw _ (List.mem_of_getElem? (i := 39) rfl)) (hw _ (List.mem_of_getElem? (i := 36) rfl)) (hw _ (List.mem_of_getElem? (i := 40) rfl)) (by decide) (rm3 l Z a0 hw u0 (851968 : Int32) (917501 : Int32) h0 n0 Z0 ) (by decide) (by decide) e15 rfl (by rw [hml]; rfl) (lenOf pd_0 rfl) rfl (W := 0) (by show 2 * 0 + _ ≤ _; exact Nat.le_of_eq rfl) (hb hby d2_171) (by decide) (by decide) fun v16 T16 hh16 L16 X16 e16 hQ16 => ?_
                                obtain ⟨rfl, NL16, he16⟩ := hQ16
                                replace e16 := e16.trans he16
                                have N16 := Fr.app N15 NL16
                                show own_Out p e below _ T16 (mkF m 174 #[.val (.int u0)] [(.int (R3 u0 (851968 : Int32) (917501 : Int32)))]) _ _ _
                                by_cases hc174 : (R3 u0 (851968 : Int32) (917501 : Int32)) = (0 : Int32)
                                · refine own_to (fun t k => XS.ifNo X16.here hx rfl (hb hby d2_174) rfl ((if0 _ _).trans (teq hc174).2) k) ?_
                                  show own_Out p e below _ T16 (mkF m 177 #[.val (.int u0)] []) _ _ _
                                  refine own_to (fun t k => XS.iloadN X16.here hx rfl (hb hby d2_177) rfl k) ?_
                                  show own_Out p e below _ T16 (mkF m 178 #[.val (.int u0)] [(.int u0)]) _ _ _
                                  refine own_to (fun t k => X16.ldcI hx hown (mvT hZ (hw _ (List.mem_of_getElem? (i := 19) rfl))) rfl (hb hby d2_178) k) ?_
                                  show own_Out p e below _ T16 (mkF m 180 #[.val (.int u0)] [(.int (921600 : Int32)), (.int u0)]) _ _ _
                                  refine own_to (fun t k => X16.ldcI hx hown (mvT hZ (hw _ (List.mem_of_getElem? (i := 20) rfl))) rfl (hb hby d2_180) k) ?_
                                  show own_Out p e below _ T16 (mkF m 182 #[.val (.int u0)] [(.int (983037 : Int32)), (.int (921600 : Int32)), (.int u0)]) _ _ _
                                  refine own_callS X16 hx hZ hown (argsL := [(.int u0), (.int (921600 : Int32)), (.int (983037 : Int32))]) (rest := []) (hw _ (List.mem_of_getElem? (i := 38) rfl)) (hw _ (List.mem_of_getElem? (i := 39) rfl)) (hw _ (List.mem_of_getElem? (i := 36) rfl)) (hw _ (List.mem_of_getElem? (i := 40) rfl)) (by decide) (rm3 l Z a0 hw u0 (921600 : Int32) (983037 : Int32) h0 n0 Z0 ) (by decide) (by decide) e16 rfl (by rw [hml]; rfl) (lenOf pd_0 rfl) rfl (W := 0) (by show 2 * 0 + _ ≤ _; exact Nat.le_of_eq rfl) (hb hby d2_182) (by decide) (by decide) fun v17 T17 hh17 L17 X17 e17 hQ17 => ?_
                                  obtain ⟨rfl, NL17, he17⟩ := hQ17
                                  replace e17 := e17.trans he17
                                  have N17 := Fr.app N16 NL17
                                  show own_Out p e below _ T17 (mkF m 185 #[.val (.int u0)] [(.int (R3 u0 (921600 : Int32) (983037 : Int32)))]) _ _ _
                                  by_cases hc185 : (R3 u0 (921600 : Int32) (983037 : Int32)) = (0 : Int32)
                                  · refine own_to (fun t k => XS.ifYes X17.here hx rfl (pc0 := 185) (pc' := 192) rfl (hb hby d2_185) rfl ((if0 _ _).trans (teq hc185).1) (by decide) (by decide) k) ?_
                                    show own_Out p e below _ T17 (mkF m 192 #[.val (.int u0)] []) _ _ _
                                    refine own_to (fun t k => XS.iconst X17.here hx rfl (hb hby d2_192) k) ?_
                                    show own_Out p e below _ T17 (mkF m 193 #[.val (.int u0)] [(.int (0 : Int32))]) _ _ _
                                    refine own_retV X17 hx hlk (w := .int (0 : Int32)) hret rfl (Or.inl ⟨rfl, by simp, _, rfl⟩) (hb hby d2_193) (by decide) (by decide) ?_
                                    rw [e17]
                                    exact ⟨(by unfold R2; rw [if_pos hc9, if_pos hc20, if_pos hc31, if_pos hc42, if_pos hc53, if_pos hc64, if_pos hc75, if_pos hc86, if_pos hc97, if_pos hc108, if_pos hc119, if_pos hc130, if_pos hc141, if_pos hc152, if_pos hc163, if_pos hc174, if_pos hc185]), N17, rfl⟩
                                  · refine own_to (fun t k => XS.ifNo X17.here hx rfl (hb hby d2_185) rfl ((if0 _ _).trans (feq hc185).1) k) ?_
                                    show own_Out p e below _ T17 (mkF m 188 #[.val (.int u0)] []) _ _ _
                                    refine own_to (fun t k => XS.iconst X17.here hx rfl (hb hby d2_188) k) ?_
                                    show own_Out p e below _ T17 (mkF m 189 #[.val (.int u0)] [(.int (1 : Int32))]) _ _ _
                                    refine own_to (fun t k => XS.goto X17.here hx rfl (pc0 := 189) (pc' := 193) rfl (hb hby d2_189) (by decide) (by decide) k) ?_
                                    show own_Out p e below _ T17 (mkF m 193 #[.val (.int u0)] [(.int (1 : Int32))]) _ _ _
                                    refine own_retV X17 hx hlk (w := .int (1 : Int32)) hret rfl (Or.inl ⟨rfl, by simp, _, rfl⟩) (hb hby d2_193) (by decide) (by decide) ?_
                                    rw [e17]
                                    exact ⟨(by unfold R2; rw [if_pos hc9, if_pos hc20, if_pos hc31, if_pos hc42, if_pos hc53, if_pos hc64, if_pos hc75, if_pos hc86, if_pos hc97, if_pos hc108, if_pos hc119, if_pos hc130, if_pos hc141, if_pos hc152, if_pos hc163, if_pos hc174, if_neg hc185]), N17, rfl⟩
                                · refine own_to (fun t k => XS.ifYes X16.here hx rfl (pc0 := 174) (pc' := 188) rfl (hb hby d2_174) rfl ((if0 _ _).trans (feq hc174).2) (by decide) (by decide) k) ?_
                                  show own_Out p e below _ T16 (mkF m 188 #[.val (.int u0)] []) _ _ _
                                  refine own_to (fun t k => XS.iconst X16.here hx rfl (hb hby d2_188) k) ?_
                                  show own_Out p e below _ T16 (mkF m 189 #[.val (.int u0)] [(.int (1 : Int32))]) _ _ _
                                  refine own_to (fun t k => XS.goto X16.here hx rfl (pc0 := 189) (pc' := 193) rfl (hb hby d2_189) (by decide) (by decide) k) ?_
                                  show own_Out p e below _ T16 (mkF m 193 #[.val (.int u0)] [(.int (1 : Int32))]) _ _ _
                                  refine own_retV X16 hx hlk (w := .int (1 : Int32)) hret rfl (Or.inl ⟨rfl, by simp, _, rfl⟩) (hb hby d2_193) (by decide) (by decide) ?_
                                  rw [e16]
                                  exact ⟨(by unfold R2; rw [if_pos hc9, if_pos hc20, if_pos hc31, if_pos hc42, if_pos hc53, if_pos hc64, if_pos hc75, if_pos hc86, if_pos hc97, if_pos hc108, if_pos hc119, if_pos hc130, if_pos hc141, if_pos hc152, if_pos hc163, if_neg hc174]), N16, rfl⟩
                              · refine own_to (fun t k => XS.ifYes X15.here hx rfl (pc0 := 163) (pc' := 188) rfl (hb hby d2_163) rfl ((if0 _ _).trans (feq hc163).2) (by decide) (by decide) k) ?_
                                show own_Out p e below _ T15 (mkF m 188 #[.val (.int u0)] []) _ _ _
                                refine own_to (fun t k => XS.iconst X15.here hx rfl (hb hby d2_188) k) ?_
                                show own_Out p e below _ T15 (mkF m 189 #[.val (.int u0)] [(.int (1 : Int32))]) _ _ _
                                refine own_to (fun t k => XS.goto X15.here hx rfl (pc0 := 189) (pc' := 193) rfl (hb hby d2_189) (by decide) (by decide) k) ?_
                                show own_Out p e below _ T15 (mkF m 193 #[.val (.int u0)] [(.int (1 : Int32))]) _ _ _
                                refine own_retV X15 hx hlk (w := .int (1 : Int32)) hret rfl (Or.inl ⟨rfl, by simp, _, rfl⟩) (hb hby d2_193) (by decide) (by decide) ?_
                                rw [e15]
                                exact ⟨(by unfold R2; rw [if_pos hc9, if_pos hc20, if_pos hc31, if_pos hc42, if_pos hc53, if_pos hc64, if_pos hc75, if_pos hc86, if_pos hc97, if_pos hc108, if_pos hc119, if_pos hc130, if_pos hc141, if_pos hc152, if_neg hc163]), N15, rfl⟩
                            · refine own_to (fun t k => XS.ifYes X14.here hx rfl (pc0 := 152) (pc' := 188) rfl (hb hby d2_152) rfl ((if0 _ _).trans (feq hc152).2) (by decide) (by decide) k) ?_
                              show own_Out p e below _ T14 (mkF m 188 #[.val (.int u0)] []) _ _ _
                              refine own_to (fun t k => XS.iconst X14.here hx rfl (hb hby d2_188) k) ?_
                              show own_Out p e below _ T14 (mkF m 189 #[.val (.int u0)] [(.int (1 : Int32))]) _ _ _
                              refine own_to (fun t k => XS.goto X14.here hx rfl (pc0 := 189) (pc' := 193) rfl (hb hby d2_189) (by decide) (by decide) k) ?_
                              show own_Out p e below _ T14 (mkF m 193 #[.val (.int u0)] [(.int (1 : Int32))]) _ _ _
                              refine own_retV X14 hx hlk (w := .int (1 : Int32)) hret rfl (Or.inl ⟨rfl, by simp, _, rfl⟩) (hb hby d2_193) (by decide) (by decide) ?_
                              rw [e14]
                              exact ⟨(by unfold R2; rw [if_pos hc9, if_pos hc20, if_pos hc31, if_pos hc42, if_pos hc53, if_pos hc64, if_pos hc75, if_pos hc86, if_pos hc97, if_pos hc108, if_pos hc119, if_pos hc130, if_pos hc141, if_neg hc152]), N14, rfl⟩
                          · refine own_to (fun t k => XS.ifYes X13.here hx rfl (pc0 := 141) (pc' := 188) rfl (hb hby d2_141) rfl ((if0 _ _).trans (feq hc141).2) (by decide) (by decide) k) ?_
                            show own_Out p e below _ T13 (mkF m 188 #[.val (.int u0)] []) _ _ _
                            refine own_to (fun t k => XS.iconst X13.here hx rfl (hb hby d2_188) k) ?_
                            show own_Out p e below _ T13 (mkF m 189 #[.val (.int u0)] [(.int (1 : Int32))]) _ _ _
                            refine own_to (fun t k => XS.goto X13.here hx rfl (pc0 := 189) (pc' := 193) rfl (hb hby d2_189) (by decide) (by decide) k) ?_
                            show own_Out p e below _ T13 (mkF m 193 #[.val (.int u0)] [(.int (1 : Int32))]) _ _ _
                            refine own_retV X13 hx hlk (w := .int (1 : Int32)) hret rfl (Or.inl ⟨rfl, by simp, _, rfl⟩) (hb hby d2_193) (by decide) (by decide) ?_
                            rw [e13]
                            exact ⟨(by unfold R2; rw [if_pos hc9, if_pos hc20, if_pos hc31, if_pos hc42, if_pos hc53, if_pos hc64, if_pos hc75, if_pos hc86, if_pos hc97, if_pos hc108, if_pos hc119, if_pos hc130, if_neg hc141]), N13, rfl⟩
                        · refine own_to (fun t k => XS.ifYes X12.here hx rfl (pc0 := 130) (pc' := 188) rfl (hb hby d2_130) rfl ((if0 _ _).trans (feq hc130).2) (by decide) (by decide) k) ?_
                          show own_Out p e below _ T12 (mkF m 188 #[.val (.int u0)] []) _ _ _
                          refine own_to (fun t k => XS.iconst X12.here hx rfl (hb hby d2_188) k) ?_
                          show own_Out p e below _ T12 (mkF m 189 #[.val (.int u0)] [(.int (1 : Int32))]) _ _ _
                          refine own_to (fun t k => XS.goto X12.here hx rfl (pc0 := 189) (pc' := 193) rfl (hb hby d2_189) (by decide) (by decide) k) ?_
                          show own_Out p e below _ T12 (mkF m 193 #[.val (.int u0)] [(.int (1 : Int32))]) _ _ _
                          refine own_retV X12 hx hlk (w := .int (1 : Int32)) hret rfl (Or.inl ⟨rfl, by simp, _, rfl⟩) (hb hby d2_193) (by decide) (by decide) ?_
                          rw [e12]
                          exact ⟨(by unfold R2; rw [if_pos hc9, if_pos hc20, if_pos hc31, if_pos hc42, if_pos hc53, if_pos hc64, if_pos hc75, if_pos hc86, if_pos hc97, if_pos hc108, if_pos hc119, if_neg hc130]), N12, rfl⟩
                      · refine own_to (fun t k => XS.ifYes X11.here hx rfl (pc0 := 119) (pc' := 188) rfl (hb hby d2_119) rfl ((if0 _ _).trans (feq hc119).2) (by decide) (by decide) k) ?_
                        show own_Out p e below _ T11 (mkF m 188 #[.val (.int u0)] []) _ _ _
                        refine own_to (fun t k => XS.iconst X11.here hx rfl (hb hby d2_188) k) ?_
                        show own_Out p e below _ T11 (mkF m 189 #[.val (.int u0)] [(.int (1 : Int32))]) _ _ _
                        refine own_to (fun t k => XS.goto X11.here hx rfl (pc0 := 189) (pc' := 193) rfl (hb hby d2_189) (by decide) (by decide) k) ?_
                        show own_Out p e below _ T11 (mkF m 193 #[.val (.int u0)] [(.int (1 : Int32))]) _ _ _
                        refine own_retV X11 hx hlk (w := .int (1 : Int32)) hret rfl (Or.inl ⟨rfl, by simp, _, rfl⟩) (hb hby d2_193) (by decide) (by decide) ?_
                        rw [e11]
                        exact ⟨(by unfold R2; rw [if_pos hc9, if_pos hc20, if_pos hc31, if_pos hc42, if_pos hc53, if_pos hc64, if_pos hc75, if_pos hc86, if_pos hc97, if_pos hc108, if_neg hc119]), N11, rfl⟩
                    · refine own_to (fun t k => XS.ifYes X10.here hx rfl (pc0 := 108) (pc' := 188) rfl (hb hby d2_108) rfl ((if0 _ _).trans (feq hc108).2) (by decide) (by decide) k) ?_
                      show own_Out p e below _ T10 (mkF m 188 #[.val (.int u0)] []) _ _ _
                      refine own_to (fun t k => XS.iconst X10.here hx rfl (hb hby d2_188) k) ?_
                      show own_Out p e below _ T10 (mkF m 189 #[.val (.int u0)] [(.int (1 : Int32))]) _ _ _
                      refine own_to (fun t k => XS.goto X10.here hx rfl (pc0 := 189) (pc' := 193) rfl (hb hby d2_189) (by decide) (by decide) k) ?_
                      show own_Out p e below _ T10 (mkF m 193 #[.val (.int u0)] [(.int (1 : Int32))]) _ _ _
                      refine own_retV X10 hx hlk (w := .int (1 : Int32)) hret rfl (Or.inl ⟨rfl, by simp, _, rfl⟩) (hb hby d2_193) (by decide) (by decide) ?_
                      rw [e10]
                      exact ⟨(by unfold R2; rw [if_pos hc9, if_pos hc20, if_pos hc31, if_pos hc42, if_pos hc53, if_pos hc64, if_pos hc75, if_pos hc86, if_pos hc97, if_neg hc108]), N10, rfl⟩
                  · refine own_to (fun t k => XS.ifYes X9.here hx rfl (pc0 := 97) (pc' := 188) rfl (hb hby d2_97) rfl ((if0 _ _).trans (feq hc97).2) (by decide) (by decide) k) ?_
                    show own_Out p e below _ T9 (mkF m 188 #[.val (.int u0)] []) _ _ _
                    refine own_to (fun t k => XS.iconst X9.here hx rfl (hb hby d2_188) k) ?_
                    show own_Out p e below _ T9 (mkF m 189 #[.val (.int u0)] [(.int (1 : Int32))]) _ _ _
                    refine own_to (fun t k => XS.goto X9.here hx rfl (pc0 := 189) (pc' := 193) rfl (hb hby d2_189) (by decide) (by decide) k) ?_
                    show own_Out p e below _ T9 (mkF m 193 #[.val (.int u0)] [(.int (1 : Int32))]) _ _ _
                    refine own_retV X9 hx hlk (w := .int (1 : Int32)) hret rfl (Or.inl ⟨rfl, by simp, _, rfl⟩) (hb hby d2_193) (by decide) (by decide) ?_
                    rw [e9]
                    exact ⟨(by unfold R2; rw [if_pos hc9, if_pos hc20, if_pos hc31, if_pos hc42, if_pos hc53, if_pos hc64, if_pos hc75, if_pos hc86, if_neg hc97]), N9, rfl⟩
                · refine own_to (fun t k => XS.ifYes X8.here hx rfl (pc0 := 86) (pc' := 188) rfl (hb hby d2_86) rfl ((if0 _ _).trans (feq hc86).2) (by decide) (by decide) k) ?_
                  show own_Out p e below _ T8 (mkF m 188 #[.val (.int u0)] []) _ _ _
                  refine own_to (fun t k => XS.iconst X8.here hx rfl (hb hby d2_188) k) ?_
                  show own_Out p e below _ T8 (mkF m 189 #[.val (.int u0)] [(.int (1 : Int32))]) _ _ _
                  refine own_to (fun t k => XS.goto X8.here hx rfl (pc0 := 189) (pc' := 193) rfl (hb hby d2_189) (by decide) (by decide) k) ?_
                  show own_Out p e below _ T8 (mkF m 193 #[.val (.int u0)] [(.int (1 : Int32))]) _ _ _
                  refine own_retV X8 hx hlk (w := .int (1 : Int32)) hret rfl (Or.inl ⟨rfl, by simp, _, rfl⟩) (hb hby d2_193) (by decide) (by decide) ?_
                  rw [e8]
                  exact ⟨(by unfold R2; rw [if_pos hc9, if_pos hc20, if_pos hc31, if_pos hc42, if_pos hc53, if_pos hc64, if_pos hc75, if_neg hc86]), N8, rfl⟩
              · refine own_to (fun t k => XS.ifYes X7.here hx rfl (pc0 := 75) (pc' := 188) rfl (hb hby d2_75) rfl ((if0 _ _).trans (feq hc75).2) (by decide) (by decide) k) ?_
                show own_Out p e below _ T7 (mkF m 188 #[.val (.int u0)] []) _ _ _
                refine own_to (fun t k => XS.iconst X7.here hx rfl (hb hby d2_188) k) ?_
                show own_Out p e below _ T7 (mkF m 189 #[.val (.int u0)] [(.int (1 : Int32))]) _ _ _
                refine own_to (fun t k => XS.goto X7.here hx rfl (pc0 := 189) (pc' := 193) rfl (hb hby d2_189) (by decide) (by decide) k) ?_
                show own_Out p e below _ T7 (mkF m 193 #[.val (.int u0)] [(.int (1 : Int32))]) _ _ _
                refine own_retV X7 hx hlk (w := .int (1 : Int32)) hret rfl (Or.inl ⟨rfl, by simp, _, rfl⟩) (hb hby d2_193) (by decide) (by decide) ?_
                rw [e7]
                exact ⟨(by unfold R2; rw [if_pos hc9, if_pos hc20, if_pos hc31, if_pos hc42, if_pos hc53, if_pos hc64, if_neg hc75]), N7, rfl⟩
            · refine own_to (fun t k => XS.ifYes X6.here hx rfl (pc0 := 64) (pc' := 188) rfl (hb hby d2_64) rfl ((if0 _ _).trans (feq hc64).2) (by decide) (by decide) k) ?_
              show own_Out p e below _ T6 (mkF m 188 #[.val (.int u0)] []) _ _ _
              refine own_to (fun t k => XS.iconst X6.here hx rfl (hb hby d2_188) k) ?_
              show own_Out p e below _ T6 (mkF m 189 #[.val (.int u0)] [(.int (1 : Int32))]) _ _ _
              refine own_to (fun t k => XS.goto X6.here hx rfl (pc0 := 189) (pc' := 193) rfl (hb hby d2_189) (by decide) (by decide) k) ?_
              show own_Out p e below _ T6 (mkF m 193 #[.val (.int u0)] [(.int (1 : Int32))]) _ _ _
              refine own_retV X6 hx hlk (w := .int (1 : Int32)) hret rfl (Or.inl ⟨rfl, by simp, _, rfl⟩) (hb hby d2_193) (by decide) (by decide) ?_
              rw [e6]
              exact ⟨(by unfold R2; rw [if_pos hc9, if_pos hc20, if_pos hc31, if_pos hc42, if_pos hc53, if_neg hc64]), N6, rfl⟩
          · refine own_to (fun t k => XS.ifYes X5.here hx rfl (pc0 := 53) (pc' := 188) rfl (hb hby d2_53) rfl ((if0 _ _).trans (feq hc53).2) (by decide) (by decide) k) ?_
            show own_Out p e below _ T5 (mkF m 188 #[.val (.int u0)] []) _ _ _
            refine own_to (fun t k => XS.iconst X5.here hx rfl (hb hby d2_188) k) ?_
            show own_Out p e below _ T5 (mkF m 189 #[.val (.int u0)] [(.int (1 : Int32))]) _ _ _
            refine own_to (fun t k => XS.goto X5.here hx rfl (pc0 := 189) (pc' := 193) rfl (hb hby d2_189) (by decide) (by decide) k) ?_
            show own_Out p e below _ T5 (mkF m 193 #[.val (.int u0)] [(.int (1 : Int32))]) _ _ _
            refine own_retV X5 hx hlk (w := .int (1 : Int32)) hret rfl (Or.inl ⟨rfl, by simp, _, rfl⟩) (hb hby d2_193) (by decide) (by decide) ?_
            rw [e5]
            exact ⟨(by unfold R2; rw [if_pos hc9, if_pos hc20, if_pos hc31, if_pos hc42, if_neg hc53]), N5, rfl⟩
        · refine own_to (fun t k => XS.ifYes X4.here hx rfl (pc0 := 42) (pc' := 188) rfl (hb hby d2_42) rfl ((if0 _ _).trans (feq hc42).2) (by decide) (by decide) k) ?_
          show own_Out p e below _ T4 (mkF m 188 #[.val (.int u0)] []) _ _ _
          refine own_to (fun t k => XS.iconst X4.here hx rfl (hb hby d2_188) k) ?_
          show own_Out p e below _ T4 (mkF m 189 #[.val (.int u0)] [(.int (1 : Int32))]) _ _ _
          refine own_to (fun t k => XS.goto X4.here hx rfl (pc0 := 189) (pc' := 193) rfl (hb hby d2_189) (by decide) (by decide) k) ?_
          show own_Out p e below _ T4 (mkF m 193 #[.val (.int u0)] [(.int (1 : Int32))]) _ _ _
          refine own_retV X4 hx hlk (w := .int (1 : Int32)) hret rfl (Or.inl ⟨rfl, by simp, _, rfl⟩) (hb hby d2_193) (by decide) (by decide) ?_
          rw [e4]
          exact ⟨(by unfold R2; rw [if_pos hc9, if_pos hc20, if_pos hc31, if_neg hc42]), N4, rfl⟩
      · refine own_to (fun t k => XS.ifYes X3.here hx rfl (pc0 := 31) (pc' := 188) rfl (hb hby d2_31) rfl ((if0 _ _).trans (feq hc31).2) (by decide) (by decide) k) ?_
        show own_Out p e below _ T3 (mkF m 188 #[.val (.int u0)] []) _ _ _
        refine own_to (fun t k => XS.iconst X3.here hx rfl (hb hby d2_188) k) ?_
        show own_Out p e below _ T3 (mkF m 189 #[.val (.int u0)] [(.int (1 : Int32))]) _ _ _
        refine own_to (fun t k => XS.goto X3.here hx rfl (pc0 := 189) (pc' := 193) rfl (hb hby d2_189) (by decide) (by decide) k) ?_
        show own_Out p e below _ T3 (mkF m 193 #[.val (.int u0)] [(.int (1 : Int32))]) _ _ _
        refine own_retV X3 hx hlk (w := .int (1 : Int32)) hret rfl (Or.inl ⟨rfl, by simp, _, rfl⟩) (hb hby d2_193) (by decide) (by decide) ?_
        rw [e3]
        exact ⟨(by unfold R2; rw [if_pos hc9, if_pos hc20, if_neg hc31]), N3, rfl⟩
    · refine own_to (fun t k => XS.ifYes X2.here hx rfl (pc0 := 20) (pc' := 188) rfl (hb hby d2_20) rfl ((if0 _ _).trans (feq hc20).2) (by decide) (by decide) k) ?_
      show own_Out p e below _ T2 (mkF m 188 #[.val (.int u0)] []) _ _ _
      refine own_to (fun t k => XS.iconst X2.here hx rfl (hb hby d2_188) k) ?_
      show own_Out p e below _ T2 (mkF m 189 #[.val (.int u0)] [(.int (1 : Int32))]) _ _ _
      refine own_to (fun t k => XS.goto X2.here hx rfl (pc0 := 189) (pc' := 193) rfl (hb hby d2_189) (by decide) (by decide) k) ?_
      show own_Out p e below _ T2 (mkF m 193 #[.val (.int u0)] [(.int (1 : Int32))]) _ _ _
      refine own_retV X2 hx hlk (w := .int (1 : Int32)) hret rfl (Or.inl ⟨rfl, by simp, _, rfl⟩) (hb hby d2_193) (by decide) (by decide) ?_
      rw [e2]
      exact ⟨(by unfold R2; rw [if_pos hc9, if_neg hc20]), N2, rfl⟩
  · refine own_to (fun t k => XS.ifYes X1.here hx rfl (pc0 := 9) (pc' := 188) rfl (hb hby d2_9) rfl ((if0 _ _).trans (feq hc9).2) (by decide) (by decide) k) ?_
    show own_Out p e below _ T1 (mkF m 188 #[.val (.int u0)] []) _ _ _
    refine own_to (fun t k => XS.iconst X1.here hx rfl (hb hby d2_188) k) ?_
    show own_Out p e below _ T1 (mkF m 189 #[.val (.int u0)] [(.int (1 : Int32))]) _ _ _
    refine own_to (fun t k => XS.goto X1.here hx rfl (pc0 := 189) (pc' := 193) rfl (hb hby d2_189) (by decide) (by decide) k) ?_
    show own_Out p e below _ T1 (mkF m 193 #[.val (.int u0)] [(.int (1 : Int32))]) _ _ _
    refine own_retV X1 hx hlk (w := .int (1 : Int32)) hret rfl (Or.inl ⟨rfl, by simp, _, rfl⟩) (hb hby d2_193) (by decide) (by decide) ?_
    rw [e1]
    exact ⟨(by unfold R2; rw [if_neg hc9]), N1, rfl⟩
def own_P (z : Int) : Prop := (160 ≤ z ∧ z ≤ 55295) ∨ (63744 ≤ z ∧ z ≤ 64975) ∨ (65008 ≤ z ∧ z ≤ 65519) ∨ (65536 ≤ z ∧ z ≤ 131069) ∨ (131072 ≤ z ∧ z ≤ 196605) ∨ (196608 ≤ z ∧ z ≤ 262141) ∨ (262144 ≤ z ∧ z ≤ 327677) ∨ (327680 ≤ z ∧ z ≤ 393213) ∨ (393216 ≤ z ∧ z ≤ 458749) ∨ (458752 ≤ z ∧ z ≤ 524285) ∨ (524288 ≤ z ∧ z ≤ 589821) ∨ (589824 ≤ z ∧ z ≤ 655357) ∨ (655360 ≤ z ∧ z ≤ 720893) ∨ (720896 ≤ z ∧ z ≤ 786429) ∨ (786432 ≤ z ∧ z ≤ 851965) ∨ (851968 ≤ z ∧ z ≤ 917501) ∨ (921600 ≤ z ∧ z ≤ 983037)
theorem own_in0 (u a b : Int32) : (R3 u a b = 0) ↔ (u.toInt < a.toInt ∨ b.toInt < u.toInt) := by
  unfold R3
  simp only [Int32.lt_iff_toInt_lt]
  constructor
  · intro q
    split at q
    · omega
    · split at q
      · omega
      · exact absurd q (by decide)
  · intro q
    split
    · rfl
    · split
      · rfl
      · omega
set_option maxRecDepth 65536 in
set_option maxHeartbeats 40000000 in
theorem own_refP (u : Int32) : (own_P u.toInt → R2 u = 1) ∧ (¬ own_P u.toInt → R2 u = 0) := by
  have k160 : (160 : Int32).toInt = 160 := by decide
  have k55295 : (55295 : Int32).toInt = 55295 := by decide
  have k63744 : (63744 : Int32).toInt = 63744 := by decide
  have k64975 : (64975 : Int32).toInt = 64975 := by decide
  have k65008 : (65008 : Int32).toInt = 65008 := by decide
  have k65519 : (65519 : Int32).toInt = 65519 := by decide
  have k65533 : (65533 : Int32).toInt = 65533 := by decide
  have k65536 : (65536 : Int32).toInt = 65536 := by decide
  have k131069 : (131069 : Int32).toInt = 131069 := by decide
  have k131072 : (131072 : Int32).toInt = 131072 := by decide
  have k196605 : (196605 : Int32).toInt = 196605 := by decide
  have k196608 : (196608 : Int32).toInt = 196608 := by decide
  have k262141 : (262141 : Int32).toInt = 262141 := by decide
  have k262144 : (262144 : Int32).toInt = 262144 := by decide
  have k327677 : (327677 : Int32).toInt = 327677 := by decide
  have k327680 : (327680 : Int32).toInt = 327680 := by decide
  have k393213 : (393213 : Int32).toInt = 393213 := by decide
  have k393216 : (393216 : Int32).toInt = 393216 := by decide
  have k458749 : (458749 : Int32).toInt = 458749 := by decide
  have k458752 : (458752 : Int32).toInt = 458752 := by decide
  have k524285 : (524285 : Int32).toInt = 524285 := by decide
  have k524288 : (524288 : Int32).toInt = 524288 := by decide
  have k589821 : (589821 : Int32).toInt = 589821 := by decide
  have k589824 : (589824 : Int32).toInt = 589824 := by decide
  have k655357 : (655357 : Int32).toInt = 655357 := by decide
  have k655360 : (655360 : Int32).toInt = 655360 := by decide
  have k720893 : (720893 : Int32).toInt = 720893 := by decide
  have k720896 : (720896 : Int32).toInt = 720896 := by decide
  have k786429 : (786429 : Int32).toInt = 786429 := by decide
  have k786432 : (786432 : Int32).toInt = 786432 := by decide
  have k851965 : (851965 : Int32).toInt = 851965 := by decide
  have k851968 : (851968 : Int32).toInt = 851968 := by decide
  have k917501 : (917501 : Int32).toInt = 917501 := by decide
  have k917504 : (917504 : Int32).toInt = 917504 := by decide
  have k921600 : (921600 : Int32).toInt = 921600 := by decide
  have k983037 : (983037 : Int32).toInt = 983037 := by decide
  have k983040 : (983040 : Int32).toInt = 983040 := by decide
  simp only [R2, own_in0, k160, k55295, k63744, k64975, k65008, k65519, k65533, k65536, k131069, k131072, k196605, k196608, k262141, k262144, k327677, k327680, k393213, k393216, k458749, k458752, k524285, k524288, k589821, k589824, k655357, k655360, k720893, k720896, k786429, k786432, k851965, k851968, k917501, k917504, k921600, k983037, k983040]
  generalize u.toInt = z
  unfold own_P
  constructor
  · intro q
    rcases q with q | q | q | q | q | q | q | q | q | q | q | q | q | q | q | q | q
    · rw [if_neg (by omega)]
    · rw [if_pos (by omega), if_neg (by omega)]
    · rw [if_pos (by omega), if_pos (by omega), if_neg (by omega)]
    · rw [if_pos (by omega), if_pos (by omega), if_pos (by omega), if_neg (by omega)]
    · rw [if_pos (by omega), if_pos (by omega), if_pos (by omega), if_pos (by omega), if_neg (by omega)]
    · rw [if_pos (by omega), if_pos (by omega), if_pos (by omega), if_pos (by omega), if_pos (by omega), if_neg (by omega)]
    · rw [if_pos (by omega), if_pos (by omega), if_pos (by omega), if_pos (by omega), if_pos (by omega), if_pos (by omega), if_neg (by omega)]
    · rw [if_pos (by omega), if_pos (by omega), if_pos (by omega), if_pos (by omega), if_pos (by omega), if_pos (by omega), if_pos (by omega), if_neg (by omega)]
    · rw [if_pos (by omega), if_pos (by omega), if_pos (by omega), if_pos (by omega), if_pos (by omega), if_pos (by omega), if_pos (by omega), if_pos (by omega), if_neg (by omega)]
    · rw [if_pos (by omega), if_pos (by omega), if_pos (by omega), if_pos (by omega), if_pos (by omega), if_pos (by omega), if_pos (by omega), if_pos (by omega), if_pos (by omega), if_neg (by omega)]
    · rw [if_pos (by omega), if_pos (by omega), if_pos (by omega), if_pos (by omega), if_pos (by omega), if_pos (by omega), if_pos (by omega), if_pos (by omega), if_pos (by omega), if_pos (by omega), if_neg (by omega)]
    · rw [if_pos (by omega), if_pos (by omega), if_pos (by omega), if_pos (by omega), if_pos (by omega), if_pos (by omega), if_pos (by omega), if_pos (by omega), if_pos (by omega), if_pos (by omega), if_pos (by omega), if_neg (by omega)]
    · rw [if_pos (by omega), if_pos (by omega), if_pos (by omega), if_pos (by omega), if_pos (by omega), if_pos (by omega), if_pos (by omega), if_pos (by omega), if_pos (by omega), if_pos (by omega), if_pos (by omega), if_pos (by omega), if_neg (by omega)]
    · rw [if_pos (by omega), if_pos (by omega), if_pos (by omega), if_pos (by omega), if_pos (by omega), if_pos (by omega), if_pos (by omega), if_pos (by omega), if_pos (by omega), if_pos (by omega), if_pos (by omega), if_pos (by omega), if_pos (by omega), if_neg (by omega)]
    · rw [if_pos (by omega), if_pos (by omega), if_pos (by omega), if_pos (by omega), if_pos (by omega), if_pos (by omega), if_pos (by omega), if_pos (by omega), if_pos (by omega), if_pos (by omega), if_pos (by omega), if_pos (by omega), if_pos (by omega), if_pos (by omega), if_neg (by omega)]
    · rw [if_pos (by omega), if_pos (by omega), if_pos (by omega), if_pos (by omega), if_pos (by omega), if_pos (by omega), if_pos (by omega), if_pos (by omega), if_pos (by omega), if_pos (by omega), if_pos (by omega), if_pos (by omega), if_pos (by omega), if_pos (by omega), if_pos (by omega), if_neg (by omega)]
    · rw [if_pos (by omega), if_pos (by omega), if_pos (by omega), if_pos (by omega), if_pos (by omega), if_pos (by omega), if_pos (by omega), if_pos (by omega), if_pos (by omega), if_pos (by omega), if_pos (by omega), if_pos (by omega), if_pos (by omega), if_pos (by omega), if_pos (by omega), if_pos (by omega), if_neg (by omega)]
  · intro q
    rw [if_pos (by omega), if_pos (by omega), if_pos (by omega), if_pos (by omega), if_pos (by omega), if_pos (by omega), if_pos (by omega), if_pos (by omega), if_pos (by omega), if_pos (by omega), if_pos (by omega), if_pos (by omega), if_pos (by omega), if_pos (by omega), if_pos (by omega), if_pos (by omega), if_pos (by omega)]
set_option maxRecDepth 65536 in
set_option maxHeartbeats 40000000 in
theorem own_ucP (u : Int32) : (own_P u.toInt → R1 u = 1) ∧ (¬ own_P u.toInt → R1 u = 0) := by
  have m := c_mask u 65535 16 (by decide) (by decide)
  have k160 : (160 : Int32).toInt = 160 := by decide
  have k55295 : (55295 : Int32).toInt = 55295 := by decide
  have k63744 : (63744 : Int32).toInt = 63744 := by decide
  have k64975 : (64975 : Int32).toInt = 64975 := by decide
  have k65008 : (65008 : Int32).toInt = 65008 := by decide
  have k65519 : (65519 : Int32).toInt = 65519 := by decide
  have k65533 : (65533 : Int32).toInt = 65533 := by decide
  have k65536 : (65536 : Int32).toInt = 65536 := by decide
  have k131069 : (131069 : Int32).toInt = 131069 := by decide
  have k131072 : (131072 : Int32).toInt = 131072 := by decide
  have k196605 : (196605 : Int32).toInt = 196605 := by decide
  have k196608 : (196608 : Int32).toInt = 196608 := by decide
  have k262141 : (262141 : Int32).toInt = 262141 := by decide
  have k262144 : (262144 : Int32).toInt = 262144 := by decide
  have k327677 : (327677 : Int32).toInt = 327677 := by decide
  have k327680 : (327680 : Int32).toInt = 327680 := by decide
  have k393213 : (393213 : Int32).toInt = 393213 := by decide
  have k393216 : (393216 : Int32).toInt = 393216 := by decide
  have k458749 : (458749 : Int32).toInt = 458749 := by decide
  have k458752 : (458752 : Int32).toInt = 458752 := by decide
  have k524285 : (524285 : Int32).toInt = 524285 := by decide
  have k524288 : (524288 : Int32).toInt = 524288 := by decide
  have k589821 : (589821 : Int32).toInt = 589821 := by decide
  have k589824 : (589824 : Int32).toInt = 589824 := by decide
  have k655357 : (655357 : Int32).toInt = 655357 := by decide
  have k655360 : (655360 : Int32).toInt = 655360 := by decide
  have k720893 : (720893 : Int32).toInt = 720893 := by decide
  have k720896 : (720896 : Int32).toInt = 720896 := by decide
  have k786429 : (786429 : Int32).toInt = 786429 := by decide
  have k786432 : (786432 : Int32).toInt = 786432 := by decide
  have k851965 : (851965 : Int32).toInt = 851965 := by decide
  have k851968 : (851968 : Int32).toInt = 851968 := by decide
  have k917501 : (917501 : Int32).toInt = 917501 := by decide
  have k917504 : (917504 : Int32).toInt = 917504 := by decide
  have k921600 : (921600 : Int32).toInt = 921600 := by decide
  have k983037 : (983037 : Int32).toInt = 983037 := by decide
  have k983040 : (983040 : Int32).toInt = 983040 := by decide
  simp only [R1, Int32.lt_iff_toInt_lt, m, k160, k55295, k63744, k64975, k65008, k65519, k65533, k65536, k131069, k131072, k196605, k196608, k262141, k262144, k327677, k327680, k393213, k393216, k458749, k458752, k524285, k524288, k589821, k589824, k655357, k655360, k720893, k720896, k786429, k786432, k851965, k851968, k917501, k917504, k921600, k983037, k983040]
  generalize u.toInt = z
  unfold own_P
  constructor
  · intro q
    (repeat' split) <;> first | rfl | (exfalso; omega)
  · intro q
    (repeat' split) <;> first | rfl | (exfalso; omega)
theorem own_eq (u : Int32) : R1 u = R2 u := by
  by_cases h : own_P u.toInt
  · rw [(own_ucP u).1 h, (own_refP u).1 h]
  · rw [(own_ucP u).2 h, (own_refP u).2 h]
theorem ef_0 (m : MethodId) (x0 : Int32) (x1 : Int32) (x2 : Int32) (x3 : Int32) (x4 : Int32) : entryFrame m #[(.int x0), (.int x1), (.int x2), (.int x3), (.int x4)] maxLocals = mkF m 0 #[.val (.int x0), .val (.int x1), .val (.int x2), .val (.int x3), .val (.int x4), .unset, .unset, .unset] [] := by first | (simp [entryFrame, mkF, argsToLocals, Value.category, maxLocals]; done) | rfl
def Q0 (Z : State) (x0 : Int32) (x1 : Int32) (x2 : Int32) (x3 : Int32) (x4 : Int32) (h0 : Heap) (n0 : Nat) (v : Option Value) (h : Heap) (L : List Loc) : Prop := v = some (.int (1 : Int32)) ∧ Fr n0 L
theorem pd_1 : parseMethodDescriptor "(I)Z" = some ⟨[.int], some .boolean⟩ := by decide +kernel
set_option maxRecDepth 65536 in
set_option maxHeartbeats 40000000 in
theorem rm0 (l : Launch) (Z : State) (a0 : Array Value) (hw : ∀ d ∈ tables_1, d.before a0 Z = true) (x0 : Int32) (x1 : Int32) (x2 : Int32) (x3 : Int32) (x4 : Int32) (h0 : Heap) (n0 : Nat) (Z0 : n0 ≤ h0.size) :
    own_C l Z x code maxLocals ret room_1 #[(.int x0), (.int x1), (.int x2), (.int x3), (.int x4)] h0 (Q0 Z x0 x1 x2 x3 x4 h0 n0) := by
  refine own_met (plainFor_of_name pn_1) ?_
  intro p e s m below meth c s₁ hx hby hml hret hlk hown hnm hZ X0 e0
  refine own_cast (ef_0 m x0 x1 x2 x3 x4) ?_
  have N0 := Fr.nil n0
  show own_Out p e below _ s₁ (mkF m 0 #[.val (.int x0), .val (.int x1), .val (.int x2), .val (.int x3), .val (.int x4), .unset, .unset, .unset] []) _ _ _
  refine own_to (fun t k => XS.iloadN X0.here hx rfl (hb hby at_0) rfl k) ?_
  show own_Out p e below _ s₁ (mkF m 1 #[.val (.int x0), .val (.int x1), .val (.int x2), .val (.int x3), .val (.int x4), .unset, .unset, .unset] [(.int x1)]) _ _ _
  refine own_to (fun t k => XS.bipush X0.here hx rfl (hb hby at_1) k) ?_
  show own_Out p e below _ s₁ (mkF m 3 #[.val (.int x0), .val (.int x1), .val (.int x2), .val (.int x3), .val (.int x4), .unset, .unset, .unset] [(.int (31 : Int32)), (.int x1)]) _ _ _
  refine own_to (fun t k => XS.iand X0.here hx rfl (hb hby at_3) rfl k) ?_
  show own_Out p e below _ s₁ (mkF m 4 #[.val (.int x0), .val (.int x1), .val (.int x2), .val (.int x3), .val (.int x4), .unset, .unset, .unset] [(.int (x1 &&& (31 : Int32)))]) _ _ _
  refine own_to (fun t k => XS.bipush X0.here hx rfl (hb hby at_4) k) ?_
  show own_Out p e below _ s₁ (mkF m 6 #[.val (.int x0), .val (.int x1), .val (.int x2), .val (.int x3), .val (.int x4), .unset, .unset, .unset] [(.int (16 : Int32)), (.int (x1 &&& (31 : Int32)))]) _ _ _
  refine own_to (fun t k => XS.ishl X0.here hx rfl (hb hby at_6) rfl k) ?_
  show own_Out p e below _ s₁ (mkF m 7 #[.val (.int x0), .val (.int x1), .val (.int x2), .val (.int x3), .val (.int x4), .unset, .unset, .unset] [(.int ((x1 &&& (31 : Int32)) <<< ((16 : Int32) &&& 31)))]) _ _ _
  refine own_to (fun t k => XS.iloadN X0.here hx rfl (hb hby at_7) rfl k) ?_
  show own_Out p e below _ s₁ (mkF m 8 #[.val (.int x0), .val (.int x1), .val (.int x2), .val (.int x3), .val (.int x4), .unset, .unset, .unset] [(.int x2), (.int ((x1 &&& (31 : Int32)) <<< ((16 : Int32) &&& 31)))]) _ _ _
  refine own_to (fun t k => X0.ldcI hx hown (mvT hZ (hw _ (List.mem_of_getElem? (i := 0) rfl))) rfl (hb hby at_8) k) ?_
  show own_Out p e below _ s₁ (mkF m 10 #[.val (.int x0), .val (.int x1), .val (.int x2), .val (.int x3), .val (.int x4), .unset, .unset, .unset] [(.int (65535 : Int32)), (.int x2), (.int ((x1 &&& (31 : Int32)) <<< ((16 : Int32) &&& 31)))]) _ _ _
  refine own_to (fun t k => XS.iand X0.here hx rfl (hb hby at_10) rfl k) ?_
  show own_Out p e below _ s₁ (mkF m 11 #[.val (.int x0), .val (.int x1), .val (.int x2), .val (.int x3), .val (.int x4), .unset, .unset, .unset] [(.int (x2 &&& (65535 : Int32))), (.int ((x1 &&& (31 : Int32)) <<< ((16 : Int32) &&& 31)))]) _ _ _
  refine own_to (fun t k => XS.ior X0.here hx rfl (hb hby at_11) rfl k) ?_
  show own_Out p e below _ s₁ (mkF m 12 #[.val (.int x0), .val (.int x1), .val (.int x2), .val (.int x3), .val (.int x4), .unset, .unset, .unset] [(.int (((x1 &&& (31 : Int32)) <<< ((16 : Int32) &&& 31)) ||| (x2 &&& (65535 : Int32))))]) _ _ _
  refine own_to (fun t k => XS.istore X0.here hx rfl (hb hby at_12) rfl (l' := #[.val (.int x0), .val (.int x1), .val (.int x2), .val (.int x3), .val (.int x4), .val (.int (((x1 &&& (31 : Int32)) <<< ((16 : Int32) &&& 31)) ||| (x2 &&& (65535 : Int32)))), .unset, .unset]) rfl k) ?_
  show own_Out p e below _ s₁ (mkF m 14 #[.val (.int x0), .val (.int x1), .val (.int x2), .val (.int x3), .val (.int x4), .val (.int (((x1 &&& (31 : Int32)) <<< ((16 : Int32) &&& 31)) ||| (x2 &&& (65535 : Int32)))), .unset, .unset] []) _ _ _
  refine own_to (fun t k => XS.bipush X0.here hx rfl (hb hby at_14) k) ?_
  show own_Out p e below _ s₁ (mkF m 16 #[.val (.int x0), .val (.int x1), .val (.int x2), .val (.int x3), .val (.int x4), .val (.int (((x1 &&& (31 : Int32)) <<< ((16 : Int32) &&& 31)) ||| (x2 &&& (65535 : Int32)))), .unset, .unset] [(.int (29 : Int32))]) _ _ _
  refine own_newA X0 hx hZ (hw _ (List.mem_of_getElem? (i := 1) rfl)) rfl e0 rfl (hb hby at_16) rfl (by decide) (cap := 29) (by decide) (by decide) (by decide) (by decide) fun T1 hh1 ob1 gb1 X1 e1 E1 A1 => ?_
  have g_ob1 : n0 ≤ ob1 := Nat.le_trans Z0 (Nat.le_of_eq gb1.symm)
  have Z0 := Nat.le_trans Z0 E1.1
  have A_ob1 : own_A Z hh1 ob1 .int 29 (fun _ => 0) := A1
  show own_Out p e below _ T1 (mkF m 18 #[.val (.int x0), .val (.int x1), .val (.int x2), .val (.int x3), .val (.int x4), .val (.int (((x1 &&& (31 : Int32)) <<< ((16 : Int32) &&& 31)) ||| (x2 &&& (65535 : Int32)))), .unset, .unset] [(.ref ob1)]) _ _ _
  refine own_to (fun t k => XS.dup X1.here hx rfl (hb hby at_18) rfl rfl k) ?_
  show own_Out p e below _ T1 (mkF m 19 #[.val (.int x0), .val (.int x1), .val (.int x2), .val (.int x3), .val (.int x4), .val (.int (((x1 &&& (31 : Int32)) <<< ((16 : Int32) &&& 31)) ||| (x2 &&& (65535 : Int32)))), .unset, .unset] [(.ref ob1), (.ref ob1)]) _ _ _
  refine own_to (fun t k => XS.iconst X1.here hx rfl (hb hby at_19) k) ?_
  show own_Out p e below _ T1 (mkF m 20 #[.val (.int x0), .val (.int x1), .val (.int x2), .val (.int x3), .val (.int x4), .val (.int (((x1 &&& (31 : Int32)) <<< ((16 : Int32) &&& 31)) ||| (x2 &&& (65535 : Int32)))), .unset, .unset] [(.int (0 : Int32)), (.ref ob1), (.ref ob1)]) _ _ _
  refine own_to (fun t k => XS.sipush X1.here hx rfl (hb hby at_20) k) ?_
  show own_Out p e below _ T1 (mkF m 23 #[.val (.int x0), .val (.int x1), .val (.int x2), .val (.int x3), .val (.int x4), .val (.int (((x1 &&& (31 : Int32)) <<< ((16 : Int32) &&& 31)) ||| (x2 &&& (65535 : Int32)))), .unset, .unset] [(.int (159 : Int32)), (.int (0 : Int32)), (.ref ob1), (.ref ob1)]) _ _ _
  refine own_stI X1 hx hZ e1 A_ob1 (by decide) (by decide) rfl rfl (hb hby at_23) fun T2 hh2 X2 e2 W2 A2 => ?_
  have A_ob1 := A2
  have Z0 := Nat.le_trans Z0 (Nat.le_of_eq W2.size.symm)
  have N2 := own_fs (sl := Int32.toNatClampNeg (0 : Int32)) N0 g_ob1
  show own_Out p e below _ T2 (mkF m 24 #[.val (.int x0), .val (.int x1), .val (.int x2), .val (.int x3), .val (.int x4), .val (.int (((x1 &&& (31 : Int32)) <<< ((16 : Int32) &&& 31)) ||| (x2 &&& (65535 : Int32)))), .unset, .unset] [(.ref ob1)]) _ _ _
  refine own_to (fun t k => XS.dup X2.here hx rfl (hb hby at_24) rfl rfl k) ?_
  show own_Out p e below _ T2 (mkF m 25 #[.val (.int x0), .val (.int x1), .val (.int x2), .val (.int x3), .val (.int x4), .val (.int (((x1 &&& (31 : Int32)) <<< ((16 : Int32) &&& 31)) ||| (x2 &&& (65535 : Int32)))), .unset, .unset] [(.ref ob1), (.ref ob1)]) _ _ _
  refine own_to (fun t k => XS.iconst X2.here hx rfl (hb hby at_25) k) ?_
  show own_Out p e below _ T2 (mkF m 26 #[.val (.int x0), .val (.int x1), .val (.int x2), .val (.int x3), .val (.int x4), .val (.int (((x1 &&& (31 : Int32)) <<< ((16 : Int32) &&& 31)) ||| (x2 &&& (65535 : Int32)))), .unset, .unset] [(.int (1 : Int32)), (.ref ob1), (.ref ob1)]) _ _ _
  refine own_to (fun t k => XS.sipush X2.here hx rfl (hb hby at_26) k) ?_
  show own_Out p e below _ T2 (mkF m 29 #[.val (.int x0), .val (.int x1), .val (.int x2), .val (.int x3), .val (.int x4), .val (.int (((x1 &&& (31 : Int32)) <<< ((16 : Int32) &&& 31)) ||| (x2 &&& (65535 : Int32)))), .unset, .unset] [(.int (160 : Int32)), (.int (1 : Int32)), (.ref ob1), (.ref ob1)]) _ _ _
  refine own_stI X2 hx hZ e2 A_ob1 (by decide) (by decide) rfl rfl (hb hby at_29) fun T3 hh3 X3 e3 W3 A3 => ?_
  have A_ob1 := A3
  have Z0 := Nat.le_trans Z0 (Nat.le_of_eq W3.size.symm)
  have N3 := own_fs (sl := Int32.toNatClampNeg (1 : Int32)) N2 g_ob1
  show own_Out p e below _ T3 (mkF m 30 #[.val (.int x0), .val (.int x1), .val (.int x2), .val (.int x3), .val (.int x4), .val (.int (((x1 &&& (31 : Int32)) <<< ((16 : Int32) &&& 31)) ||| (x2 &&& (65535 : Int32)))), .unset, .unset] [(.ref ob1)]) _ _ _
  refine own_to (fun t k => XS.dup X3.here hx rfl (hb hby at_30) rfl rfl k) ?_
  show own_Out p e below _ T3 (mkF m 31 #[.val (.int x0), .val (.int x1), .val (.int x2), .val (.int x3), .val (.int x4), .val (.int (((x1 &&& (31 : Int32)) <<< ((16 : Int32) &&& 31)) ||| (x2 &&& (65535 : Int32)))), .unset, .unset] [(.ref ob1), (.ref ob1)]) _ _ _
  refine own_to (fun t k => XS.iconst X3.here hx rfl (hb hby at_31) k) ?_
  show own_Out p e below _ T3 (mkF m 32 #[.val (.int x0), .val (.int x1), .val (.int x2), .val (.int x3), .val (.int x4), .val (.int (((x1 &&& (31 : Int32)) <<< ((16 : Int32) &&& 31)) ||| (x2 &&& (65535 : Int32)))), .unset, .unset] [(.int (2 : Int32)), (.ref ob1), (.ref ob1)]) _ _ _
  refine own_to (fun t k => X3.ldcI hx hown (mvT hZ (hw _ (List.mem_of_getElem? (i := 2) rfl))) rfl (hb hby at_32) k) ?_
  show own_Out p e below _ T3 (mkF m 34 #[.val (.int x0), .val (.int x1), .val (.int x2), .val (.int x3), .val (.int x4), .val (.int (((x1 &&& (31 : Int32)) <<< ((16 : Int32) &&& 31)) ||| (x2 &&& (65535 : Int32)))), .unset, .unset] [(.int (55295 : Int32)), (.int (2 : Int32)), (.ref ob1), (.ref ob1)]) _ _ _
  refine own_stI X3 hx hZ e3 A_ob1 (by decide) (by decide) rfl rfl (hb hby at_34) fun T4 hh4 X4 e4 W4 A4 => ?_
  have A_ob1 := A4
  have Z0 := Nat.le_trans Z0 (Nat.le_of_eq W4.size.symm)
  have N4 := own_fs (sl := Int32.toNatClampNeg (2 : Int32)) N3 g_ob1
  show own_Out p e below _ T4 (mkF m 35 #[.val (.int x0), .val (.int x1), .val (.int x2), .val (.int x3), .val (.int x4), .val (.int (((x1 &&& (31 : Int32)) <<< ((16 : Int32) &&& 31)) ||| (x2 &&& (65535 : Int32)))), .unset, .unset] [(.ref ob1)]) _ _ _
  refine own_to (fun t k => XS.dup X4.here hx rfl (hb hby at_35) rfl rfl k) ?_
  show own_Out p e below _ T4 (mkF m 36 #[.val (.int x0), .val (.int x1), .val (.int x2), .val (.int x3), .val (.int x4), .val (.int (((x1 &&& (31 : Int32)) <<< ((16 : Int32) &&& 31)) ||| (x2 &&& (65535 : Int32)))), .unset, .unset] [(.ref ob1), (.ref ob1)]) _ _ _
  refine own_to (fun t k => XS.iconst X4.here hx rfl (hb hby at_36) k) ?_
  show own_Out p e below _ T4 (mkF m 37 #[.val (.int x0), .val (.int x1), .val (.int x2), .val (.int x3), .val (.int x4), .val (.int (((x1 &&& (31 : Int32)) <<< ((16 : Int32) &&& 31)) ||| (x2 &&& (65535 : Int32)))), .unset, .unset] [(.int (3 : Int32)), (.ref ob1), (.ref ob1)]) _ _ _
  refine own_to (fun t k => X4.ldcI hx hown (mvT hZ (hw _ (List.mem_of_getElem? (i := 3) rfl))) rfl (hb hby at_37) k) ?_
  show own_Out p e below _ T4 (mkF m 39 #[.val (.int x0), .val (.int x1), .val (.int x2), .val (.int x3), .val (.int x4), .val (.int (((x1 &&& (31 : Int32)) <<< ((16 : Int32) &&& 31)) ||| (x2 &&& (65535 : Int32)))), .unset, .unset] [(.int (55296 : Int32)), (.int (3 : Int32)), (.ref ob1), (.ref ob1)]) _ _ _
  refine own_stI X4 hx hZ e4 A_ob1 (by decide) (by decide) rfl rfl (hb hby at_39) fun T5 hh5 X5 e5 W5 A5 => ?_
  have A_ob1 := A5
  have Z0 := Nat.le_trans Z0 (Nat.le_of_eq W5.size.symm)
  have N5 := own_fs (sl := Int32.toNatClampNeg (3 : Int32)) N4 g_ob1
  show own_Out p e below _ T5 (mkF m 40 #[.val (.int x0), .val (.int x1), .val (.int x2), .val (.int x3), .val (.int x4), .val (.int (((x1 &&& (31 : Int32)) <<< ((16 : Int32) &&& 31)) ||| (x2 &&& (65535 : Int32)))), .unset, .unset] [(.ref ob1)]) _ _ _
  refine own_to (fun t k => XS.dup X5.here hx rfl (hb hby at_40) rfl rfl k) ?_
  show own_Out p e below _ T5 (mkF m 41 #[.val (.int x0), .val (.int x1), .val (.int x2), .val (.int x3), .val (.int x4), .val (.int (((x1 &&& (31 : Int32)) <<< ((16 : Int32) &&& 31)) ||| (x2 &&& (65535 : Int32)))), .unset, .unset] [(.ref ob1), (.ref ob1)]) _ _ _
  refine own_to (fun t k => XS.iconst X5.here hx rfl (hb hby at_41) k) ?_
  show own_Out p e below _ T5 (mkF m 42 #[.val (.int x0), .val (.int x1), .val (.int x2), .val (.int x3), .val (.int x4), .val (.int (((x1 &&& (31 : Int32)) <<< ((16 : Int32) &&& 31)) ||| (x2 &&& (65535 : Int32)))), .unset, .unset] [(.int (4 : Int32)), (.ref ob1), (.ref ob1)]) _ _ _
  refine own_to (fun t k => X5.ldcI hx hown (mvT hZ (hw _ (List.mem_of_getElem? (i := 4) rfl))) rfl (hb hby at_42) k) ?_
  show own_Out p e below _ T5 (mkF m 44 #[.val (.int x0), .val (.int x1), .val (.int x2), .val (.int x3), .val (.int x4), .val (.int (((x1 &&& (31 : Int32)) <<< ((16 : Int32) &&& 31)) ||| (x2 &&& (65535 : Int32)))), .unset, .unset] [(.int (63743 : Int32)), (.int (4 : Int32)), (.ref ob1), (.ref ob1)]) _ _ _
  refine own_stI X5 hx hZ e5 A_ob1 (by decide) (by decide) rfl rfl (hb hby at_44) fun T6 hh6 X6 e6 W6 A6 => ?_
  have A_ob1 := A6
  have Z0 := Nat.le_trans Z0 (Nat.le_of_eq W6.size.symm)
  have N6 := own_fs (sl := Int32.toNatClampNeg (4 : Int32)) N5 g_ob1
  show own_Out p e below _ T6 (mkF m 45 #[.val (.int x0), .val (.int x1), .val (.int x2), .val (.int x3), .val (.int x4), .val (.int (((x1 &&& (31 : Int32)) <<< ((16 : Int32) &&& 31)) ||| (x2 &&& (65535 : Int32)))), .unset, .unset] [(.ref ob1)]) _ _ _
  refine own_to (fun t k => XS.dup X6.here hx rfl (hb hby at_45) rfl rfl k) ?_
  show own_Out p e below _ T6 (mkF m 46 #[.val (.int x0), .val (.int x1), .val (.int x2), .val (.int x3), .val (.int x4), .val (.int (((x1 &&& (31 : Int32)) <<< ((16 : Int32) &&& 31)) ||| (x2 &&& (65535 : Int32)))), .unset, .unset] [(.ref ob1), (.ref ob1)]) _ _ _
  refine own_to (fun t k => XS.iconst X6.here hx rfl (hb hby at_46) k) ?_
  show own_Out p e below _ T6 (mkF m 47 #[.val (.int x0), .val (.int x1), .val (.int x2), .val (.int x3), .val (.int x4), .val (.int (((x1 &&& (31 : Int32)) <<< ((16 : Int32) &&& 31)) ||| (x2 &&& (65535 : Int32)))), .unset, .unset] [(.int (5 : Int32)), (.ref ob1), (.ref ob1)]) _ _ _
  refine own_to (fun t k => X6.ldcI hx hown (mvT hZ (hw _ (List.mem_of_getElem? (i := 5) rfl))) rfl (hb hby at_47) k) ?_
  show own_Out p e below _ T6 (mkF m 49 #[.val (.int x0), .val (.int x1), .val (.int x2), .val (.int x3), .val (.int x4), .val (.int (((x1 &&& (31 : Int32)) <<< ((16 : Int32) &&& 31)) ||| (x2 &&& (65535 : Int32)))), .unset, .unset] [(.int (63744 : Int32)), (.int (5 : Int32)), (.ref ob1), (.ref ob1)]) _ _ _
  refine own_stI X6 hx hZ e6 A_ob1 (by decide) (by decide) rfl rfl (hb hby at_49) fun T7 hh7 X7 e7 W7 A7 => ?_
  have A_ob1 := A7
  have Z0 := Nat.le_trans Z0 (Nat.le_of_eq W7.size.symm)
  have N7 := own_fs (sl := Int32.toNatClampNeg (5 : Int32)) N6 g_ob1
  show own_Out p e below _ T7 (mkF m 50 #[.val (.int x0), .val (.int x1), .val (.int x2), .val (.int x3), .val (.int x4), .val (.int (((x1 &&& (31 : Int32)) <<< ((16 : Int32) &&& 31)) ||| (x2 &&& (65535 : Int32)))), .unset, .unset] [(.ref ob1)]) _ _ _
  refine own_to (fun t k => XS.dup X7.here hx rfl (hb hby at_50) rfl rfl k) ?_
  show own_Out p e below _ T7 (mkF m 51 #[.val (.int x0), .val (.int x1), .val (.int x2), .val (.int x3), .val (.int x4), .val (.int (((x1 &&& (31 : Int32)) <<< ((16 : Int32) &&& 31)) ||| (x2 &&& (65535 : Int32)))), .unset, .unset] [(.ref ob1), (.ref ob1)]) _ _ _
  refine own_to (fun t k => XS.bipush X7.here hx rfl (hb hby at_51) k) ?_
  show own_Out p e below _ T7 (mkF m 53 #[.val (.int x0), .val (.int x1), .val (.int x2), .val (.int x3), .val (.int x4), .val (.int (((x1 &&& (31 : Int32)) <<< ((16 : Int32) &&& 31)) ||| (x2 &&& (65535 : Int32)))), .unset, .unset] [(.int (6 : Int32)), (.ref ob1), (.ref ob1)]) _ _ _
  refine own_to (fun t k => X7.ldcI hx hown (mvT hZ (hw _ (List.mem_of_getElem? (i := 6) rfl))) rfl (hb hby at_53) k) ?_
  show own_Out p e below _ T7 (mkF m 55 #[.val (.int x0), .val (.int x1), .val (.int x2), .val (.int x3), .val (.int x4), .val (.int (((x1 &&& (31 : Int32)) <<< ((16 : Int32) &&& 31)) ||| (x2 &&& (65535 : Int32)))), .unset, .unset] [(.int (64975 : Int32)), (.int (6 : Int32)), (.ref ob1), (.ref ob1)]) _ _ _
  refine own_stI X7 hx hZ e7 A_ob1 (by decide) (by decide) rfl rfl (hb hby at_55) fun T8 hh8 X8 e8 W8 A8 => ?_
  have A_ob1 := A8
  have Z0 := Nat.le_trans Z0 (Nat.le_of_eq W8.size.symm)
  have N8 := own_fs (sl := Int32.toNatClampNeg (6 : Int32)) N7 g_ob1
  show own_Out p e below _ T8 (mkF m 56 #[.val (.int x0), .val (.int x1), .val (.int x2), .val (.int x3), .val (.int x4), .val (.int (((x1 &&& (31 : Int32)) <<< ((16 : Int32) &&& 31)) ||| (x2 &&& (65535 : Int32)))), .unset, .unset] [(.ref ob1)]) _ _ _
  refine own_to (fun t k => XS.dup X8.here hx rfl (hb hby at_56) rfl rfl k) ?_
  show own_Out p e below _ T8 (mkF m 57 #[.val (.int x0), .val (.int x1), .val (.int x2), .val (.int x3), .val (.int x4), .val (.int (((x1 &&& (31 : Int32)) <<< ((16 : Int32) &&& 31)) ||| (x2 &&& (65535 : Int32)))), .unset, .unset] [(.ref ob1), (.ref ob1)]) _ _ _
  refine own_to (fun t k => XS.bipush X8.here hx rfl (hb hby at_57) k) ?_
  show own_Out p e below _ T8 (mkF m 59 #[.val (.int x0), .val (.int x1), .val (.int x2), .val (.int x3), .val (.int x4), .val (.int (((x1 &&& (31 : Int32)) <<< ((16 : Int32) &&& 31)) ||| (x2 &&& (65535 : Int32)))), .unset, .unset] [(.int (7 : Int32)), (.ref ob1), (.ref ob1)]) _ _ _
  refine own_to (fun t k => X8.ldcI hx hown (mvT hZ (hw _ (List.mem_of_getElem? (i := 7) rfl))) rfl (hb hby at_59) k) ?_
  show own_Out p e below _ T8 (mkF m 61 #[.val (.int x0), .val (.int x1), .val (.int x2), .val (.int x3), .val (.int x4), .val (.int (((x1 &&& (31 : Int32)) <<< ((16 : Int32) &&& 31)) ||| (x2 &&& (65535 : Int32)))), .unset, .unset] [(.int (64976 : Int32)), (.int (7 : Int32)), (.ref ob1), (.ref ob1)]) _ _ _
  refine own_stI X8 hx hZ e8 A_ob1 (by decide) (by decide) rfl rfl (hb hby at_61) fun T9 hh9 X9 e9 W9 A9 => ?_
  have A_ob1 := A9
  have Z0 := Nat.le_trans Z0 (Nat.le_of_eq W9.size.symm)
  have N9 := own_fs (sl := Int32.toNatClampNeg (7 : Int32)) N8 g_ob1
  show own_Out p e below _ T9 (mkF m 62 #[.val (.int x0), .val (.int x1), .val (.int x2), .val (.int x3), .val (.int x4), .val (.int (((x1 &&& (31 : Int32)) <<< ((16 : Int32) &&& 31)) ||| (x2 &&& (65535 : Int32)))), .unset, .unset] [(.ref ob1)]) _ _ _
  refine own_to (fun t k => XS.dup X9.here hx rfl (hb hby at_62) rfl rfl k) ?_
  show own_Out p e below _ T9 (mkF m 63 #[.val (.int x0), .val (.int x1), .val (.int x2), .val (.int x3), .val (.int x4), .val (.int (((x1 &&& (31 : Int32)) <<< ((16 : Int32) &&& 31)) ||| (x2 &&& (65535 : Int32)))), .unset, .unset] [(.ref ob1), (.ref ob1)]) _ _ _
  refine own_to (fun t k => XS.bipush X9.here hx rfl (hb hby at_63) k) ?_
  show own_Out p e below _ T9 (mkF m 65 #[.val (.int x0), .val (.int x1), .val (.int x2), .val (.int x3), .val (.int x4), .val (.int (((x1 &&& (31 : Int32)) <<< ((16 : Int32) &&& 31)) ||| (x2 &&& (65535 : Int32)))), .unset, .unset] [(.int (8 : Int32)), (.ref ob1), (.ref ob1)]) _ _ _
  refine own_to (fun t k => X9.ldcI hx hown (mvT hZ (hw _ (List.mem_of_getElem? (i := 8) rfl))) rfl (hb hby at_65) k) ?_
  show own_Out p e below _ T9 (mkF m 67 #[.val (.int x0), .val (.int x1), .val (.int x2), .val (.int x3), .val (.int x4), .val (.int (((x1 &&& (31 : Int32)) <<< ((16 : Int32) &&& 31)) ||| (x2 &&& (65535 : Int32)))), .unset, .unset] [(.int (65007 : Int32)), (.int (8 : Int32)), (.ref ob1), (.ref ob1)]) _ _ _
  refine own_stI X9 hx hZ e9 A_ob1 (by decide) (by decide) rfl rfl (hb hby at_67) fun T10 hh10 X10 e10 W10 A10 => ?_
  have A_ob1 := A10
  have Z0 := Nat.le_trans Z0 (Nat.le_of_eq W10.size.symm)
  have N10 := own_fs (sl := Int32.toNatClampNeg (8 : Int32)) N9 g_ob1
  show own_Out p e below _ T10 (mkF m 68 #[.val (.int x0), .val (.int x1), .val (.int x2), .val (.int x3), .val (.int x4), .val (.int (((x1 &&& (31 : Int32)) <<< ((16 : Int32) &&& 31)) ||| (x2 &&& (65535 : Int32)))), .unset, .unset] [(.ref ob1)]) _ _ _
  refine own_to (fun t k => XS.dup X10.here hx rfl (hb hby at_68) rfl rfl k) ?_
  show own_Out p e below _ T10 (mkF m 69 #[.val (.int x0), .val (.int x1), .val (.int x2), .val (.int x3), .val (.int x4), .val (.int (((x1 &&& (31 : Int32)) <<< ((16 : Int32) &&& 31)) ||| (x2 &&& (65535 : Int32)))), .unset, .unset] [(.ref ob1), (.ref ob1)]) _ _ _
  refine own_to (fun t k => XS.bipush X10.here hx rfl (hb hby at_69) k) ?_
  show own_Out p e below _ T10 (mkF m 71 #[.val (.int x0), .val (.int x1), .val (.int x2), .val (.int x3), .val (.int x4), .val (.int (((x1 &&& (31 : Int32)) <<< ((16 : Int32) &&& 31)) ||| (x2 &&& (65535 : Int32)))), .unset, .unset] [(.int (9 : Int32)), (.ref ob1), (.ref ob1)]) _ _ _
  refine own_to (fun t k => X10.ldcI hx hown (mvT hZ (hw _ (List.mem_of_getElem? (i := 9) rfl))) rfl (hb hby at_71) k) ?_
  show own_Out p e below _ T10 (mkF m 73 #[.val (.int x0), .val (.int x1), .val (.int x2), .val (.int x3), .val (.int x4), .val (.int (((x1 &&& (31 : Int32)) <<< ((16 : Int32) &&& 31)) ||| (x2 &&& (65535 : Int32)))), .unset, .unset] [(.int (65008 : Int32)), (.int (9 : Int32)), (.ref ob1), (.ref ob1)]) _ _ _
  refine own_stI X10 hx hZ e10 A_ob1 (by decide) (by decide) rfl rfl (hb hby at_73) fun T11 hh11 X11 e11 W11 A11 => ?_
  have A_ob1 := A11
  have Z0 := Nat.le_trans Z0 (Nat.le_of_eq W11.size.symm)
  have N11 := own_fs (sl := Int32.toNatClampNeg (9 : Int32)) N10 g_ob1
  show own_Out p e below _ T11 (mkF m 74 #[.val (.int x0), .val (.int x1), .val (.int x2), .val (.int x3), .val (.int x4), .val (.int (((x1 &&& (31 : Int32)) <<< ((16 : Int32) &&& 31)) ||| (x2 &&& (65535 : Int32)))), .unset, .unset] [(.ref ob1)]) _ _ _
  refine own_to (fun t k => XS.dup X11.here hx rfl (hb hby at_74) rfl rfl k) ?_
  show own_Out p e below _ T11 (mkF m 75 #[.val (.int x0), .val (.int x1), .val (.int x2), .val (.int x3), .val (.int x4), .val (.int (((x1 &&& (31 : Int32)) <<< ((16 : Int32) &&& 31)) ||| (x2 &&& (65535 : Int32)))), .unset, .unset] [(.ref ob1), (.ref ob1)]) _ _ _
  refine own_to (fun t k => XS.bipush X11.here hx rfl (hb hby at_75) k) ?_
  show own_Out p e below _ T11 (mkF m 77 #[.val (.int x0), .val (.int x1), .val (.int x2), .val (.int x3), .val (.int x4), .val (.int (((x1 &&& (31 : Int32)) <<< ((16 : Int32) &&& 31)) ||| (x2 &&& (65535 : Int32)))), .unset, .unset] [(.int (10 : Int32)), (.ref ob1), (.ref ob1)]) _ _ _
  refine own_to (fun t k => X11.ldcI hx hown (mvT hZ (hw _ (List.mem_of_getElem? (i := 10) rfl))) rfl (hb hby at_77) k) ?_
  show own_Out p e below _ T11 (mkF m 79 #[.val (.int x0), .val (.int x1), .val (.int x2), .val (.int x3), .val (.int x4), .val (.int (((x1 &&& (31 : Int32)) <<< ((16 : Int32) &&& 31)) ||| (x2 &&& (65535 : Int32)))), .unset, .unset] [(.int (65519 : Int32)), (.int (10 : Int32)), (.ref ob1), (.ref ob1)]) _ _ _
  refine own_stI X11 hx hZ e11 A_ob1 (by decide) (by decide) rfl rfl (hb hby at_79) fun T12 hh12 X12 e12 W12 A12 => ?_
  have A_ob1 := A12
  have Z0 := Nat.le_trans Z0 (Nat.le_of_eq W12.size.symm)
  have N12 := own_fs (sl := Int32.toNatClampNeg (10 : Int32)) N11 g_ob1
  show own_Out p e below _ T12 (mkF m 80 #[.val (.int x0), .val (.int x1), .val (.int x2), .val (.int x3), .val (.int x4), .val (.int (((x1 &&& (31 : Int32)) <<< ((16 : Int32) &&& 31)) ||| (x2 &&& (65535 : Int32)))), .unset, .unset] [(.ref ob1)]) _ _ _
  refine own_to (fun t k => XS.dup X12.here hx rfl (hb hby at_80) rfl rfl k) ?_
  show own_Out p e below _ T12 (mkF m 81 #[.val (.int x0), .val (.int x1), .val (.int x2), .val (.int x3), .val (.int x4), .val (.int (((x1 &&& (31 : Int32)) <<< ((16 : Int32) &&& 31)) ||| (x2 &&& (65535 : Int32)))), .unset, .unset] [(.ref ob1), (.ref ob1)]) _ _ _
  refine own_to (fun t k => XS.bipush X12.here hx rfl (hb hby at_81) k) ?_
  show own_Out p e below _ T12 (mkF m 83 #[.val (.int x0), .val (.int x1), .val (.int x2), .val (.int x3), .val (.int x4), .val (.int (((x1 &&& (31 : Int32)) <<< ((16 : Int32) &&& 31)) ||| (x2 &&& (65535 : Int32)))), .unset, .unset] [(.int (11 : Int32)), (.ref ob1), (.ref ob1)]) _ _ _
  refine own_to (fun t k => X12.ldcI hx hown (mvT hZ (hw _ (List.mem_of_getElem? (i := 11) rfl))) rfl (hb hby at_83) k) ?_
  show own_Out p e below _ T12 (mkF m 85 #[.val (.int x0), .val (.int x1), .val (.int x2), .val (.int x3), .val (.int x4), .val (.int (((x1 &&& (31 : Int32)) <<< ((16 : Int32) &&& 31)) ||| (x2 &&& (65535 : Int32)))), .unset, .unset] [(.int (65520 : Int32)), (.int (11 : Int32)), (.ref ob1), (.ref ob1)]) _ _ _
  refine own_stI X12 hx hZ e12 A_ob1 (by decide) (by decide) rfl rfl (hb hby at_85) fun T13 hh13 X13 e13 W13 A13 => ?_
  have A_ob1 := A13
  have Z0 := Nat.le_trans Z0 (Nat.le_of_eq W13.size.symm)
  have N13 := own_fs (sl := Int32.toNatClampNeg (11 : Int32)) N12 g_ob1
  show own_Out p e below _ T13 (mkF m 86 #[.val (.int x0), .val (.int x1), .val (.int x2), .val (.int x3), .val (.int x4), .val (.int (((x1 &&& (31 : Int32)) <<< ((16 : Int32) &&& 31)) ||| (x2 &&& (65535 : Int32)))), .unset, .unset] [(.ref ob1)]) _ _ _
  refine own_to (fun t k => XS.dup X13.here hx rfl (hb hby at_86) rfl rfl k) ?_
  show own_Out p e below _ T13 (mkF m 87 #[.val (.int x0), .val (.int x1), .val (.int x2), .val (.int x3), .val (.int x4), .val (.int (((x1 &&& (31 : Int32)) <<< ((16 : Int32) &&& 31)) ||| (x2 &&& (65535 : Int32)))), .unset, .unset] [(.ref ob1), (.ref ob1)]) _ _ _
  refine own_to (fun t k => XS.bipush X13.here hx rfl (hb hby at_87) k) ?_
  show own_Out p e below _ T13 (mkF m 89 #[.val (.int x0), .val (.int x1), .val (.int x2), .val (.int x3), .val (.int x4), .val (.int (((x1 &&& (31 : Int32)) <<< ((16 : Int32) &&& 31)) ||| (x2 &&& (65535 : Int32)))), .unset, .unset] [(.int (12 : Int32)), (.ref ob1), (.ref ob1)]) _ _ _
  refine own_to (fun t k => X13.ldcI hx hown (mvT hZ (hw _ (List.mem_of_getElem? (i := 0) rfl))) rfl (hb hby at_89) k) ?_
  show own_Out p e below _ T13 (mkF m 91 #[.val (.int x0), .val (.int x1), .val (.int x2), .val (.int x3), .val (.int x4), .val (.int (((x1 &&& (31 : Int32)) <<< ((16 : Int32) &&& 31)) ||| (x2 &&& (65535 : Int32)))), .unset, .unset] [(.int (65535 : Int32)), (.int (12 : Int32)), (.ref ob1), (.ref ob1)]) _ _ _
  refine own_stI X13 hx hZ e13 A_ob1 (by decide) (by decide) rfl rfl (hb hby at_91) fun T14 hh14 X14 e14 W14 A14 => ?_
  have A_ob1 := A14
  have Z0 := Nat.le_trans Z0 (Nat.le_of_eq W14.size.symm)
  have N14 := own_fs (sl := Int32.toNatClampNeg (12 : Int32)) N13 g_ob1
  show own_Out p e below _ T14 (mkF m 92 #[.val (.int x0), .val (.int x1), .val (.int x2), .val (.int x3), .val (.int x4), .val (.int (((x1 &&& (31 : Int32)) <<< ((16 : Int32) &&& 31)) ||| (x2 &&& (65535 : Int32)))), .unset, .unset] [(.ref ob1)]) _ _ _
  refine own_to (fun t k => XS.dup X14.here hx rfl (hb hby at_92) rfl rfl k) ?_
  show own_Out p e below _ T14 (mkF m 93 #[.val (.int x0), .val (.int x1), .val (.int x2), .val (.int x3), .val (.int x4), .val (.int (((x1 &&& (31 : Int32)) <<< ((16 : Int32) &&& 31)) ||| (x2 &&& (65535 : Int32)))), .unset, .unset] [(.ref ob1), (.ref ob1)]) _ _ _
  refine own_to (fun t k => XS.bipush X14.here hx rfl (hb hby at_93) k) ?_
  show own_Out p e below _ T14 (mkF m 95 #[.val (.int x0), .val (.int x1), .val (.int x2), .val (.int x3), .val (.int x4), .val (.int (((x1 &&& (31 : Int32)) <<< ((16 : Int32) &&& 31)) ||| (x2 &&& (65535 : Int32)))), .unset, .unset] [(.int (13 : Int32)), (.ref ob1), (.ref ob1)]) _ _ _
  refine own_to (fun t k => X14.ldcI hx hown (mvT hZ (hw _ (List.mem_of_getElem? (i := 12) rfl))) rfl (hb hby at_95) k) ?_
  show own_Out p e below _ T14 (mkF m 97 #[.val (.int x0), .val (.int x1), .val (.int x2), .val (.int x3), .val (.int x4), .val (.int (((x1 &&& (31 : Int32)) <<< ((16 : Int32) &&& 31)) ||| (x2 &&& (65535 : Int32)))), .unset, .unset] [(.int (65536 : Int32)), (.int (13 : Int32)), (.ref ob1), (.ref ob1)]) _ _ _
  refine own_stI X14 hx hZ e14 A_ob1 (by decide) (by decide) rfl rfl (hb hby at_97) fun T15 hh15 X15 e15 W15 A15 => ?_
  have A_ob1 := A15
  have Z0 := Nat.le_trans Z0 (Nat.le_of_eq W15.size.symm)
  have N15 := own_fs (sl := Int32.toNatClampNeg (13 : Int32)) N14 g_ob1
  show own_Out p e below _ T15 (mkF m 98 #[.val (.int x0), .val (.int x1), .val (.int x2), .val (.int x3), .val (.int x4), .val (.int (((x1 &&& (31 : Int32)) <<< ((16 : Int32) &&& 31)) ||| (x2 &&& (65535 : Int32)))), .unset, .unset] [(.ref ob1)]) _ _ _
  refine own_to (fun t k => XS.dup X15.here hx rfl (hb hby at_98) rfl rfl k) ?_
  show own_Out p e below _ T15 (mkF m 99 #[.val (.int x0), .val (.int x1), .val (.int x2), .val (.int x3), .val (.int x4), .val (.int (((x1 &&& (31 : Int32)) <<< ((16 : Int32) &&& 31)) ||| (x2 &&& (65535 : Int32)))), .unset, .unset] [(.ref ob1), (.ref ob1)]) _ _ _
  refine own_to (fun t k => XS.bipush X15.here hx rfl (hb hby at_99) k) ?_
  show own_Out p e below _ T15 (mkF m 101 #[.val (.int x0), .val (.int x1), .val (.int x2), .val (.int x3), .val (.int x4), .val (.int (((x1 &&& (31 : Int32)) <<< ((16 : Int32) &&& 31)) ||| (x2 &&& (65535 : Int32)))), .unset, .unset] [(.int (14 : Int32)), (.ref ob1), (.ref ob1)]) _ _ _
  refine own_to (fun t k => X15.ldcI hx hown (mvT hZ (hw _ (List.mem_of_getElem? (i := 13) rfl))) rfl (hb hby at_101) k) ?_
  show own_Out p e below _ T15 (mkF m 103 #[.val (.int x0), .val (.int x1), .val (.int x2), .val (.int x3), .val (.int x4), .val (.int (((x1 &&& (31 : Int32)) <<< ((16 : Int32) &&& 31)) ||| (x2 &&& (65535 : Int32)))), .unset, .unset] [(.int (131069 : Int32)), (.int (14 : Int32)), (.ref ob1), (.ref ob1)]) _ _ _
  refine own_stI X15 hx hZ e15 A_ob1 (by decide) (by decide) rfl rfl (hb hby at_103) fun T16 hh16 X16 e16 W16 A16 => ?_
  have A_ob1 := A16
  have Z0 := Nat.le_trans Z0 (Nat.le_of_eq W16.size.symm)
  have N16 := own_fs (sl := Int32.toNatClampNeg (14 : Int32)) N15 g_ob1
  show own_Out p e below _ T16 (mkF m 104 #[.val (.int x0), .val (.int x1), .val (.int x2), .val (.int x3), .val (.int x4), .val (.int (((x1 &&& (31 : Int32)) <<< ((16 : Int32) &&& 31)) ||| (x2 &&& (65535 : Int32)))), .unset, .unset] [(.ref ob1)]) _ _ _
  refine own_to (fun t k => XS.dup X16.here hx rfl (hb hby at_104) rfl rfl k) ?_
  show own_Out p e below _ T16 (mkF m 105 #[.val (.int x0), .val (.int x1), .val (.int x2), .val (.int x3), .val (.int x4), .val (.int (((x1 &&& (31 : Int32)) <<< ((16 : Int32) &&& 31)) ||| (x2 &&& (65535 : Int32)))), .unset, .unset] [(.ref ob1), (.ref ob1)]) _ _ _
  refine own_to (fun t k => XS.bipush X16.here hx rfl (hb hby at_105) k) ?_
  show own_Out p e below _ T16 (mkF m 107 #[.val (.int x0), .val (.int x1), .val (.int x2), .val (.int x3), .val (.int x4), .val (.int (((x1 &&& (31 : Int32)) <<< ((16 : Int32) &&& 31)) ||| (x2 &&& (65535 : Int32)))), .unset, .unset] [(.int (15 : Int32)), (.ref ob1), (.ref ob1)]) _ _ _
  refine own_to (fun t k => X16.ldcI hx hown (mvT hZ (hw _ (List.mem_of_getElem? (i := 14) rfl))) rfl (hb hby at_107) k) ?_
  show own_Out p e below _ T16 (mkF m 109 #[.val (.int x0), .val (.int x1), .val (.int x2), .val (.int x3), .val (.int x4), .val (.int (((x1 &&& (31 : Int32)) <<< ((16 : Int32) &&& 31)) ||| (x2 &&& (65535 : Int32)))), .unset, .unset] [(.int (131070 : Int32)), (.int (15 : Int32)), (.ref ob1), (.ref ob1)]) _ _ _
  refine own_stI X16 hx hZ e16 A_ob1 (by decide) (by decide) rfl rfl (hb hby at_109) fun T17 hh17 X17 e17 W17 A17 => ?_
  have A_ob1 := A17
  have Z0 := Nat.le_trans Z0 (Nat.le_of_eq W17.size.symm)
  have N17 := own_fs (sl := Int32.toNatClampNeg (15 : Int32)) N16 g_ob1
  show own_Out p e below _ T17 (mkF m 110 #[.val (.int x0), .val (.int x1), .val (.int x2), .val (.int x3), .val (.int x4), .val (.int (((x1 &&& (31 : Int32)) <<< ((16 : Int32) &&& 31)) ||| (x2 &&& (65535 : Int32)))), .unset, .unset] [(.ref ob1)]) _ _ _
  refine own_to (fun t k => XS.dup X17.here hx rfl (hb hby at_110) rfl rfl k) ?_
  show own_Out p e below _ T17 (mkF m 111 #[.val (.int x0), .val (.int x1), .val (.int x2), .val (.int x3), .val (.int x4), .val (.int (((x1 &&& (31 : Int32)) <<< ((16 : Int32) &&& 31)) ||| (x2 &&& (65535 : Int32)))), .unset, .unset] [(.ref ob1), (.ref ob1)]) _ _ _
  refine own_to (fun t k => XS.bipush X17.here hx rfl (hb hby at_111) k) ?_
  show own_Out p e below _ T17 (mkF m 113 #[.val (.int x0), .val (.int x1), .val (.int x2), .val (.int x3), .val (.int x4), .val (.int (((x1 &&& (31 : Int32)) <<< ((16 : Int32) &&& 31)) ||| (x2 &&& (65535 : Int32)))), .unset, .unset] [(.int (16 : Int32)), (.ref ob1), (.ref ob1)]) _ _ _
  refine own_to (fun t k => X17.ldcI hx hown (mvT hZ (hw _ (List.mem_of_getElem? (i := 15) rfl))) rfl (hb hby at_113) k) ?_
  show own_Out p e below _ T17 (mkF m 115 #[.val (.int x0), .val (.int x1), .val (.int x2), .val (.int x3), .val (.int x4), .val (.int (((x1 &&& (31 : Int32)) <<< ((16 : Int32) &&& 31)) ||| (x2 &&& (65535 : Int32)))), .unset, .unset] [(.int (131072 : Int32)), (.int (16 : Int32)), (.ref ob1), (.ref ob1)]) _ _ _
  refine own_stI X17 hx hZ e17 A_ob1 (by decide) (by decide) rfl rfl (hb hby at_115) fun T18 hh18 X18 e18 W18 A18 => ?_
  have A_ob1 := A18
  have Z0 := Nat.le_trans Z0 (Nat.le_of_eq W18.size.symm)
  have N18 := own_fs (sl := Int32.toNatClampNeg (16 : Int32)) N17 g_ob1
  show own_Out p e below _ T18 (mkF m 116 #[.val (.int x0), .val (.int x1), .val (.int x2), .val (.int x3), .val (.int x4), .val (.int (((x1 &&& (31 : Int32)) <<< ((16 : Int32) &&& 31)) ||| (x2 &&& (65535 : Int32)))), .unset, .unset] [(.ref ob1)]) _ _ _
  refine own_to (fun t k => XS.dup X18.here hx rfl (hb hby at_116) rfl rfl k) ?_
  show own_Out p e below _ T18 (mkF m 117 #[.val (.int x0), .val (.int x1), .val (.int x2), .val (.int x3), .val (.int x4), .val (.int (((x1 &&& (31 : Int32)) <<< ((16 : Int32) &&& 31)) ||| (x2 &&& (65535 : Int32)))), .unset, .unset] [(.ref ob1), (.ref ob1)]) _ _ _
  refine own_to (fun t k => XS.bipush X18.here hx rfl (hb hby at_117) k) ?_
  show own_Out p e below _ T18 (mkF m 119 #[.val (.int x0), .val (.int x1), .val (.int x2), .val (.int x3), .val (.int x4), .val (.int (((x1 &&& (31 : Int32)) <<< ((16 : Int32) &&& 31)) ||| (x2 &&& (65535 : Int32)))), .unset, .unset] [(.int (17 : Int32)), (.ref ob1), (.ref ob1)]) _ _ _
  refine own_to (fun t k => X18.ldcI hx hown (mvT hZ (hw _ (List.mem_of_getElem? (i := 16) rfl))) rfl (hb hby at_119) k) ?_
  show own_Out p e below _ T18 (mkF m 121 #[.val (.int x0), .val (.int x1), .val (.int x2), .val (.int x3), .val (.int x4), .val (.int (((x1 &&& (31 : Int32)) <<< ((16 : Int32) &&& 31)) ||| (x2 &&& (65535 : Int32)))), .unset, .unset] [(.int (917501 : Int32)), (.int (17 : Int32)), (.ref ob1), (.ref ob1)]) _ _ _
  refine own_stI X18 hx hZ e18 A_ob1 (by decide) (by decide) rfl rfl (hb hby at_121) fun T19 hh19 X19 e19 W19 A19 => ?_
  have A_ob1 := A19
  have Z0 := Nat.le_trans Z0 (Nat.le_of_eq W19.size.symm)
  have N19 := own_fs (sl := Int32.toNatClampNeg (17 : Int32)) N18 g_ob1
  show own_Out p e below _ T19 (mkF m 122 #[.val (.int x0), .val (.int x1), .val (.int x2), .val (.int x3), .val (.int x4), .val (.int (((x1 &&& (31 : Int32)) <<< ((16 : Int32) &&& 31)) ||| (x2 &&& (65535 : Int32)))), .unset, .unset] [(.ref ob1)]) _ _ _
  refine own_to (fun t k => XS.dup X19.here hx rfl (hb hby at_122) rfl rfl k) ?_
  show own_Out p e below _ T19 (mkF m 123 #[.val (.int x0), .val (.int x1), .val (.int x2), .val (.int x3), .val (.int x4), .val (.int (((x1 &&& (31 : Int32)) <<< ((16 : Int32) &&& 31)) ||| (x2 &&& (65535 : Int32)))), .unset, .unset] [(.ref ob1), (.ref ob1)]) _ _ _
  refine own_to (fun t k => XS.bipush X19.here hx rfl (hb hby at_123) k) ?_
  show own_Out p e below _ T19 (mkF m 125 #[.val (.int x0), .val (.int x1), .val (.int x2), .val (.int x3), .val (.int x4), .val (.int (((x1 &&& (31 : Int32)) <<< ((16 : Int32) &&& 31)) ||| (x2 &&& (65535 : Int32)))), .unset, .unset] [(.int (18 : Int32)), (.ref ob1), (.ref ob1)]) _ _ _
  refine own_to (fun t k => X19.ldcI hx hown (mvT hZ (hw _ (List.mem_of_getElem? (i := 17) rfl))) rfl (hb hby at_125) k) ?_
  show own_Out p e below _ T19 (mkF m 127 #[.val (.int x0), .val (.int x1), .val (.int x2), .val (.int x3), .val (.int x4), .val (.int (((x1 &&& (31 : Int32)) <<< ((16 : Int32) &&& 31)) ||| (x2 &&& (65535 : Int32)))), .unset, .unset] [(.int (917504 : Int32)), (.int (18 : Int32)), (.ref ob1), (.ref ob1)]) _ _ _
  refine own_stI X19 hx hZ e19 A_ob1 (by decide) (by decide) rfl rfl (hb hby at_127) fun T20 hh20 X20 e20 W20 A20 => ?_
  have A_ob1 := A20
  have Z0 := Nat.le_trans Z0 (Nat.le_of_eq W20.size.symm)
  have N20 := own_fs (sl := Int32.toNatClampNeg (18 : Int32)) N19 g_ob1
  show own_Out p e below _ T20 (mkF m 128 #[.val (.int x0), .val (.int x1), .val (.int x2), .val (.int x3), .val (.int x4), .val (.int (((x1 &&& (31 : Int32)) <<< ((16 : Int32) &&& 31)) ||| (x2 &&& (65535 : Int32)))), .unset, .unset] [(.ref ob1)]) _ _ _
  refine own_to (fun t k => XS.dup X20.here hx rfl (hb hby at_128) rfl rfl k) ?_
  show own_Out p e below _ T20 (mkF m 129 #[.val (.int x0), .val (.int x1), .val (.int x2), .val (.int x3), .val (.int x4), .val (.int (((x1 &&& (31 : Int32)) <<< ((16 : Int32) &&& 31)) ||| (x2 &&& (65535 : Int32)))), .unset, .unset] [(.ref ob1), (.ref ob1)]) _ _ _
  refine own_to (fun t k => XS.bipush X20.here hx rfl (hb hby at_129) k) ?_
  show own_Out p e below _ T20 (mkF m 131 #[.val (.int x0), .val (.int x1), .val (.int x2), .val (.int x3), .val (.int x4), .val (.int (((x1 &&& (31 : Int32)) <<< ((16 : Int32) &&& 31)) ||| (x2 &&& (65535 : Int32)))), .unset, .unset] [(.int (19 : Int32)), (.ref ob1), (.ref ob1)]) _ _ _
  refine own_to (fun t k => X20.ldcI hx hown (mvT hZ (hw _ (List.mem_of_getElem? (i := 18) rfl))) rfl (hb hby at_131) k) ?_
  show own_Out p e below _ T20 (mkF m 133 #[.val (.int x0), .val (.int x1), .val (.int x2), .val (.int x3), .val (.int x4), .val (.int (((x1 &&& (31 : Int32)) <<< ((16 : Int32) &&& 31)) ||| (x2 &&& (65535 : Int32)))), .unset, .unset] [(.int (921599 : Int32)), (.int (19 : Int32)), (.ref ob1), (.ref ob1)]) _ _ _
  refine own_stI X20 hx hZ e20 A_ob1 (by decide) (by decide) rfl rfl (hb hby at_133) fun T21 hh21 X21 e21 W21 A21 => ?_
  have A_ob1 := A21
  have Z0 := Nat.le_trans Z0 (Nat.le_of_eq W21.size.symm)
  have N21 := own_fs (sl := Int32.toNatClampNeg (19 : Int32)) N20 g_ob1
  show own_Out p e below _ T21 (mkF m 134 #[.val (.int x0), .val (.int x1), .val (.int x2), .val (.int x3), .val (.int x4), .val (.int (((x1 &&& (31 : Int32)) <<< ((16 : Int32) &&& 31)) ||| (x2 &&& (65535 : Int32)))), .unset, .unset] [(.ref ob1)]) _ _ _
  refine own_to (fun t k => XS.dup X21.here hx rfl (hb hby at_134) rfl rfl k) ?_
  show own_Out p e below _ T21 (mkF m 135 #[.val (.int x0), .val (.int x1), .val (.int x2), .val (.int x3), .val (.int x4), .val (.int (((x1 &&& (31 : Int32)) <<< ((16 : Int32) &&& 31)) ||| (x2 &&& (65535 : Int32)))), .unset, .unset] [(.ref ob1), (.ref ob1)]) _ _ _
  refine own_to (fun t k => XS.bipush X21.here hx rfl (hb hby at_135) k) ?_
  show own_Out p e below _ T21 (mkF m 137 #[.val (.int x0), .val (.int x1), .val (.int x2), .val (.int x3), .val (.int x4), .val (.int (((x1 &&& (31 : Int32)) <<< ((16 : Int32) &&& 31)) ||| (x2 &&& (65535 : Int32)))), .unset, .unset] [(.int (20 : Int32)), (.ref ob1), (.ref ob1)]) _ _ _
  refine own_to (fun t k => X21.ldcI hx hown (mvT hZ (hw _ (List.mem_of_getElem? (i := 19) rfl))) rfl (hb hby at_137) k) ?_
  show own_Out p e below _ T21 (mkF m 139 #[.val (.int x0), .val (.int x1), .val (.int x2), .val (.int x3), .val (.int x4), .val (.int (((x1 &&& (31 : Int32)) <<< ((16 : Int32) &&& 31)) ||| (x2 &&& (65535 : Int32)))), .unset, .unset] [(.int (921600 : Int32)), (.int (20 : Int32)), (.ref ob1), (.ref ob1)]) _ _ _
  refine own_stI X21 hx hZ e21 A_ob1 (by decide) (by decide) rfl rfl (hb hby at_139) fun T22 hh22 X22 e22 W22 A22 => ?_
  have A_ob1 := A22
  have Z0 := Nat.le_trans Z0 (Nat.le_of_eq W22.size.symm)
  have N22 := own_fs (sl := Int32.toNatClampNeg (20 : Int32)) N21 g_ob1
  show own_Out p e below _ T22 (mkF m 140 #[.val (.int x0), .val (.int x1), .val (.int x2), .val (.int x3), .val (.int x4), .val (.int (((x1 &&& (31 : Int32)) <<< ((16 : Int32) &&& 31)) ||| (x2 &&& (65535 : Int32)))), .unset, .unset] [(.ref ob1)]) _ _ _
  refine own_to (fun t k => XS.dup X22.here hx rfl (hb hby at_140) rfl rfl k) ?_
  show own_Out p e below _ T22 (mkF m 141 #[.val (.int x0), .val (.int x1), .val (.int x2), .val (.int x3), .val (.int x4), .val (.int (((x1 &&& (31 : Int32)) <<< ((16 : Int32) &&& 31)) ||| (x2 &&& (65535 : Int32)))), .unset, .unset] [(.ref ob1), (.ref ob1)]) _ _ _
  refine own_to (fun t k => XS.bipush X22.here hx rfl (hb hby at_141) k) ?_
  show own_Out p e below _ T22 (mkF m 143 #[.val (.int x0), .val (.int x1), .val (.int x2), .val (.int x3), .val (.int x4), .val (.int (((x1 &&& (31 : Int32)) <<< ((16 : Int32) &&& 31)) ||| (x2 &&& (65535 : Int32)))), .unset, .unset] [(.int (21 : Int32)), (.ref ob1), (.ref ob1)]) _ _ _
  refine own_to (fun t k => X22.ldcI hx hown (mvT hZ (hw _ (List.mem_of_getElem? (i := 20) rfl))) rfl (hb hby at_143) k) ?_
  show own_Out p e below _ T22 (mkF m 145 #[.val (.int x0), .val (.int x1), .val (.int x2), .val (.int x3), .val (.int x4), .val (.int (((x1 &&& (31 : Int32)) <<< ((16 : Int32) &&& 31)) ||| (x2 &&& (65535 : Int32)))), .unset, .unset] [(.int (983037 : Int32)), (.int (21 : Int32)), (.ref ob1), (.ref ob1)]) _ _ _
  refine own_stI X22 hx hZ e22 A_ob1 (by decide) (by decide) rfl rfl (hb hby at_145) fun T23 hh23 X23 e23 W23 A23 => ?_
  have A_ob1 := A23
  have Z0 := Nat.le_trans Z0 (Nat.le_of_eq W23.size.symm)
  have N23 := own_fs (sl := Int32.toNatClampNeg (21 : Int32)) N22 g_ob1
  show own_Out p e below _ T23 (mkF m 146 #[.val (.int x0), .val (.int x1), .val (.int x2), .val (.int x3), .val (.int x4), .val (.int (((x1 &&& (31 : Int32)) <<< ((16 : Int32) &&& 31)) ||| (x2 &&& (65535 : Int32)))), .unset, .unset] [(.ref ob1)]) _ _ _
  refine own_to (fun t k => XS.dup X23.here hx rfl (hb hby at_146) rfl rfl k) ?_
  show own_Out p e below _ T23 (mkF m 147 #[.val (.int x0), .val (.int x1), .val (.int x2), .val (.int x3), .val (.int x4), .val (.int (((x1 &&& (31 : Int32)) <<< ((16 : Int32) &&& 31)) ||| (x2 &&& (65535 : Int32)))), .unset, .unset] [(.ref ob1), (.ref ob1)]) _ _ _
  refine own_to (fun t k => XS.bipush X23.here hx rfl (hb hby at_147) k) ?_
  show own_Out p e below _ T23 (mkF m 149 #[.val (.int x0), .val (.int x1), .val (.int x2), .val (.int x3), .val (.int x4), .val (.int (((x1 &&& (31 : Int32)) <<< ((16 : Int32) &&& 31)) ||| (x2 &&& (65535 : Int32)))), .unset, .unset] [(.int (22 : Int32)), (.ref ob1), (.ref ob1)]) _ _ _
  refine own_to (fun t k => X23.ldcI hx hown (mvT hZ (hw _ (List.mem_of_getElem? (i := 21) rfl))) rfl (hb hby at_149) k) ?_
  show own_Out p e below _ T23 (mkF m 151 #[.val (.int x0), .val (.int x1), .val (.int x2), .val (.int x3), .val (.int x4), .val (.int (((x1 &&& (31 : Int32)) <<< ((16 : Int32) &&& 31)) ||| (x2 &&& (65535 : Int32)))), .unset, .unset] [(.int (983038 : Int32)), (.int (22 : Int32)), (.ref ob1), (.ref ob1)]) _ _ _
  refine own_stI X23 hx hZ e23 A_ob1 (by decide) (by decide) rfl rfl (hb hby at_151) fun T24 hh24 X24 e24 W24 A24 => ?_
  have A_ob1 := A24
  have Z0 := Nat.le_trans Z0 (Nat.le_of_eq W24.size.symm)
  have N24 := own_fs (sl := Int32.toNatClampNeg (22 : Int32)) N23 g_ob1
  show own_Out p e below _ T24 (mkF m 152 #[.val (.int x0), .val (.int x1), .val (.int x2), .val (.int x3), .val (.int x4), .val (.int (((x1 &&& (31 : Int32)) <<< ((16 : Int32) &&& 31)) ||| (x2 &&& (65535 : Int32)))), .unset, .unset] [(.ref ob1)]) _ _ _
  refine own_to (fun t k => XS.dup X24.here hx rfl (hb hby at_152) rfl rfl k) ?_
  show own_Out p e below _ T24 (mkF m 153 #[.val (.int x0), .val (.int x1), .val (.int x2), .val (.int x3), .val (.int x4), .val (.int (((x1 &&& (31 : Int32)) <<< ((16 : Int32) &&& 31)) ||| (x2 &&& (65535 : Int32)))), .unset, .unset] [(.ref ob1), (.ref ob1)]) _ _ _
  refine own_to (fun t k => XS.bipush X24.here hx rfl (hb hby at_153) k) ?_
  show own_Out p e below _ T24 (mkF m 155 #[.val (.int x0), .val (.int x1), .val (.int x2), .val (.int x3), .val (.int x4), .val (.int (((x1 &&& (31 : Int32)) <<< ((16 : Int32) &&& 31)) ||| (x2 &&& (65535 : Int32)))), .unset, .unset] [(.int (23 : Int32)), (.ref ob1), (.ref ob1)]) _ _ _
  refine own_to (fun t k => X24.ldcI hx hown (mvT hZ (hw _ (List.mem_of_getElem? (i := 22) rfl))) rfl (hb hby at_155) k) ?_
  show own_Out p e below _ T24 (mkF m 157 #[.val (.int x0), .val (.int x1), .val (.int x2), .val (.int x3), .val (.int x4), .val (.int (((x1 &&& (31 : Int32)) <<< ((16 : Int32) &&& 31)) ||| (x2 &&& (65535 : Int32)))), .unset, .unset] [(.int (983040 : Int32)), (.int (23 : Int32)), (.ref ob1), (.ref ob1)]) _ _ _
  refine own_stI X24 hx hZ e24 A_ob1 (by decide) (by decide) rfl rfl (hb hby at_157) fun T25 hh25 X25 e25 W25 A25 => ?_
  have A_ob1 := A25
  have Z0 := Nat.le_trans Z0 (Nat.le_of_eq W25.size.symm)
  have N25 := own_fs (sl := Int32.toNatClampNeg (23 : Int32)) N24 g_ob1
  show own_Out p e below _ T25 (mkF m 158 #[.val (.int x0), .val (.int x1), .val (.int x2), .val (.int x3), .val (.int x4), .val (.int (((x1 &&& (31 : Int32)) <<< ((16 : Int32) &&& 31)) ||| (x2 &&& (65535 : Int32)))), .unset, .unset] [(.ref ob1)]) _ _ _
  refine own_to (fun t k => XS.dup X25.here hx rfl (hb hby at_158) rfl rfl k) ?_
  show own_Out p e below _ T25 (mkF m 159 #[.val (.int x0), .val (.int x1), .val (.int x2), .val (.int x3), .val (.int x4), .val (.int (((x1 &&& (31 : Int32)) <<< ((16 : Int32) &&& 31)) ||| (x2 &&& (65535 : Int32)))), .unset, .unset] [(.ref ob1), (.ref ob1)]) _ _ _
  refine own_to (fun t k => XS.bipush X25.here hx rfl (hb hby at_159) k) ?_
  show own_Out p e below _ T25 (mkF m 161 #[.val (.int x0), .val (.int x1), .val (.int x2), .val (.int x3), .val (.int x4), .val (.int (((x1 &&& (31 : Int32)) <<< ((16 : Int32) &&& 31)) ||| (x2 &&& (65535 : Int32)))), .unset, .unset] [(.int (24 : Int32)), (.ref ob1), (.ref ob1)]) _ _ _
  refine own_to (fun t k => X25.ldcI hx hown (mvT hZ (hw _ (List.mem_of_getElem? (i := 23) rfl))) rfl (hb hby at_161) k) ?_
  show own_Out p e below _ T25 (mkF m 163 #[.val (.int x0), .val (.int x1), .val (.int x2), .val (.int x3), .val (.int x4), .val (.int (((x1 &&& (31 : Int32)) <<< ((16 : Int32) &&& 31)) ||| (x2 &&& (65535 : Int32)))), .unset, .unset] [(.int (1114111 : Int32)), (.int (24 : Int32)), (.ref ob1), (.ref ob1)]) _ _ _
  refine own_stI X25 hx hZ e25 A_ob1 (by decide) (by decide) rfl rfl (hb hby at_163) fun T26 hh26 X26 e26 W26 A26 => ?_
  have A_ob1 := A26
  have Z0 := Nat.le_trans Z0 (Nat.le_of_eq W26.size.symm)
  have N26 := own_fs (sl := Int32.toNatClampNeg (24 : Int32)) N25 g_ob1
  show own_Out p e below _ T26 (mkF m 164 #[.val (.int x0), .val (.int x1), .val (.int x2), .val (.int x3), .val (.int x4), .val (.int (((x1 &&& (31 : Int32)) <<< ((16 : Int32) &&& 31)) ||| (x2 &&& (65535 : Int32)))), .unset, .unset] [(.ref ob1)]) _ _ _
  refine own_to (fun t k => XS.dup X26.here hx rfl (hb hby at_164) rfl rfl k) ?_
  show own_Out p e below _ T26 (mkF m 165 #[.val (.int x0), .val (.int x1), .val (.int x2), .val (.int x3), .val (.int x4), .val (.int (((x1 &&& (31 : Int32)) <<< ((16 : Int32) &&& 31)) ||| (x2 &&& (65535 : Int32)))), .unset, .unset] [(.ref ob1), (.ref ob1)]) _ _ _
  refine own_to (fun t k => XS.bipush X26.here hx rfl (hb hby at_165) k) ?_
  show own_Out p e below _ T26 (mkF m 167 #[.val (.int x0), .val (.int x1), .val (.int x2), .val (.int x3), .val (.int x4), .val (.int (((x1 &&& (31 : Int32)) <<< ((16 : Int32) &&& 31)) ||| (x2 &&& (65535 : Int32)))), .unset, .unset] [(.int (25 : Int32)), (.ref ob1), (.ref ob1)]) _ _ _
  refine own_to (fun t k => X26.ldcI hx hown (mvT hZ (hw _ (List.mem_of_getElem? (i := 24) rfl))) rfl (hb hby at_167) k) ?_
  show own_Out p e below _ T26 (mkF m 169 #[.val (.int x0), .val (.int x1), .val (.int x2), .val (.int x3), .val (.int x4), .val (.int (((x1 &&& (31 : Int32)) <<< ((16 : Int32) &&& 31)) ||| (x2 &&& (65535 : Int32)))), .unset, .unset] [(.int (1114112 : Int32)), (.int (25 : Int32)), (.ref ob1), (.ref ob1)]) _ _ _
  refine own_stI X26 hx hZ e26 A_ob1 (by decide) (by decide) rfl rfl (hb hby at_169) fun T27 hh27 X27 e27 W27 A27 => ?_
  have A_ob1 := A27
  have Z0 := Nat.le_trans Z0 (Nat.le_of_eq W27.size.symm)
  have N27 := own_fs (sl := Int32.toNatClampNeg (25 : Int32)) N26 g_ob1
  show own_Out p e below _ T27 (mkF m 170 #[.val (.int x0), .val (.int x1), .val (.int x2), .val (.int x3), .val (.int x4), .val (.int (((x1 &&& (31 : Int32)) <<< ((16 : Int32) &&& 31)) ||| (x2 &&& (65535 : Int32)))), .unset, .unset] [(.ref ob1)]) _ _ _
  refine own_to (fun t k => XS.dup X27.here hx rfl (hb hby at_170) rfl rfl k) ?_
  show own_Out p e below _ T27 (mkF m 171 #[.val (.int x0), .val (.int x1), .val (.int x2), .val (.int x3), .val (.int x4), .val (.int (((x1 &&& (31 : Int32)) <<< ((16 : Int32) &&& 31)) ||| (x2 &&& (65535 : Int32)))), .unset, .unset] [(.ref ob1), (.ref ob1)]) _ _ _
  refine own_to (fun t k => XS.bipush X27.here hx rfl (hb hby at_171) k) ?_
  show own_Out p e below _ T27 (mkF m 173 #[.val (.int x0), .val (.int x1), .val (.int x2), .val (.int x3), .val (.int x4), .val (.int (((x1 &&& (31 : Int32)) <<< ((16 : Int32) &&& 31)) ||| (x2 &&& (65535 : Int32)))), .unset, .unset] [(.int (26 : Int32)), (.ref ob1), (.ref ob1)]) _ _ _
  refine own_to (fun t k => XS.iconst X27.here hx rfl (hb hby at_173) k) ?_
  show own_Out p e below _ T27 (mkF m 174 #[.val (.int x0), .val (.int x1), .val (.int x2), .val (.int x3), .val (.int x4), .val (.int (((x1 &&& (31 : Int32)) <<< ((16 : Int32) &&& 31)) ||| (x2 &&& (65535 : Int32)))), .unset, .unset] [(.int (0 : Int32)), (.int (26 : Int32)), (.ref ob1), (.ref ob1)]) _ _ _
  refine own_stI X27 hx hZ e27 A_ob1 (by decide) (by decide) rfl rfl (hb hby at_174) fun T28 hh28 X28 e28 W28 A28 => ?_
  have A_ob1 := A28
  have Z0 := Nat.le_trans Z0 (Nat.le_of_eq W28.size.symm)
  have N28 := own_fs (sl := Int32.toNatClampNeg (26 : Int32)) N27 g_ob1
  show own_Out p e below _ T28 (mkF m 175 #[.val (.int x0), .val (.int x1), .val (.int x2), .val (.int x3), .val (.int x4), .val (.int (((x1 &&& (31 : Int32)) <<< ((16 : Int32) &&& 31)) ||| (x2 &&& (65535 : Int32)))), .unset, .unset] [(.ref ob1)]) _ _ _
  refine own_to (fun t k => XS.dup X28.here hx rfl (hb hby at_175) rfl rfl k) ?_
  show own_Out p e below _ T28 (mkF m 176 #[.val (.int x0), .val (.int x1), .val (.int x2), .val (.int x3), .val (.int x4), .val (.int (((x1 &&& (31 : Int32)) <<< ((16 : Int32) &&& 31)) ||| (x2 &&& (65535 : Int32)))), .unset, .unset] [(.ref ob1), (.ref ob1)]) _ _ _
  refine own_to (fun t k => XS.bipush X28.here hx rfl (hb hby at_176) k) ?_
  show own_Out p e below _ T28 (mkF m 178 #[.val (.int x0), .val (.int x1), .val (.int x2), .val (.int x3), .val (.int x4), .val (.int (((x1 &&& (31 : Int32)) <<< ((16 : Int32) &&& 31)) ||| (x2 &&& (65535 : Int32)))), .unset, .unset] [(.int (27 : Int32)), (.ref ob1), (.ref ob1)]) _ _ _
  refine own_to (fun t k => X28.ldcI hx hown (mvT hZ (hw _ (List.mem_of_getElem? (i := 25) rfl))) rfl (hb hby at_178) k) ?_
  show own_Out p e below _ T28 (mkF m 180 #[.val (.int x0), .val (.int x1), .val (.int x2), .val (.int x3), .val (.int x4), .val (.int (((x1 &&& (31 : Int32)) <<< ((16 : Int32) &&& 31)) ||| (x2 &&& (65535 : Int32)))), .unset, .unset] [(.int (-2147483648 : Int32)), (.int (27 : Int32)), (.ref ob1), (.ref ob1)]) _ _ _
  refine own_stI X28 hx hZ e28 A_ob1 (by decide) (by decide) rfl rfl (hb hby at_180) fun T29 hh29 X29 e29 W29 A29 => ?_
  have A_ob1 := A29
  have Z0 := Nat.le_trans Z0 (Nat.le_of_eq W29.size.symm)
  have N29 := own_fs (sl := Int32.toNatClampNeg (27 : Int32)) N28 g_ob1
  show own_Out p e below _ T29 (mkF m 181 #[.val (.int x0), .val (.int x1), .val (.int x2), .val (.int x3), .val (.int x4), .val (.int (((x1 &&& (31 : Int32)) <<< ((16 : Int32) &&& 31)) ||| (x2 &&& (65535 : Int32)))), .unset, .unset] [(.ref ob1)]) _ _ _
  refine own_to (fun t k => XS.dup X29.here hx rfl (hb hby at_181) rfl rfl k) ?_
  show own_Out p e below _ T29 (mkF m 182 #[.val (.int x0), .val (.int x1), .val (.int x2), .val (.int x3), .val (.int x4), .val (.int (((x1 &&& (31 : Int32)) <<< ((16 : Int32) &&& 31)) ||| (x2 &&& (65535 : Int32)))), .unset, .unset] [(.ref ob1), (.ref ob1)]) _ _ _
  refine own_to (fun t k => XS.bipush X29.here hx rfl (hb hby at_182) k) ?_
  show own_Out p e below _ T29 (mkF m 184 #[.val (.int x0), .val (.int x1), .val (.int x2), .val (.int x3), .val (.int x4), .val (.int (((x1 &&& (31 : Int32)) <<< ((16 : Int32) &&& 31)) ||| (x2 &&& (65535 : Int32)))), .unset, .unset] [(.int (28 : Int32)), (.ref ob1), (.ref ob1)]) _ _ _
  refine own_to (fun t k => X29.ldcI hx hown (mvT hZ (hw _ (List.mem_of_getElem? (i := 26) rfl))) rfl (hb hby at_184) k) ?_
  show own_Out p e below _ T29 (mkF m 186 #[.val (.int x0), .val (.int x1), .val (.int x2), .val (.int x3), .val (.int x4), .val (.int (((x1 &&& (31 : Int32)) <<< ((16 : Int32) &&& 31)) ||| (x2 &&& (65535 : Int32)))), .unset, .unset] [(.int (2147483647 : Int32)), (.int (28 : Int32)), (.ref ob1), (.ref ob1)]) _ _ _
  refine own_stI X29 hx hZ e29 A_ob1 (by decide) (by decide) rfl rfl (hb hby at_186) fun T30 hh30 X30 e30 W30 A30 => ?_
  have A_ob1 := A30
  have Z0 := Nat.le_trans Z0 (Nat.le_of_eq W30.size.symm)
  have N30 := own_fs (sl := Int32.toNatClampNeg (28 : Int32)) N29 g_ob1
  show own_Out p e below _ T30 (mkF m 187 #[.val (.int x0), .val (.int x1), .val (.int x2), .val (.int x3), .val (.int x4), .val (.int (((x1 &&& (31 : Int32)) <<< ((16 : Int32) &&& 31)) ||| (x2 &&& (65535 : Int32)))), .unset, .unset] [(.ref ob1)]) _ _ _
  refine own_to (fun t k => XS.astore X30.here hx rfl (hb hby at_187) rfl rfl (l' := #[.val (.int x0), .val (.int x1), .val (.int x2), .val (.int x3), .val (.int x4), .val (.int (((x1 &&& (31 : Int32)) <<< ((16 : Int32) &&& 31)) ||| (x2 &&& (65535 : Int32)))), .val (.ref ob1), .unset]) rfl k) ?_
  show own_Out p e below _ T30 (mkF m 189 #[.val (.int x0), .val (.int x1), .val (.int x2), .val (.int x3), .val (.int x4), .val (.int (((x1 &&& (31 : Int32)) <<< ((16 : Int32) &&& 31)) ||| (x2 &&& (65535 : Int32)))), .val (.ref ob1), .unset] []) _ _ _
  refine own_to (fun t k => XS.aload X30.here hx rfl (hb hby at_189) rfl rfl k) ?_
  show own_Out p e below _ T30 (mkF m 191 #[.val (.int x0), .val (.int x1), .val (.int x2), .val (.int x3), .val (.int x4), .val (.int (((x1 &&& (31 : Int32)) <<< ((16 : Int32) &&& 31)) ||| (x2 &&& (65535 : Int32)))), .val (.ref ob1), .unset] [(.ref ob1)]) _ _ _
  refine own_to (fun t k => XS.iloadN X30.here hx rfl (hb hby at_191) rfl k) ?_
  show own_Out p e below _ T30 (mkF m 192 #[.val (.int x0), .val (.int x1), .val (.int x2), .val (.int x3), .val (.int x4), .val (.int (((x1 &&& (31 : Int32)) <<< ((16 : Int32) &&& 31)) ||| (x2 &&& (65535 : Int32)))), .val (.ref ob1), .unset] [(.int x3), (.ref ob1)]) _ _ _
  refine own_to (fun t k => X30.ldcI hx hown (mvT hZ (hw _ (List.mem_of_getElem? (i := 26) rfl))) rfl (hb hby at_192) k) ?_
  show own_Out p e below _ T30 (mkF m 194 #[.val (.int x0), .val (.int x1), .val (.int x2), .val (.int x3), .val (.int x4), .val (.int (((x1 &&& (31 : Int32)) <<< ((16 : Int32) &&& 31)) ||| (x2 &&& (65535 : Int32)))), .val (.ref ob1), .unset] [(.int (2147483647 : Int32)), (.int x3), (.ref ob1)]) _ _ _
  refine own_to (fun t k => XS.iand X30.here hx rfl (hb hby at_194) rfl k) ?_
  show own_Out p e below _ T30 (mkF m 195 #[.val (.int x0), .val (.int x1), .val (.int x2), .val (.int x3), .val (.int x4), .val (.int (((x1 &&& (31 : Int32)) <<< ((16 : Int32) &&& 31)) ||| (x2 &&& (65535 : Int32)))), .val (.ref ob1), .unset] [(.int (x3 &&& (2147483647 : Int32))), (.ref ob1)]) _ _ _
  refine own_to (fun t k => XS.aload X30.here hx rfl (hb hby at_195) rfl rfl k) ?_
  show own_Out p e below _ T30 (mkF m 197 #[.val (.int x0), .val (.int x1), .val (.int x2), .val (.int x3), .val (.int x4), .val (.int (((x1 &&& (31 : Int32)) <<< ((16 : Int32) &&& 31)) ||| (x2 &&& (65535 : Int32)))), .val (.ref ob1), .unset] [(.ref ob1), (.int (x3 &&& (2147483647 : Int32))), (.ref ob1)]) _ _ _
  refine own_len X30 hx hZ e30 A_ob1 rfl rfl (hb hby at_197) ?_
  show own_Out p e below _ T30 (mkF m 198 #[.val (.int x0), .val (.int x1), .val (.int x2), .val (.int x3), .val (.int x4), .val (.int (((x1 &&& (31 : Int32)) <<< ((16 : Int32) &&& 31)) ||| (x2 &&& (65535 : Int32)))), .val (.ref ob1), .unset] [(.int (29 : Int32)), (.int (x3 &&& (2147483647 : Int32))), (.ref ob1)]) _ _ _
  refine own_to (fun t k => iremM X30 hx rfl (hb hby at_198) rfl (by decide) k) ?_
  show own_Out p e below _ T30 (mkF m 199 #[.val (.int x0), .val (.int x1), .val (.int x2), .val (.int x3), .val (.int x4), .val (.int (((x1 &&& (31 : Int32)) <<< ((16 : Int32) &&& 31)) ||| (x2 &&& (65535 : Int32)))), .val (.ref ob1), .unset] [(.int ((x3 &&& (2147483647 : Int32)) % (29 : Int32))), (.ref ob1)]) _ _ _
  refine own_ldI X30 hx hZ e30 A_ob1 (own_idx x3 29 29 (by decide) (by decide)).1 (own_idx x3 29 29 (by decide) (by decide)).2 rfl rfl (hb hby at_199) fun w31 hw31 => ?_
  show own_Out p e below _ T30 (mkF m 200 #[.val (.int x0), .val (.int x1), .val (.int x2), .val (.int x3), .val (.int x4), .val (.int (((x1 &&& (31 : Int32)) <<< ((16 : Int32) &&& 31)) ||| (x2 &&& (65535 : Int32)))), .val (.ref ob1), .unset] [(.int w31)]) _ _ _
  refine own_to (fun t k => XS.iload X30.here hx rfl (hb hby at_200) rfl k) ?_
  show own_Out p e below _ T30 (mkF m 202 #[.val (.int x0), .val (.int x1), .val (.int x2), .val (.int x3), .val (.int x4), .val (.int (((x1 &&& (31 : Int32)) <<< ((16 : Int32) &&& 31)) ||| (x2 &&& (65535 : Int32)))), .val (.ref ob1), .unset] [(.int x4), (.int w31)]) _ _ _
  refine own_to (fun t k => XS.bipush X30.here hx rfl (hb hby at_202) k) ?_
  show own_Out p e below _ T30 (mkF m 204 #[.val (.int x0), .val (.int x1), .val (.int x2), .val (.int x3), .val (.int x4), .val (.int (((x1 &&& (31 : Int32)) <<< ((16 : Int32) &&& 31)) ||| (x2 &&& (65535 : Int32)))), .val (.ref ob1), .unset] [(.int (7 : Int32)), (.int x4), (.int w31)]) _ _ _
  refine own_to (fun t k => XS.iand X30.here hx rfl (hb hby at_204) rfl k) ?_
  show own_Out p e below _ T30 (mkF m 205 #[.val (.int x0), .val (.int x1), .val (.int x2), .val (.int x3), .val (.int x4), .val (.int (((x1 &&& (31 : Int32)) <<< ((16 : Int32) &&& 31)) ||| (x2 &&& (65535 : Int32)))), .val (.ref ob1), .unset] [(.int (x4 &&& (7 : Int32))), (.int w31)]) _ _ _
  refine own_to (fun t k => XS.iconst X30.here hx rfl (hb hby at_205) k) ?_
  show own_Out p e below _ T30 (mkF m 206 #[.val (.int x0), .val (.int x1), .val (.int x2), .val (.int x3), .val (.int x4), .val (.int (((x1 &&& (31 : Int32)) <<< ((16 : Int32) &&& 31)) ||| (x2 &&& (65535 : Int32)))), .val (.ref ob1), .unset] [(.int (4 : Int32)), (.int (x4 &&& (7 : Int32))), (.int w31)]) _ _ _
  refine own_to (fun t k => XS.isub X30.here hx rfl (hb hby at_206) rfl k) ?_
  show own_Out p e below _ T30 (mkF m 207 #[.val (.int x0), .val (.int x1), .val (.int x2), .val (.int x3), .val (.int x4), .val (.int (((x1 &&& (31 : Int32)) <<< ((16 : Int32) &&& 31)) ||| (x2 &&& (65535 : Int32)))), .val (.ref ob1), .unset] [(.int ((x4 &&& (7 : Int32)) - (4 : Int32))), (.int w31)]) _ _ _
  refine own_to (fun t k => XS.iadd X30.here hx rfl (hb hby at_207) rfl k) ?_
  show own_Out p e below _ T30 (mkF m 208 #[.val (.int x0), .val (.int x1), .val (.int x2), .val (.int x3), .val (.int x4), .val (.int (((x1 &&& (31 : Int32)) <<< ((16 : Int32) &&& 31)) ||| (x2 &&& (65535 : Int32)))), .val (.ref ob1), .unset] [(.int (w31 + ((x4 &&& (7 : Int32)) - (4 : Int32))))]) _ _ _
  refine own_to (fun t k => XS.istore X30.here hx rfl (hb hby at_208) rfl (l' := #[.val (.int x0), .val (.int x1), .val (.int x2), .val (.int x3), .val (.int x4), .val (.int (((x1 &&& (31 : Int32)) <<< ((16 : Int32) &&& 31)) ||| (x2 &&& (65535 : Int32)))), .val (.ref ob1), .val (.int (w31 + ((x4 &&& (7 : Int32)) - (4 : Int32))))]) rfl k) ?_
  show own_Out p e below _ T30 (mkF m 210 #[.val (.int x0), .val (.int x1), .val (.int x2), .val (.int x3), .val (.int x4), .val (.int (((x1 &&& (31 : Int32)) <<< ((16 : Int32) &&& 31)) ||| (x2 &&& (65535 : Int32)))), .val (.ref ob1), .val (.int (w31 + ((x4 &&& (7 : Int32)) - (4 : Int32))))] []) _ _ _
  generalize hv_pl : (((x1 &&& (31 : Int32)) <<< ((16 : Int32) &&& 31)) ||| (x2 &&& (65535 : Int32))) = pl
  show own_Out p e below _ T30 (mkF m 210 #[.val (.int x0), .val (.int x1), .val (.int x2), .val (.int x3), .val (.int x4), .val (.int pl), .val (.ref ob1), .val (.int (w31 + ((x4 &&& (7 : Int32)) - (4 : Int32))))] []) _ _ _
  generalize hv_ed : (w31 + ((x4 &&& (7 : Int32)) - (4 : Int32))) = ed
  show own_Out p e below _ T30 (mkF m 210 #[.val (.int x0), .val (.int x1), .val (.int x2), .val (.int x3), .val (.int x4), .val (.int pl), .val (.ref ob1), .val (.int ed)] []) _ _ _
  refine own_to (fun t k => XS.iloadN X30.here hx rfl (hb hby at_210) rfl k) ?_
  show own_Out p e below _ T30 (mkF m 211 #[.val (.int x0), .val (.int x1), .val (.int x2), .val (.int x3), .val (.int x4), .val (.int pl), .val (.ref ob1), .val (.int ed)] [(.int x0)]) _ _ _
  refine own_callS X30 hx hZ hown (argsL := [(.int x0)]) (rest := []) (hw _ (List.mem_of_getElem? (i := 27) rfl)) (hw _ (List.mem_of_getElem? (i := 28) rfl)) (hw _ (List.mem_of_getElem? (i := 29) rfl)) (hw _ (List.mem_of_getElem? (i := 30) rfl)) (by decide) (rm1 l Z a0 hw x0 hh30 n0 Z0 ) (by decide) (by decide) e30 rfl (by rw [hml]; rfl) (lenOf pd_1 rfl) rfl (W := 0) (by show 2 * 0 + _ ≤ _; exact Nat.le_of_eq rfl) (hb hby at_211) (by decide) (by decide) fun v32 T32 hh32 L32 X32 e32 hQ32 => ?_
  obtain ⟨rfl, NL32, he32⟩ := hQ32
  replace e32 := e32.trans he32
  have N32 := Fr.app N30 NL32
  show own_Out p e below _ T32 (mkF m 214 #[.val (.int x0), .val (.int x1), .val (.int x2), .val (.int x3), .val (.int x4), .val (.int pl), .val (.ref ob1), .val (.int ed)] [(.int (R1 x0))]) _ _ _
  refine own_to (fun t k => XS.iloadN X32.here hx rfl (hb hby at_214) rfl k) ?_
  show own_Out p e below _ T32 (mkF m 215 #[.val (.int x0), .val (.int x1), .val (.int x2), .val (.int x3), .val (.int x4), .val (.int pl), .val (.ref ob1), .val (.int ed)] [(.int x0), (.int (R1 x0))]) _ _ _
  refine own_callS X32 hx hZ hown (argsL := [(.int x0)]) (rest := [(.int (R1 x0))]) (hw _ (List.mem_of_getElem? (i := 34) rfl)) (hw _ (List.mem_of_getElem? (i := 35) rfl)) (hw _ (List.mem_of_getElem? (i := 36) rfl)) (hw _ (List.mem_of_getElem? (i := 37) rfl)) (by decide) (rm2 l Z a0 hw x0 hh30 n0 Z0 ) (by decide) (by decide) e32 rfl (by rw [hml]; rfl) (lenOf pd_1 rfl) rfl (W := 1) (by show 2 * 0 + _ ≤ _; exact Nat.le_of_eq rfl) (hb hby at_215) (by decide) (by decide) fun v33 T33 hh33 L33 X33 e33 hQ33 => ?_
  obtain ⟨rfl, NL33, he33⟩ := hQ33
  replace e33 := e33.trans he33
  have N33 := Fr.app N32 NL33
  show own_Out p e below _ T33 (mkF m 218 #[.val (.int x0), .val (.int x1), .val (.int x2), .val (.int x3), .val (.int x4), .val (.int pl), .val (.ref ob1), .val (.int ed)] [(.int (R2 x0)), (.int (R1 x0))]) _ _ _
  have hc218 : (R1 x0) = (R2 x0) := own_eq _
  refine own_to (fun t k => XS.icmpNo X33.here hx rfl (hb hby at_218) rfl (teq hc218).2 k) ?_
  show own_Out p e below _ T33 (mkF m 221 #[.val (.int x0), .val (.int x1), .val (.int x2), .val (.int x3), .val (.int x4), .val (.int pl), .val (.ref ob1), .val (.int ed)] []) _ _ _
  refine own_to (fun t k => XS.iload X33.here hx rfl (hb hby at_221) rfl k) ?_
  show own_Out p e below _ T33 (mkF m 223 #[.val (.int x0), .val (.int x1), .val (.int x2), .val (.int x3), .val (.int x4), .val (.int pl), .val (.ref ob1), .val (.int ed)] [(.int pl)]) _ _ _
  refine own_callS X33 hx hZ hown (argsL := [(.int pl)]) (rest := []) (hw _ (List.mem_of_getElem? (i := 27) rfl)) (hw _ (List.mem_of_getElem? (i := 28) rfl)) (hw _ (List.mem_of_getElem? (i := 29) rfl)) (hw _ (List.mem_of_getElem? (i := 30) rfl)) (by decide) (rm1 l Z a0 hw pl hh30 n0 Z0 ) (by decide) (by decide) e33 rfl (by rw [hml]; rfl) (lenOf pd_1 rfl) rfl (W := 0) (by show 2 * 0 + _ ≤ _; exact Nat.le_of_eq rfl) (hb hby at_223) (by decide) (by decide) fun v34 T34 hh34 L34 X34 e34 hQ34 => ?_
  obtain ⟨rfl, NL34, he34⟩ := hQ34
  replace e34 := e34.trans he34
  have N34 := Fr.app N33 NL34
  show own_Out p e below _ T34 (mkF m 226 #[.val (.int x0), .val (.int x1), .val (.int x2), .val (.int x3), .val (.int x4), .val (.int pl), .val (.ref ob1), .val (.int ed)] [(.int (R1 pl))]) _ _ _
  refine own_to (fun t k => XS.iload X34.here hx rfl (hb hby at_226) rfl k) ?_
  show own_Out p e below _ T34 (mkF m 228 #[.val (.int x0), .val (.int x1), .val (.int x2), .val (.int x3), .val (.int x4), .val (.int pl), .val (.ref ob1), .val (.int ed)] [(.int pl), (.int (R1 pl))]) _ _ _
  refine own_callS X34 hx hZ hown (argsL := [(.int pl)]) (rest := [(.int (R1 pl))]) (hw _ (List.mem_of_getElem? (i := 34) rfl)) (hw _ (List.mem_of_getElem? (i := 35) rfl)) (hw _ (List.mem_of_getElem? (i := 36) rfl)) (hw _ (List.mem_of_getElem? (i := 37) rfl)) (by decide) (rm2 l Z a0 hw pl hh30 n0 Z0 ) (by decide) (by decide) e34 rfl (by rw [hml]; rfl) (lenOf pd_1 rfl) rfl (W := 1) (by show 2 * 0 + _ ≤ _; exact Nat.le_of_eq rfl) (hb hby at_228) (by decide) (by decide) fun v35 T35 hh35 L35 X35 e35 hQ35 => ?_
  obtain ⟨rfl, NL35, he35⟩ := hQ35
  replace e35 := e35.trans he35
  have N35 := Fr.app N34 NL35
  show own_Out p e below _ T35 (mkF m 231 #[.val (.int x0), .val (.int x1), .val (.int x2), .val (.int x3), .val (.int x4), .val (.int pl), .val (.ref ob1), .val (.int ed)] [(.int (R2 pl)), (.int (R1 pl))]) _ _ _
  have hc231 : (R1 pl) = (R2 pl) := own_eq _
  refine own_to (fun t k => XS.icmpNo X35.here hx rfl (hb hby at_231) rfl (teq hc231).2 k) ?_
  show own_Out p e below _ T35 (mkF m 234 #[.val (.int x0), .val (.int x1), .val (.int x2), .val (.int x3), .val (.int x4), .val (.int pl), .val (.ref ob1), .val (.int ed)] []) _ _ _
  refine own_to (fun t k => XS.iload X35.here hx rfl (hb hby at_234) rfl k) ?_
  show own_Out p e below _ T35 (mkF m 236 #[.val (.int x0), .val (.int x1), .val (.int x2), .val (.int x3), .val (.int x4), .val (.int pl), .val (.ref ob1), .val (.int ed)] [(.int ed)]) _ _ _
  refine own_callS X35 hx hZ hown (argsL := [(.int ed)]) (rest := []) (hw _ (List.mem_of_getElem? (i := 27) rfl)) (hw _ (List.mem_of_getElem? (i := 28) rfl)) (hw _ (List.mem_of_getElem? (i := 29) rfl)) (hw _ (List.mem_of_getElem? (i := 30) rfl)) (by decide) (rm1 l Z a0 hw ed hh30 n0 Z0 ) (by decide) (by decide) e35 rfl (by rw [hml]; rfl) (lenOf pd_1 rfl) rfl (W := 0) (by show 2 * 0 + _ ≤ _; exact Nat.le_of_eq rfl) (hb hby at_236) (by decide) (by decide) fun v36 T36 hh36 L36 X36 e36 hQ36 => ?_
  obtain ⟨rfl, NL36, he36⟩ := hQ36
  replace e36 := e36.trans he36
  have N36 := Fr.app N35 NL36
  show own_Out p e below _ T36 (mkF m 239 #[.val (.int x0), .val (.int x1), .val (.int x2), .val (.int x3), .val (.int x4), .val (.int pl), .val (.ref ob1), .val (.int ed)] [(.int (R1 ed))]) _ _ _
  refine own_to (fun t k => XS.iload X36.here hx rfl (hb hby at_239) rfl k) ?_
  show own_Out p e below _ T36 (mkF m 241 #[.val (.int x0), .val (.int x1), .val (.int x2), .val (.int x3), .val (.int x4), .val (.int pl), .val (.ref ob1), .val (.int ed)] [(.int ed), (.int (R1 ed))]) _ _ _
  refine own_callS X36 hx hZ hown (argsL := [(.int ed)]) (rest := [(.int (R1 ed))]) (hw _ (List.mem_of_getElem? (i := 34) rfl)) (hw _ (List.mem_of_getElem? (i := 35) rfl)) (hw _ (List.mem_of_getElem? (i := 36) rfl)) (hw _ (List.mem_of_getElem? (i := 37) rfl)) (by decide) (rm2 l Z a0 hw ed hh30 n0 Z0 ) (by decide) (by decide) e36 rfl (by rw [hml]; rfl) (lenOf pd_1 rfl) rfl (W := 1) (by show 2 * 0 + _ ≤ _; exact Nat.le_of_eq rfl) (hb hby at_241) (by decide) (by decide) fun v37 T37 hh37 L37 X37 e37 hQ37 => ?_
  obtain ⟨rfl, NL37, he37⟩ := hQ37
  replace e37 := e37.trans he37
  have N37 := Fr.app N36 NL37
  show own_Out p e below _ T37 (mkF m 244 #[.val (.int x0), .val (.int x1), .val (.int x2), .val (.int x3), .val (.int x4), .val (.int pl), .val (.ref ob1), .val (.int ed)] [(.int (R2 ed)), (.int (R1 ed))]) _ _ _
  have hc244 : (R1 ed) = (R2 ed) := own_eq _
  refine own_to (fun t k => XS.icmpNo X37.here hx rfl (hb hby at_244) rfl (teq hc244).2 k) ?_
  show own_Out p e below _ T37 (mkF m 247 #[.val (.int x0), .val (.int x1), .val (.int x2), .val (.int x3), .val (.int x4), .val (.int pl), .val (.ref ob1), .val (.int ed)] []) _ _ _
  refine own_to (fun t k => XS.iconst X37.here hx rfl (hb hby at_247) k) ?_
  show own_Out p e below _ T37 (mkF m 248 #[.val (.int x0), .val (.int x1), .val (.int x2), .val (.int x3), .val (.int x4), .val (.int pl), .val (.ref ob1), .val (.int ed)] [(.int (1 : Int32))]) _ _ _
  refine own_to (fun t k => XS.goto X37.here hx rfl (pc0 := 248) (pc' := 252) rfl (hb hby at_248) (by decide) (by decide) k) ?_
  show own_Out p e below _ T37 (mkF m 252 #[.val (.int x0), .val (.int x1), .val (.int x2), .val (.int x3), .val (.int x4), .val (.int pl), .val (.ref ob1), .val (.int ed)] [(.int (1 : Int32))]) _ _ _
  refine own_retV X37 hx hlk (w := .int (1 : Int32)) hret rfl (Or.inl ⟨rfl, by simp, _, rfl⟩) (hb hby at_252) (by decide) (by decide) ?_
  rw [e37]
  exact ⟨rfl, N37⟩
set_option maxRecDepth 65536 in
set_option maxHeartbeats 40000000 in
theorem comes_1 {Post : Tables → Env → Array Value → State → Outcome → State → Prop} (hpost : ∀ tb e args s v u, (limb_1_1.after args s (.returned v) u = true ∧ limb_1_2.after args s (.returned v) u = true ∧ True) → FrameEnd s (.returned v) u (Jvm.fieldLocs frame_1_writes args s ++ Jvm.arrayLocs frame_1_arrays args s ++ Jvm.staticLocs frame_1_statics s) 16 128 → Post tb e args s (.returned v) u) :
    ArmFor flags0 classFile x code maxLocals ret World_1 tables_1 room_1 Calls_1 rest_1 Pre_1 Post := by
  intro l hfl _ _ p e ha hc hk s m args below hf hA hF happ hP
  obtain ⟨hcalls, hrest, hpre⟩ := hP
  obtain ⟨-, -, -, hnamed, -, -, -, hat⟩ := (Spec.applies_iff hf).mp happ
  obtain ⟨hg, hn⟩ := and_e (Cond.before_iff.mp (show (Jvm.Cond.and given_1 narrow_1).before args s = true from hpre))
  obtain ⟨gg2, gg3⟩ := and_e hg
  obtain ⟨gg4, gg5⟩ := and_e gg3
  obtain ⟨gg6, gg7⟩ := and_e gg5
  obtain ⟨gg8, gg9⟩ := and_e gg7
  obtain ⟨gg10, gg11⟩ := and_e gg9
  obtain ⟨w0, w1, w2, w3, w4, rfl⟩ : ∃ w0 w1 w2 w3 w4 : Value, args = #[w0, w1, w2, w3, w4] := by
    have hs : args.size = 5 := by simpa [Cond.value, given_1] using gg2
    obtain ⟨L⟩ := args
    match L, hs with
    | [w0, w1, w2, w3, w4], _ => exact ⟨w0, w1, w2, w3, w4, rfl⟩
  have hw := fun d (hd : d ∈ tables_1) => atoms_spec (ws := Jvm.Cond.code x code maxLocals ret :: tables_1) hat d (List.mem_cons_of_mem _ hd)
  have hfit : Fit s := fun {y c} hc i hi => by
    obtain ⟨ha, rfl⟩ := Array.getElem?_eq_some_iff.mp hc
    have q := List.all_eq_true.mp ((Array.all_eq_true_iff_forall_mem.mp hF) _ (Array.getElem_mem ha)) i (List.mem_range.mpr hi)
    simpa [Array.getElem?_eq_getElem hi] using q
  obtain ⟨i0, ei0⟩ := is_v gg4
  obtain rfl : w0 = (.int i0) := Option.some.inj ei0
  obtain ⟨i1, ei1⟩ := is_v gg6
  obtain rfl : w1 = (.int i1) := Option.some.inj ei1
  obtain ⟨i2, ei2⟩ := is_v gg8
  obtain rfl : w2 = (.int i2) := Option.some.inj ei2
  obtain ⟨i3, ei3⟩ := is_v gg10
  obtain rfl : w3 = (.int i3) := Option.some.inj ei3
  obtain ⟨i4, ei4⟩ := is_v gg11
  obtain rfl : w4 = (.int i4) := Option.some.inj ei4
  obtain ⟨n, o, h1, h2, h3, _, L, rfl, ⟨rfl, N⟩, hq⟩ := rm0 l s _ hw i0 i1 i2 i3 i4 s.heap s.heap.size (Nat.le_refl _) tables_1 p e ha hc hk s m _ below hf ((Spec.applies_iff_loose hf).mp happ).1 ⟨rfl, State.Warmed39.refl s, rfl⟩ trivial
  refine ⟨n, _, h1, h2, h3, hpost _ _ _ _ _ _ ⟨Cond.after_iff.mpr rfl, Cond.after_iff.mpr (eq_i res_at (Term.int_eval (1)) rfl), trivial⟩ ⟨hq.1, hq.2.1, (hq.2.2.sift fun y hy => Or.inr (N y hy)).mono (by decide) (by decide)⟩⟩
theorem main_1_1 : Claimed_1_1 := comes_1 fun _ _ _ _ _ _ h hF => ⟨h.1, hF⟩
theorem main_1_2 : Claimed_1_2 := comes_1 fun _ _ _ _ _ _ h hF => ⟨h.2.1, hF⟩
end Jvm.Pilot.@@N@@
namespace Jvm.Pilot.@@N@@
open Jvm Jvm.ClassFile Sem Op Lib Jvm.Free Jvm.Stand Jvm.Pilot.@@N@@.Jvm.D
/-! MADE BY PROGRAM (witnessworld.py) out of the Statement's table words and the real class files: 11 classes; the members and pool entries that the words name. The judged class is class 1, her method 1. -/
namespace start1
open Jvm.ClassFile
def u (s : String) : CpInfo := .utf8 (stringToUtf16 s)
/-- a pool by its gaps: so many unusable entries, then the entry; so many at the end -/
def gap : Nat → List CpInfo → List CpInfo
  | 0, r => r
  | n + 1, r => .unusable :: gap n r
def poolList (es : List (Nat × CpInfo)) (last : Nat) : List CpInfo := es.foldr (fun e r => gap e.1 (e.2 :: r)) (gap last [])
def pool (es : List (Nat × CpInfo)) (last : Nat) : Array CpInfo := ⟨poolList es last⟩
def fileOf (pool : Array CpInfo) (this : Nat) (attrs : Array Attribute := #[]) (ms : Array MethodInfo := #[]) (fl : Nat := 33) (sup : Nat := 0) (ifs : Array Nat := #[]) (fds : Array FieldInfo := #[]) : ClassFile where
  minorVersion := 0
  majorVersion := 65
  constantPool := pool
  accessFlags := fl
  thisClass := this
  superClass := sup
  interfaces := ifs
  fields := fds
  methods := ms
  attributes := attrs
def plain (name : String) (sup : Option ClassId) : Class where
  name := name
  kind := .ordinary
  loader := none
  accessFlags := 33
  super := sup
  interfaces := #[]
  cf := none
  fields := #[]
  methods := #[]
  instanceTypes := #[]
  staticTypes := #[]
  resolved := #[]
  callSites := []
  init := .initialized
  statics := none
  mirror := none

def pool0 : Array CpInfo := pool [(5, u "<init>"), (0, u "()V"), (1, .class_ 10), (1, u "java/lang/Object")] 113

def k0m0 : Method := { name := "<init>", desc := "()V", sig := { parameters := [], returnType := none }, accessFlags := 1, code := none }
/-- java/lang/Object -/
def k0 : Class := { plain "java/lang/Object" none with
  accessFlags := 33
  interfaces := #[]
  cf := some (fileOf pool0 8 #[] #[{ accessFlags := 1, nameIndex := 5, descriptorIndex := 6, attributes := #[] }] 33 0 #[] #[])
  fields := #[]
  methods := #[k0m0]
  instanceTypes := #[]
  staticTypes := #[]
  resolved := Array.replicate 124 none
  statics := none }

def pool1 : Array CpInfo := pool [(2, .class_ 4), (1, u "java/lang/Object"), (0, u "<init>"), (0, u "()V"), (0, .integer 65535), (0, .integer 55295), (0, .integer 55296), (0, .integer 63743), (0, .integer 63744), (0, .integer 64975), (0, .integer 64976), (0, .integer 65007), (0, .integer 65008), (0, .integer 65519), (0, .integer 65520), (0, .integer 65536), (0, .integer 131069), (0, .integer 131070), (0, .integer 131072), (0, .integer 917501), (0, .integer 917504), (0, .integer 921599), (0, .integer 921600), (0, .integer 983037), (0, .integer 983038), (0, .integer 983040), (0, .integer 1114111), (0, .integer 1114112), (2, .integer 2147483648), (0, .integer 2147483647), (0, .methodref 36 37), (0, .class_ 38), (0, .nameAndType 39 40), (0, u "com/example/constraint/constraint/schema/UriReference"), (0, u "isUcsCharacter"), (0, u "(I)Z"), (0, .methodref 42 43), (0, .class_ 44), (0, .nameAndType 45 40), (0, u "com/example/constraint/constraint/schema/UriReferenceIsUcsCharacterPinLaw"), (0, u "ref"), (0, .methodref 42 47), (0, .nameAndType 48 49), (0, u "in"), (0, u "(III)Z"), (0, .integer 196605), (0, .integer 196608), (0, .integer 262141), (0, .integer 262144), (0, .integer 327677), (0, .integer 327680), (0, .integer 393213), (0, .integer 393216), (0, .integer 458749), (0, .integer 458752), (0, .integer 524285), (0, .integer 524288), (0, .integer 589821), (0, .integer 589824), (0, .integer 655357), (0, .integer 655360), (0, .integer 720893), (0, .integer 720896), (0, .integer 786429), (0, .integer 786432), (0, .integer 851965), (0, .integer 851968), (2, u "law"), (0, u "(IIIII)Z")] 5

def k1m0 : Method := { name := "<init>", desc := "()V", sig := { parameters := [], returnType := none }, accessFlags := 2, code := none }
def k1c1 : Code := { maxStack := 4, maxLocals := 8, code := code, exceptionTable := #[], attributes := #[] }
def k1m1 : Method := { name := "law", desc := "(IIIII)Z", sig := { parameters := [.int, .int, .int, .int, .int], returnType := some .boolean }, accessFlags := 9, code := some k1c1 }
def k1c2 : Code := { maxStack := 2, maxLocals := 3, code := method_3_code, exceptionTable := #[], attributes := #[] }
def k1m2 : Method := { name := "in", desc := "(III)Z", sig := { parameters := [.int, .int, .int], returnType := some .boolean }, accessFlags := 10, code := some k1c2 }
def k1c3 : Code := { maxStack := 3, maxLocals := 1, code := method_4_code, exceptionTable := #[], attributes := #[] }
def k1m3 : Method := { name := "ref", desc := "(I)Z", sig := { parameters := [.int], returnType := some .boolean }, accessFlags := 10, code := some k1c3 }
/-- com/example/constraint/constraint/schema/UriReferenceIsUcsCharacterPinLaw -/
def k1 : Class := { plain "com/example/constraint/constraint/schema/UriReferenceIsUcsCharacterPinLaw" (some 0) with
  accessFlags := 49
  interfaces := #[]
  cf := some (fileOf pool1 42 #[] #[{ accessFlags := 2, nameIndex := 5, descriptorIndex := 6, attributes := #[] }, { accessFlags := 9, nameIndex := 74, descriptorIndex := 75, attributes := #[] }, { accessFlags := 10, nameIndex := 48, descriptorIndex := 49, attributes := #[] }, { accessFlags := 10, nameIndex := 45, descriptorIndex := 40, attributes := #[] }] 49 2 #[] #[])
  fields := #[]
  methods := #[k1m0, k1m1, k1m2, k1m3]
  instanceTypes := #[]
  staticTypes := #[]
  resolved := Array.replicate 81 none
  statics := none }

def pool2 : Array CpInfo := pool [(2, .class_ 4), (1, u "java/lang/Object"), (0, u "<init>"), (0, u "()V"), (0, .class_ 8), (0, u "java/lang/Record")] 13

def k2m0 : Method := { name := "<init>", desc := "()V", sig := { parameters := [], returnType := none }, accessFlags := 4, code := none }
/-- java/lang/Record -/
def k2 : Class := { plain "java/lang/Record" (some 0) with
  accessFlags := 1057
  interfaces := #[]
  cf := some (fileOf pool2 7 #[] #[{ accessFlags := 4, nameIndex := 5, descriptorIndex := 6, attributes := #[] }] 1057 2 #[] #[])
  fields := #[]
  methods := #[k2m0]
  instanceTypes := #[]
  staticTypes := #[]
  resolved := Array.replicate 22 none
  statics := none }

def pool3 : Array CpInfo := pool [(1, .class_ 2), (0, u "java/lang/Comparable"), (0, .class_ 4), (0, u "java/lang/Object")] 7

/-- java/lang/Comparable -/
def k3 : Class := { plain "java/lang/Comparable" (some 0) with
  accessFlags := 1537
  interfaces := #[]
  cf := some (fileOf pool3 1 #[] #[] 1537 3 #[] #[])
  fields := #[]
  methods := #[]
  instanceTypes := #[]
  staticTypes := #[]
  resolved := Array.replicate 12 none
  statics := none }

def pool4 : Array CpInfo := pool [(2, .class_ 4), (1, u "java/lang/Record"), (3, .class_ 10), (1, u "com/example/constraint/constraint/schema/UriReference"), (0, u "scheme"), (0, u "Ljava/lang/String;"), (2, u "authority"), (2, u "path"), (0, u "Lcom/example/constraint/constraint/schema/UriReference$Path;"), (2, u "query"), (2, u "fragment"), (38, .class_ 66), (1, u "com/example/constraint/constraint/schema/UriReference$Path"), (19, u "(I)Z"), (114, u "isUcsCharacter"), (3, .integer 55295), (0, .integer 63744), (0, .integer 64975), (0, .integer 65008), (0, .integer 65519), (0, .integer 65536), (0, .integer 983040), (0, .integer 65535), (0, .integer 65533), (0, .integer 917504), (0, .integer 921600), (151, u "ORDER"), (0, u "Ljava/util/Comparator;"), (64, u "COMPONENT_ORDER"), (18, .class_ 453), (0, u "java/lang/Comparable"), (3, u "UNRESERVED_PUNCTUATION"), (1, u "PUNCTUATION"), (0, u "AUTHORITY_PUNCTUATION"), (0, u "USER_INFORMATION_PUNCTUATION"), (0, u "HOST_PUNCTUATION"), (0, u "SCHEME_PUNCTUATION"), (0, u "HEX_DIGITS")] 75

def k4c0 : Code := { maxStack := 2, maxLocals := 1, code := prog_170_method_6_code, exceptionTable := #[], attributes := #[] }
def k4m0 : Method := { name := "isUcsCharacter", desc := "(I)Z", sig := { parameters := [.int], returnType := some .boolean }, accessFlags := 8, code := some k4c0 }
/-- com/example/constraint/constraint/schema/UriReference -/
def k4 : Class := { plain "com/example/constraint/constraint/schema/UriReference" (some 2) with
  accessFlags := 48
  interfaces := #[3]
  cf := some (fileOf pool4 8 #[.nestMembers #[64]] #[{ accessFlags := 8, nameIndex := 201, descriptorIndex := 86, attributes := #[] }] 48 2 #[452] #[{ accessFlags := 18, nameIndex := 11, descriptorIndex := 12, attributes := #[] }, { accessFlags := 18, nameIndex := 15, descriptorIndex := 12, attributes := #[] }, { accessFlags := 18, nameIndex := 18, descriptorIndex := 19, attributes := #[] }, { accessFlags := 18, nameIndex := 22, descriptorIndex := 12, attributes := #[] }, { accessFlags := 18, nameIndex := 25, descriptorIndex := 12, attributes := #[] }, { accessFlags := 26, nameIndex := 433, descriptorIndex := 368, attributes := #[] }, { accessFlags := 26, nameIndex := 367, descriptorIndex := 368, attributes := #[] }, { accessFlags := 26, nameIndex := 457, descriptorIndex := 12, attributes := #[] }, { accessFlags := 26, nameIndex := 459, descriptorIndex := 12, attributes := #[] }, { accessFlags := 26, nameIndex := 460, descriptorIndex := 12, attributes := #[] }, { accessFlags := 26, nameIndex := 461, descriptorIndex := 12, attributes := #[] }, { accessFlags := 26, nameIndex := 462, descriptorIndex := 12, attributes := #[] }, { accessFlags := 26, nameIndex := 463, descriptorIndex := 12, attributes := #[] }, { accessFlags := 26, nameIndex := 464, descriptorIndex := 12, attributes := #[] }])
  fields := #[{ name := "scheme", type := (.object "java/lang/String"), accessFlags := 18, slot := 0, constantValue := 0 }, { name := "authority", type := (.object "java/lang/String"), accessFlags := 18, slot := 1, constantValue := 0 }, { name := "path", type := (.object "com/example/constraint/constraint/schema/UriReference$Path"), accessFlags := 18, slot := 2, constantValue := 0 }, { name := "query", type := (.object "java/lang/String"), accessFlags := 18, slot := 3, constantValue := 0 }, { name := "fragment", type := (.object "java/lang/String"), accessFlags := 18, slot := 4, constantValue := 0 }, { name := "COMPONENT_ORDER", type := (.object "java/util/Comparator"), accessFlags := 26, slot := 0, constantValue := 0 }, { name := "ORDER", type := (.object "java/util/Comparator"), accessFlags := 26, slot := 1, constantValue := 0 }, { name := "UNRESERVED_PUNCTUATION", type := (.object "java/lang/String"), accessFlags := 26, slot := 2, constantValue := 0 }, { name := "PUNCTUATION", type := (.object "java/lang/String"), accessFlags := 26, slot := 3, constantValue := 0 }, { name := "AUTHORITY_PUNCTUATION", type := (.object "java/lang/String"), accessFlags := 26, slot := 4, constantValue := 0 }, { name := "USER_INFORMATION_PUNCTUATION", type := (.object "java/lang/String"), accessFlags := 26, slot := 5, constantValue := 0 }, { name := "HOST_PUNCTUATION", type := (.object "java/lang/String"), accessFlags := 26, slot := 6, constantValue := 0 }, { name := "SCHEME_PUNCTUATION", type := (.object "java/lang/String"), accessFlags := 26, slot := 7, constantValue := 0 }, { name := "HEX_DIGITS", type := (.object "java/lang/String"), accessFlags := 26, slot := 8, constantValue := 0 }]
  methods := #[k4m0]
  instanceTypes := #[(.object "java/lang/String"), (.object "java/lang/String"), (.object "com/example/constraint/constraint/schema/UriReference$Path"), (.object "java/lang/String"), (.object "java/lang/String")]
  staticTypes := #[(.object "java/util/Comparator"), (.object "java/util/Comparator"), (.object "java/lang/String"), (.object "java/lang/String"), (.object "java/lang/String"), (.object "java/lang/String"), (.object "java/lang/String"), (.object "java/lang/String"), (.object "java/lang/String")]
  resolved := Array.replicate 540 none
  statics := none }

def pool5 : Array CpInfo := pool [(1, u "java/lang/Cloneable"), (0, .class_ 1), (0, u "java/lang/Object"), (0, .class_ 3)] 3

/-- java/lang/Cloneable -/
def k5 : Class := { plain "java/lang/Cloneable" (some 0) with
  accessFlags := 1537
  interfaces := #[]
  cf := some (fileOf pool5 2 #[] #[] 1537 4 #[] #[])
  fields := #[]
  methods := #[]
  instanceTypes := #[]
  staticTypes := #[]
  resolved := Array.replicate 8 none
  statics := none }

def pool6 : Array CpInfo := pool [(1, u "java/io/Serializable"), (0, .class_ 1), (0, u "java/lang/Object"), (0, .class_ 3)] 3

/-- java/io/Serializable -/
def k6 : Class := { plain "java/io/Serializable" (some 0) with
  accessFlags := 1537
  interfaces := #[]
  cf := some (fileOf pool6 2 #[] #[] 1537 4 #[] #[])
  fields := #[]
  methods := #[]
  instanceTypes := #[]
  staticTypes := #[]
  resolved := Array.replicate 8 none
  statics := none }

/-- the primitive byte -/
def k7 : Class := { plain "byte" none with kind := .primitive 'B', accessFlags := 0x411 }
/-- [B -/
def k8 : Class := { plain "[B" (some 0) with kind := .array 7 .byte, interfaces := #[5, 6], accessFlags := 1041 }

/-- the primitive int -/
def k9 : Class := { plain "int" none with kind := .primitive 'I', accessFlags := 0x411 }
/-- [I -/
def k10 : Class := { plain "[I" (some 0) with kind := .array 9 .int, interfaces := #[5, 6], accessFlags := 1041 }

def heap : Heap := #[]
def classes : Array Class := #[k0, k1, k2, k3, k4, k5, k6, k7, k8, k9, k10]
def interned : List (Array UInt16 × Addr) := []
def slotsUsed : Nat := 0
def theMethod : MethodId := ⟨1, 1⟩
def args0 : Array Value := #[.int 5, .int 65, .int 1, .int 2, .int 3]
def aboutOver (below : List Frame) : State where
  vm := { classes := classes, interned := interned.toArray }
  heap := heap
  slotsUsed := slotsUsed
  threads := #[{ frames := .invoking theMethod args0 :: below }]
def below0 : List Frame := [.native { method := ⟨0, 0⟩, args := #[] }]
def about1 : State := aboutOver below0
def p0 : Program := .bare "" "" ""
def e0 : Env := launch0.env 0 0 0
theorem w_frames : about1.frames = Frame.invoking theMethod args0 :: below0 := rfl
set_option maxRecDepth 65536 in
theorem w_args : argsFit about1.vm theMethod args0 = true := by decide +kernel
set_option maxRecDepth 65536 in
theorem w_heap : heapFits about1 = true := by decide +kernel
set_option maxRecDepth 65536 in
theorem w_runnable : about1.curStatus? = some .runnable := by decide +kernel
set_option maxRecDepth 65536 in
theorem w_alone : about1.alone = true := by decide +kernel
set_option maxRecDepth 65536 in
theorem w_named : about1.methodNamed? x = some theMethod := by decide +kernel
set_option maxRecDepth 65536 in
theorem w_hears : about1.hears theMethod below0 = true := by decide +kernel
set_option maxRecDepth 65536 in
theorem w_ripe : about1.ripe theMethod args0 below0 = true := by decide +kernel
theorem w_running : about1.status = .running := rfl
set_option maxRecDepth 65536 in
theorem w_room : about1.hasRoom e0.platform room_1 = true :=
  launch0.hasRoom_least _ room_1 (by decide +kernel) (by decide +kernel) (by decide +kernel) (by decide +kernel) (by decide +kernel) (by decide +kernel)
theorem allAtoms_all (ts : List Jvm.Cond) (a : Array Jvm.Value) (st : Jvm.State) : (allAtoms ts).before a st = ts.all (fun c => c.before a st) := by
  induction ts with
  | nil => rfl
  | cons c t ih =>
    show (Jvm.Cond.and c (allAtoms t)).before a st = _
    rw [Jvm.Cond.before_and, ih, List.all_cons]
def words1 : List Jvm.Cond := Jvm.Cond.code x code maxLocals ret :: tables_1
/-- a 'code' word, met by the world's own term for the bytes: nothing is compared byte by byte -/
theorem code_word {y : MethodName} {bytes : ByteArray} {mx : Nat} {rt : Option FieldType} {a : Array Value} {s : State} {m : MethodId} {meth : Method} {c : Code} (h1 : s.methodNamed? y = some m) (h2 : s.vm.method? m = some meth) (h3 : meth.code = some c) (h4 : c.code = bytes)
    (h5 : (c.maxLocals == mx && c.exceptionTable.isEmpty && decide (c.maxStack ≤ mostOperands) && decide (meth.sig.returnType = rt) && !meth.locks && decide (parseMethodDescriptor y.desc = some meth.sig)) = true) : (Jvm.Cond.code y bytes mx rt).before a s = true := by
  simp only [Bool.and_eq_true, beq_iff_eq, Bool.not_eq_true', decide_eq_true_eq] at h5
  obtain ⟨⟨⟨⟨⟨g1, g2⟩, g3⟩, g4⟩, g5⟩, g6⟩ := h5
  simp [Cond.before, Cond.holds, Cond.value, h1, h2, h3, h4, g1, g2, g3, g4, g5, g6]
def isCode : Jvm.Cond → Bool
  | .code _ _ _ _ => true
  | _ => false
theorem all_split {L : List Jvm.Cond} {P : Jvm.Cond → Bool} (h1 : L.all (fun c => isCode c || P c) = true) (h2 : ∀ c ∈ L.filter isCode, P c = true) : L.all P = true := by
  refine List.all_eq_true.mpr fun c hc => ?_
  have h := List.all_eq_true.mp h1 c hc
  rcases Bool.eq_false_or_eq_true (isCode c) with hi | hi
  · exact h2 c (List.mem_filter.mpr ⟨hc, hi⟩)
  · simpa [hi] using h
set_option maxRecDepth 65536 in
theorem w_c0 : (Jvm.Cond.code x code maxLocals ret).before args0 about1 = true := code_word (m := ⟨1, 1⟩) (meth := k1m1) (c := k1c1) (by decide +kernel) rfl rfl rfl (by decide +kernel)
set_option maxRecDepth 65536 in
theorem w_c1 : (Jvm.Cond.code ({ cls := "com/example/constraint/constraint/schema/UriReference", name := "isUcsCharacter", desc := "(I)Z" } : Jvm.MethodName) prog_170_method_6_code (1 : Nat) (Option.some Jvm.ClassFile.FieldType.boolean)).before args0 about1 = true := code_word (m := ⟨4, 0⟩) (meth := k4m0) (c := k4c0) (by decide +kernel) rfl rfl rfl (by decide +kernel)
set_option maxRecDepth 65536 in
theorem w_c2 : (Jvm.Cond.code ({ cls := "com/example/constraint/constraint/schema/UriReferenceIsUcsCharacterPinLaw", name := "ref", desc := "(I)Z" } : Jvm.MethodName) method_4_code (1 : Nat) (Option.some Jvm.ClassFile.FieldType.boolean)).before args0 about1 = true := code_word (m := ⟨1, 3⟩) (meth := k1m3) (c := k1c3) (by decide +kernel) rfl rfl rfl (by decide +kernel)
set_option maxRecDepth 65536 in
theorem w_c3 : (Jvm.Cond.code ({ cls := "com/example/constraint/constraint/schema/UriReferenceIsUcsCharacterPinLaw", name := "in", desc := "(III)Z" } : Jvm.MethodName) method_3_code (3 : Nat) (Option.some Jvm.ClassFile.FieldType.boolean)).before args0 about1 = true := code_word (m := ⟨1, 2⟩) (meth := k1m2) (c := k1c2) (by decide +kernel) rfl rfl rfl (by decide +kernel)
def codes1 : List Jvm.Cond := [Jvm.Cond.code x code maxLocals ret, Jvm.Cond.code ({ cls := "com/example/constraint/constraint/schema/UriReference", name := "isUcsCharacter", desc := "(I)Z" } : Jvm.MethodName) prog_170_method_6_code (1 : Nat) (Option.some Jvm.ClassFile.FieldType.boolean), Jvm.Cond.code ({ cls := "com/example/constraint/constraint/schema/UriReferenceIsUcsCharacterPinLaw", name := "ref", desc := "(I)Z" } : Jvm.MethodName) method_4_code (1 : Nat) (Option.some Jvm.ClassFile.FieldType.boolean), Jvm.Cond.code ({ cls := "com/example/constraint/constraint/schema/UriReferenceIsUcsCharacterPinLaw", name := "in", desc := "(III)Z" } : Jvm.MethodName) method_3_code (3 : Nat) (Option.some Jvm.ClassFile.FieldType.boolean)]
set_option maxRecDepth 65536 in
theorem codes_eq : words1.filter isCode = codes1 := rfl
theorem w_codes : ∀ c ∈ words1.filter isCode, c.before args0 about1 = true := by
  rw [codes_eq]
  intro c hc
  simp only [codes1, List.mem_cons, List.not_mem_nil, or_false] at hc
  rcases hc with rfl | rfl | rfl | rfl
  · exact w_c0
  · exact w_c1
  · exact w_c2
  · exact w_c3
set_option maxRecDepth 65536 in
theorem w_t1 : (words1.take 24).all (fun c => isCode c || c.before args0 about1) = true := by decide +kernel
set_option maxRecDepth 65536 in
theorem w_t2 : ((words1.drop 24).take 24).all (fun c => isCode c || c.before args0 about1) = true := by decide +kernel
set_option maxRecDepth 65536 in
theorem w_t3 : ((words1.drop 24).drop 24).all (fun c => isCode c || c.before args0 about1) = true := by decide +kernel
theorem w_tables : (allAtoms (Jvm.Cond.code x code maxLocals ret :: tables_1)).before args0 about1 = true := by
  rw [allAtoms_all]
  show words1.all (fun c => c.before args0 about1) = true
  refine all_split ?_ w_codes
  rw [← List.take_append_drop 24 words1, List.all_append, w_t1, ← List.take_append_drop 24 (words1.drop 24), List.all_append, w_t2, w_t3]
  rfl
set_option maxRecDepth 65536 in
theorem w_case : (Jvm.Cond.and given_1 narrow_1).before args0 about1 = true := by decide +kernel
theorem w_applies : (headSpec (Jvm.Cond.code x code maxLocals ret :: tables_1) room_1).applies x e0.platform about1 = true :=
  (Spec.applies_iff w_frames).mpr ⟨w_running, w_runnable, w_alone, w_named, w_hears, w_ripe, w_room, w_tables⟩
theorem atStart : AtStart classFile x code maxLocals ret World_1 tables_1 room_1 Calls_1 rest_1 Pre_1 launch0 p0 e0 about1 theMethod args0 below0 :=
  ⟨lists_1, trivial, launch0.admits_env _ _ _, launch0.least_env, fairChoices_fair.cas, fairChoices_fair.clock, w_frames, w_args, w_heap, w_applies, trivial, trivial, w_case⟩
end start1
theorem witness_1 : WitnessClaimed_1 := ⟨start1.p0, start1.e0, start1.about1, start1.theMethod, start1.args0, start1.below0, start1.atStart⟩
end Jvm.Pilot.@@N@@
