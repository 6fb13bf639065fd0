import JvmDerived
import JvmDerived.Pilot.@@N@@Statement
import JvmDerived.Pilot.@@N@@Code
set_option linter.unusedVariables false
set_option linter.unusedSimpArgs false
namespace Jvm.Pilot.@@N@@
open Jvm Jvm.ClassFile Sem Op Lib Jvm.Free Jvm.Stand Jvm.LawKit Jvm.RoadKit Bundle Jvm.Pilot.@@N@@.Jvm.D
section OwnKit
variable {p : Program} {l : Launch} {e : Env} {R : Room} {s : State} {m : MethodId} {args : Array Value} {below : List Frame} {meth : Method} {c : Code} {T T' : State} {locs : List Loc} {cells slots kc ks : Nat} {g g' : JFrame} {Q : Option Value → Heap → List Loc → Prop} {Z : State} {h h' : Heap} {a0 : Array Value} {En : Outcome → State → List Loc → Nat → Nat → Prop}
/-- from this frame the run comes to the method's end and leaves what Q says -/
def own_Out (p : Program) (e : Env) (below : List Frame) (En : Outcome → State → List Loc → Nat → Nat → Prop) (T : State) (g : JFrame) (Q : Option Value → Heap → List Loc → Prop) (kc ks : Nat) : Prop :=
  ∃ (t : State) (o : Outcome), Steps p.tables e below (T.setTop g) t ∧ t.status = .running ∧ Ended t below o ∧ ∃ (v : Option Value) (L : List Loc), o = .returned v ∧ Q v t.heap L ∧ En o t L kc ks
theorem own_to (st : ∀ t, Steps p.tables e below (T'.setTop g') t → Steps p.tables e below (T.setTop g) t) (k : own_Out p e below En T' g' Q kc ks) : own_Out p e below En T g Q kc ks := by
  obtain ⟨t, o, h1, h2⟩ := k
  exact ⟨t, o, st t h1, h2⟩
theorem own_cast (q : g = g') (k : own_Out p e below En T g' Q kc ks) : own_Out p e below En T g Q kc ks := q ▸ k
/-- a method's contract: called with these arguments over this heap it returns, and Q says what it leaves -/
def own_C (l : Launch) (Z : State) (y : MethodName) (bytes : ByteArray) (maxL : Nat) (ret : Option FieldType) (rm : Room) (as' : Array Value) (h0 : Heap) (Q : Option Value → Heap → List Loc → Prop) : Prop :=
  ∀ ws : List Jvm.Cond, MetFree l y (head1 (Jvm.Cond.code y bytes maxL ret :: ws) rm) (fun a U => a = as' ∧ Z.Warmed39 U.vm ∧ U.heap = h0) (fun _ _ _ _ _ => True) (fun _ U o U' => ∃ v L, o = .returned v ∧ Q v U'.heap L ∧ FrameEnd U o U' L rm.cells rm.slots)
theorem own_met {y : MethodName} {bytes : ByteArray} {maxL : Nat} {ret : Option FieldType} {rm : Room} {as' : Array Value} {h0 : Heap} (pl : plainFor y = true)
    (body : ∀ (p : Program) (e : Env) (s : State) (m : MethodId) (below : List Frame) (meth : Method) (c : Code) (s₁ : State), p.tables.exec = Jvm.exec → c.code = bytes → c.maxLocals = maxL → meth.sig.returnType = ret → meth.locks = false → s.vm.findClass y.cls = some m.cls → meth.name = y.name → Z.Warmed39 s.vm → Stand p l e rm s m as' below meth c s₁ [] 0 0 → s₁.heap = h0 → own_Out p e below (FrameEnd s) s₁ (entryFrame m as' maxL) Q rm.cells rm.slots) :
    own_C l Z y bytes maxL ret rm as' h0 Q := by
  intro ws
  refine MetFree.of_bodySF pl hisR ?_
  intro p e s m args below meth c s₁ Bd hml0 hP hK
  obtain ⟨rfl, hZ, hh⟩ := hP
  exact body p e s m below meth c s₁ Bd.exec Bd.bytes hml0 Bd.returns (BodyLoose.notSynchronized Bd) (findClass_of_methodNamed Bd.named) ((name_of_methodNamed Bd.named Bd.method).1) hZ (Stand.of_body Bd) (by rw [← hh, Bd.state]; rfl)
/-! returns -/
theorem own_retV (X : Stand p l e R s m args below meth c T locs cells slots) (hx : p.tables.exec = Jvm.exec) (hlk : meth.locks = false) {pc : Nat} {Ls : Array Slot} {w : Value} {t : FieldType} {i : Instr} {rest : List Value} (hret : meth.sig.returnType = some t) (hn : narrow t w = w)
    (hi : (i = .ireturn ∧ (t = .int ∨ t = .boolean ∨ t = .byte ∨ t = .char ∨ t = .short) ∧ ∃ z, w = .int z) ∨ (i = .lreturn ∧ t = .long ∧ ∃ z, w = .long z) ∨ (i = .dreturn ∧ t = .double ∧ ∃ z, w = .double z) ∨ (i = .freturn ∧ t = .float ∧ ∃ z, w = .float z) ∨ (i = .areturn ∧ t.isReference = true ∧ w.isRef = true))
    (hd : decode c.code pc = .ok (i, 1)) (hc : cells ≤ kc) (hs : slots ≤ ks) (hQ : Q (some w) T.heap locs) : own_Out p e below (FrameEnd s) T (mkF m pc Ls (w :: rest)) Q kc ks := by
  obtain ⟨fs, hr, hrun, hended, hW, hsame⟩ := X.leave (v := some w) (fun h => by rw [hret] at h; cases h) hlk
  exact ⟨_, _, retOut X hx hret hn hi hd hr, hrun, hended, _, _, rfl, hQ, ⟨_, rfl⟩, hW, hsame.mono hc hs⟩
theorem own_retI (X : Stand p l e R s m args below meth c T locs cells slots) (hx : p.tables.exec = Jvm.exec) (hlk : meth.locks = false) (hret : meth.sig.returnType = some .int) {pc : Nat} {Ls : Array Slot} {z : Int32} {rest : List Value}
    (hd : decode c.code pc = .ok (.ireturn, 1)) (hc : cells ≤ kc) (hs : slots ≤ ks) (hQ : Q (some (.int z)) T.heap locs) : own_Out p e below (FrameEnd s) T (mkF m pc Ls (.int z :: rest)) Q kc ks :=
  own_retV X hx hlk hret rfl (Or.inl ⟨rfl, Or.inl rfl, _, rfl⟩) hd hc hs hQ
theorem own_retJ (X : Stand p l e R s m args below meth c T locs cells slots) (hx : p.tables.exec = Jvm.exec) (hlk : meth.locks = false) (hret : meth.sig.returnType = some .long) {pc : Nat} {Ls : Array Slot} {z : Int64} {rest : List Value}
    (hd : decode c.code pc = .ok (.lreturn, 1)) (hc : cells ≤ kc) (hs : slots ≤ ks) (hQ : Q (some (.long z)) T.heap locs) : own_Out p e below (FrameEnd s) T (mkF m pc Ls (.long z :: rest)) Q kc ks :=
  own_retV X hx hlk hret rfl (Or.inr (Or.inl ⟨rfl, rfl, _, rfl⟩)) hd hc hs hQ
theorem own_retA (X : Stand p l e R s m args below meth c T locs cells slots) (hx : p.tables.exec = Jvm.exec) (hlk : meth.locks = false) {t : FieldType} (hret : meth.sig.returnType = some t) (ht : t.isReference = true) {pc : Nat} {Ls : Array Slot} {z : Addr} {rest : List Value}
    (hd : decode c.code pc = .ok (.areturn, 1)) (hc : cells ≤ kc) (hs : slots ≤ ks) (hQ : Q (some (.ref z)) T.heap locs) : own_Out p e below (FrameEnd s) T (mkF m pc Ls (.ref z :: rest)) Q kc ks :=
  own_retV X hx hlk hret (by cases t <;> rfl) (Or.inr (Or.inr (Or.inr (Or.inr ⟨rfl, ht, rfl⟩)))) hd hc hs hQ
/-- a boolean, byte, char or short: the value is narrowed -/
theorem own_retN (X : Stand p l e R s m args below meth c T locs cells slots) (hx : p.tables.exec = Jvm.exec) (hlk : meth.locks = false) {t : FieldType} (hret : meth.sig.returnType = some t) (ht : t = .boolean ∨ t = .byte ∨ t = .char ∨ t = .short) {pc : Nat} {Ls : Array Slot} {z : Int32} {rest : List Value}
    (hd : decode c.code pc = .ok (.ireturn, 1)) (hc : cells ≤ kc) (hs : slots ≤ ks) (hQ : Q (some (.int (nar t z))) T.heap locs) : own_Out p e below (FrameEnd s) T (mkF m pc Ls (.int z :: rest)) Q kc ks := by
  obtain ⟨fs, hr, hrun, hended, hW, hsame⟩ := X.leave (v := some (.int (nar t z))) (fun h => by rw [hret] at h; cases h) hlk
  exact ⟨_, _, retN X hx hret ht hd hr, hrun, hended, _, _, rfl, hQ, ⟨_, rfl⟩, hW, hsame.mono hc hs⟩
theorem own_ret0 (X : Stand p l e R s m args below meth c T locs cells slots) (hx : p.tables.exec = Jvm.exec) (hlk : meth.locks = false) (hret : meth.sig.returnType = none) {pc : Nat} {Ls : Array Slot}
    (hd : decode c.code pc = .ok (.return_, 1)) (hc : cells ≤ kc) (hs : slots ≤ ks) (hQ : Q none T.heap locs) : own_Out p e below (FrameEnd s) T (mkF m pc Ls []) Q kc ks := by
  obtain ⟨fs, hr, hrun, hended, hW, hsame⟩ := X.leave (v := none) (fun _ => rfl) hlk
  exact ⟨_, _, X.returnOut hx hret hd hr, hrun, hended, _, _, rfl, hQ, ⟨_, rfl⟩, hW, hsame.mono hc hs⟩
/-! calls -/
theorem own_callS (X : Stand p l e R s m args below meth c T locs cells slots) (hx : p.tables.exec = Jvm.exec) (hZ : Z.Warmed39 s.vm) {own : String} (hown : s.vm.findClass own = some m.cls) {index : Nat} {y : MethodName} {bytes : ByteArray} {maxL : Nat} {ret : Option FieldType} {rm : Room} {W : Nat} {Qc : Option Value → Heap → List Loc → Prop} {argsL rest : List Value}
    (w1 : (Jvm.Cond.methodLink own index y).before a0 Z = true) (w2 : (Jvm.Cond.static y).before a0 Z = true) (w3 : (Jvm.Cond.initialized y.cls).before a0 Z = true) (w4 : (Jvm.Cond.code y bytes maxL ret).before a0 Z = true) (hy : y.cls ≠ "java/lang/invoke/MethodHandle" ∧ y.cls ≠ "java/lang/invoke/VarHandle")
    (hM : own_C l Z y bytes maxL ret rm argsL.toArray h Qc) (hf : rm.frames + 1 ≤ R.frames) (hl : W + (maxL + 11) + rm.locals ≤ R.locals) (eT : T.heap = h) (hg : g.method = m) (hsize : g.locals.size = c.maxLocals) (hlen : ∀ sig, parseMethodDescriptor y.desc = some sig → argsL.length = sig.parameters.length)
    (hstack : g.stack = argsL.reverse ++ rest) (hW : 2 * g.monitorRoom + (rest.map fun v => v.category).sum ≤ W) (hd : decode c.code g.pc = .ok (.invokestatic index, 3)) (hc : cells + rm.cells ≤ R.cells) (hs : slots + rm.slots ≤ R.slots)
    (k : ∀ (v : Option Value) (T' : State) (h' : Heap) (L : List Loc), Stand p l e R s m args below meth c T' (locs ++ L) (cells + rm.cells) (slots + rm.slots) → T'.heap = h' → Qc v h' L → own_Out p e below En T' { g with pc := g.pc + 3, stack := v.toList ++ rest } Q kc ks) : own_Out p e below En T g Q kc ks := by
  obtain ⟨v, _, ⟨T', L', k', n'⟩, -, X', ⟨Lc, hQ, l1, l2, l3⟩, st⟩ := Jvm.LawKit.callS X hx hown (mvT hZ w1) (mvT hZ w2) (mvT hZ w3) (mvT hZ w4) hy (backOf (W := W) (hM []) hZ w4 w3 hf hl) hg hsize hlen hstack hW hd (fun _ _ => ⟨rfl, eT, hc, hs⟩)
  dsimp only [Pt.U, Pt.locs, Pt.cells, Pt.slots] at X' l1 l2 l3 st hQ
  subst l1 l2 l3
  exact own_to st (k v T' _ Lc X' rfl hQ)
/-- a constructor -/
theorem own_callC (X : Stand p l e R s m args below meth c T locs cells slots) (hx : p.tables.exec = Jvm.exec) (hZ : Z.Warmed39 s.vm) {own : String} (hown : s.vm.findClass own = some m.cls) {index : Nat} {y : MethodName} {bytes : ByteArray} {maxL : Nat} {rm : Room} {W : Nat} {Qc : Option Value → Heap → List Loc → Prop} {a : Addr} {argsL rest : List Value}
    (hy1 : y.name = "<init>") (w1 : (Jvm.Cond.methodLink own index y).before a0 Z = true) (w2 : (Jvm.Cond.instanceMethod y).before a0 Z = true) (w3 : (Jvm.Cond.initialized y.cls).before a0 Z = true) (w4 : (Jvm.Cond.code y bytes maxL none).before a0 Z = true) (hy : y.cls ≠ "java/lang/invoke/MethodHandle" ∧ y.cls ≠ "java/lang/invoke/VarHandle")
    (hM : own_C l Z y bytes maxL none rm (.ref a :: argsL).toArray h Qc) (hf : rm.frames + 1 ≤ R.frames) (hl : W + (maxL + 11) + rm.locals ≤ R.locals) (eT : T.heap = h) (hg : g.method = m) (hsize : g.locals.size = c.maxLocals) (hlen : ∀ sig, parseMethodDescriptor y.desc = some sig → argsL.length = sig.parameters.length)
    (hstack : g.stack = argsL.reverse ++ .ref a :: rest) (hW : 2 * g.monitorRoom + (rest.map fun v => v.category).sum ≤ W) (hd : decode c.code g.pc = .ok (.invokespecial index, 3)) (hc : cells + rm.cells ≤ R.cells) (hs : slots + rm.slots ≤ R.slots)
    (k : ∀ (v : Option Value) (T' : State) (h' : Heap) (L : List Loc), Stand p l e R s m args below meth c T' (locs ++ L) (cells + rm.cells) (slots + rm.slots) → T'.heap = h' → Qc v h' L → own_Out p e below En T' { g with pc := g.pc + 3, stack := v.toList ++ rest } Q kc ks) : own_Out p e below En T g Q kc ks := by
  obtain ⟨v, _, ⟨T', L', k', n'⟩, -, X', ⟨Lc, hQ, l1, l2, l3⟩, st⟩ := X.specialBack hx hy1 hown (mvT hZ w1) (mvT hZ w2) (mvT hZ w4) hy (backOf (W := W) (hM []) hZ w4 w3 hf hl) hg hsize (Steps.refl _) hlen hstack hW hd (fun _ _ => ⟨rfl, eT, hc, hs⟩)
  dsimp only [Pt.U, Pt.locs, Pt.cells, Pt.slots] at X' l1 l2 l3 st hQ
  subst l1 l2 l3
  exact own_to (fun t k => st.trans k) (k v T' _ Lc X' rfl hQ)
/-- an instance method of the object's own class -/
theorem own_callV (X : Stand p l e R s m args below meth c T locs cells slots) (hx : p.tables.exec = Jvm.exec) (hZ : Z.Warmed39 s.vm) {own C : String} (hown : s.vm.findClass own = some m.cls) {index : Nat} {y : MethodName} {bytes : ByteArray} {maxL : Nat} {ret : Option FieldType} {rm : Room} {W : Nat} {Qc : Option Value → Heap → List Loc → Prop} {a : Addr} {argsL rest : List Value}
    (w1 : (Jvm.Cond.methodLink own index y).before a0 Z = true) (w5 : (Jvm.Cond.declares y).before a0 Z = true) (w6 : (Jvm.Cond.selects C y y).before a0 Z = true) (w2 : (Jvm.Cond.instanceMethod y).before a0 Z = true) (w3 : (Jvm.Cond.initialized y.cls).before a0 Z = true) (w4 : (Jvm.Cond.code y bytes maxL ret).before a0 Z = true) (hy : y.cls ≠ "java/lang/invoke/MethodHandle" ∧ y.cls ≠ "java/lang/invoke/VarHandle")
    (hM : own_C l Z y bytes maxL ret rm (.ref a :: argsL).toArray h Qc) (hf : rm.frames + 1 ≤ R.frames) (hl : W + (maxL + 11) + rm.locals ≤ R.locals) (eT : T.heap = h) (E : Exa Z h a C) (hg : g.method = m) (hsize : g.locals.size = c.maxLocals) (hlen : ∀ sig, parseMethodDescriptor y.desc = some sig → argsL.length = sig.parameters.length)
    (hstack : g.stack = argsL.reverse ++ .ref a :: rest) (hW : 2 * g.monitorRoom + (rest.map fun v => v.category).sum ≤ W) (hd : decode c.code g.pc = .ok (.invokevirtual index, 3)) (hc : cells + rm.cells ≤ R.cells) (hs : slots + rm.slots ≤ R.slots)
    (k : ∀ (v : Option Value) (T' : State) (h' : Heap) (L : List Loc), Stand p l e R s m args below meth c T' (locs ++ L) (cells + rm.cells) (slots + rm.slots) → T'.heap = h' → Qc v h' L → own_Out p e below En T' { g with pc := g.pc + 3, stack := v.toList ++ rest } Q kc ks) : own_Out p e below En T g Q kc ks := by
  obtain ⟨cq, kq, qa, qb, qc⟩ := isOf hZ eT E
  obtain ⟨v, _, ⟨T', L', k', n'⟩, -, X', ⟨Lc, hQ, l1, l2, l3⟩, st⟩ := X.virtualBack hx hown (mvT hZ w1) (mvT hZ w5) (notFace_of_selects (args := #[]) (mvT hZ w6)) (mvT hZ w6) (mvT hZ w2) hy (backOf (W := W) (hM []) hZ w4 w3 hf hl) qa qc hg hsize (Steps.refl _) hlen hstack hW hd (fun _ _ => ⟨rfl, eT, hc, hs⟩)
  dsimp only [Pt.U, Pt.locs, Pt.cells, Pt.slots] at X' l1 l2 l3 st hQ
  subst l1 l2 l3
  exact own_to (fun t k => st.trans k) (k v T' _ Lc X' rfl hQ)
/-- a private method of the object's own class, by invokevirtual -/
theorem own_callP (X : Stand p l e R s m args below meth c T locs cells slots) (hx : p.tables.exec = Jvm.exec) (hZ : Z.Warmed39 s.vm) {own C : String} (hown : s.vm.findClass own = some m.cls) {index kk : Nat} {y : MethodName} {bytes : ByteArray} {maxL : Nat} {ret : Option FieldType} {rm : Room} {W : Nat} {Qc : Option Value → Heap → List Loc → Prop} {a : Addr} {argsL rest : List Value}
    (w1 : (Jvm.Cond.methodLink own index y).before a0 Z = true) (w5 : (Jvm.Cond.privateMethod y).before a0 Z = true) (w6 : (Jvm.Cond.instantiable y.cls kk).before a0 Z = true) (w2 : (Jvm.Cond.instanceMethod y).before a0 Z = true) (w3 : (Jvm.Cond.initialized y.cls).before a0 Z = true) (w4 : (Jvm.Cond.code y bytes maxL ret).before a0 Z = true) (hy : y.cls ≠ "java/lang/invoke/MethodHandle" ∧ y.cls ≠ "java/lang/invoke/VarHandle")
    (hM : own_C l Z y bytes maxL ret rm (.ref a :: argsL).toArray h Qc) (hf : rm.frames + 1 ≤ R.frames) (hl : W + (maxL + 11) + rm.locals ≤ R.locals) (eT : T.heap = h) (E : Exa Z h a C) (hg : g.method = m) (hsize : g.locals.size = c.maxLocals) (hlen : ∀ sig, parseMethodDescriptor y.desc = some sig → argsL.length = sig.parameters.length)
    (hstack : g.stack = argsL.reverse ++ .ref a :: rest) (hW : 2 * g.monitorRoom + (rest.map fun v => v.category).sum ≤ W) (hd : decode c.code g.pc = .ok (.invokevirtual index, 3)) (hc : cells + rm.cells ≤ R.cells) (hs : slots + rm.slots ≤ R.slots)
    (k : ∀ (v : Option Value) (T' : State) (h' : Heap) (L : List Loc), Stand p l e R s m args below meth c T' (locs ++ L) (cells + rm.cells) (slots + rm.slots) → T'.heap = h' → Qc v h' L → own_Out p e below En T' { g with pc := g.pc + 3, stack := v.toList ++ rest } Q kc ks) : own_Out p e below En T g Q kc ks := by
  obtain ⟨cq, q, q'⟩ := E.cell
  have hp : s.PrivateAt y := Cond.privateMethod_at (mvP hZ w5 (args := #[]))
  obtain ⟨cy, ky, f1, f2, -, f3, -⟩ := Cond.instantiable_spec (mvT (args := args) hZ w6)
  have hi : ky.isInterface = false := (Bool.or_eq_false_iff.mp f3).1
  have hse : (Jvm.Cond.selects y.cls y y).before args s = true := selects_self_of_private f1 f2 hi hp (mvT hZ w2) hy
  obtain ⟨v, _, ⟨T', L', k', n'⟩, -, X', ⟨Lc, hQ, l1, l2, l3⟩, st⟩ := X.privateBack hx hown (mvT hZ w1) (mvT hZ w2) hse hp (mvT hZ w4) hy (backOf (W := W) (hM []) hZ w4 w3 hf hl) hg hsize (Steps.refl _) (by rw [eT]; exact q) q' hlen hstack hW hd (fun _ _ => ⟨rfl, eT, hc, hs⟩)
  dsimp only [Pt.U, Pt.locs, Pt.cells, Pt.slots] at X' l1 l2 l3 st hQ
  subst l1 l2 l3
  exact own_to (fun t k => st.trans k) (k v T' _ Lc X' rfl hQ)
/-! the heap's steps -/
theorem own_getF (X : Stand p l e R s m args below meth c T locs cells slots) (hx : p.tables.exec = Jvm.exec) (hZ : Z.Warmed39 s.vm) {own O n d : String} {index : Nat} (hown : s.vm.findClass own = some m.cls) (w : (Jvm.Cond.fieldLink own index O n d).before a0 Z = true) (eT : T.heap = h) {a : Addr} {v : Value} (F : Fld Z h a O n d v)
    (hg : g.method = m) {rest : List Value} (hs : g.stack = .ref a :: rest) (hd : decode c.code g.pc = .ok (.getfield index, 3)) (k : ∀ T', Stand p l e R s m args below meth c T' locs cells slots → T'.heap = h → own_Out p e below En T' { g with pc := g.pc + 3, stack := v :: rest } Q kc ks) : own_Out p e below En T g Q kc ks := by
  obtain ⟨T', X', e', st⟩ := getF X hx hZ hown (host := "") (Or.inl w) Via.refl eT F hg hs hd
  exact own_to st (k T' X' e')
theorem own_putF (X : Stand p l e R s m args below meth c T locs cells slots) (hx : p.tables.exec = Jvm.exec) (hZ : Z.Warmed39 s.vm) {own O n d C : String} {index kk : Nat} {ty : FieldType} (hown : s.vm.findClass own = some m.cls) (w : (Jvm.Cond.fieldLink own index O n d).before a0 Z = true) (eT : T.heap = h) {a : Addr} {v old : Value} (F : Fld Z h a O n d old) (E : Exa Z h a C)
    (L : (Jvm.Cond.lays C O n d).before a0 Z = true ∨ ((Jvm.Cond.laysFinal C O n d).before a0 Z = true ∧ own = O ∧ meth.name = "<init>")) (wi : (Jvm.Cond.instantiable C kk).before a0 Z = true) (hty : parseFieldDescriptor d = some ty) (hn : narrow ty v = v) (hf : fits ty v = true)
    (hg : g.method = m) {rest : List Value} (hs : g.stack = v :: .ref a :: rest) (hd : decode c.code g.pc = .ok (.putfield index, 3)) (k : ∀ T' h', Stand p l e R s m args below meth c T' (locs ++ [⟨a, Jvm.RoadKit.slotOf Z O n d⟩]) cells slots → T'.heap = h' → Wr h h' a (Jvm.RoadKit.slotOf Z O n d) v → own_Out p e below En T' { g with pc := g.pc + 3, stack := rest } Q kc ks) : own_Out p e below En T g Q kc ks := by
  obtain ⟨T', h', X', e', W', st⟩ := putF X hx hZ hown (host := "") (Or.inl w) Via.refl eT F E L wi hty hn hf hg hs hd
  exact own_to st (k T' h' X' e' W')
theorem own_new (X : Stand p l e R s m args below meth c T locs cells slots) (hx : p.tables.exec = Jvm.exec) (hZ : Z.Warmed39 s.vm) {own C : String} {index n : Nat} (hown : s.vm.findClass own = some m.cls) (w : (Jvm.Cond.classLink own index C).before a0 Z = true) (wi : (Jvm.Cond.instantiable C n).before a0 Z = true) (wz : (Jvm.Cond.initialized C).before a0 Z = true) (eT : T.heap = h)
    (hg : g.method = m) (hd : decode c.code g.pc = .ok (.new index, 3)) (hc : cells + 1 ≤ R.cells) (hl : slots + n ≤ R.slots)
    (k : ∀ T' h' a, a = h.size → Stand p l e R s m args below meth c T' locs (cells + 1) (slots + n) → T'.heap = h' → Ext h h' → Exa Z h' a C → (∀ {O nm d : String} {ty : FieldType}, Laid Z a0 C O nm d → parseFieldDescriptor d = some ty → Fld Z h' a O nm d (defaultValue ty)) → own_Out p e below En T' { g with pc := g.pc + 3, stack := .ref a :: g.stack } Q kc ks) : own_Out p e below En T g Q kc ks := by
  obtain ⟨T', h', X', e', E', A', D', -, st⟩ := newO X hx hZ hown w wi wz eT hg hd hc hl
  exact own_to st (k T' h' _ rfl X' e' E' A' D')
/-! arrays of ints, bytes, booleans: how many places, and what each holds -/
def own_upd (f : Nat → Int32) (j : Nat) (x : Int32) : Nat → Int32 := fun i => if i = j then x else f i
def own_A (Z : State) (h : Heap) (a : Addr) (ty : FieldType) (n : Nat) (f : Nat → Int32) : Prop := ∃ cl : Cell, Arr Z h a cl ty ∧ cl.slots.size = n ∧ ∀ j, j < n → cl.slots[j]? = some (.int (f j))
variable {a b : Addr} {ty : FieldType} {n : Nat} {f : Nat → Int32} {ws : List Addr} {v : Value} {sl : Nat}
theorem own_A.lt (F : own_A Z h a ty n f) : a < h.size := by obtain ⟨_, A, -⟩ := F; exact A.lt
theorem own_A.ext (F : own_A Z h a ty n f) (E : Ext h h') : own_A Z h' a ty n f := by obtain ⟨cl, A, r⟩ := F; exact ⟨cl, A.ext E, r⟩
theorem own_A.other (F : own_A Z h b ty n f) (W : Wr h h' a sl v) (q : b ≠ a) : own_A Z h' b ty n f := by obtain ⟨cl, A, r⟩ := F; exact ⟨cl, A.other W q, r⟩
theorem own_A.keep (F : own_A Z h a ty n f) (K : Keep h h' ws) (q : a ∉ ws) : own_A Z h' a ty n f := by obtain ⟨cl, A, r⟩ := F; exact ⟨cl, ⟨K.2.1 a cl A.1 q, A.2⟩, r⟩
theorem own_A.congr {f' : Nat → Int32} (F : own_A Z h a ty n f) (q : ∀ j, j < n → f j = f' j) : own_A Z h a ty n f' := by obtain ⟨cl, A, r1, r2⟩ := F; exact ⟨cl, A, r1, fun j hj => by rw [r2 j hj, q j hj]⟩
theorem own_A.set {cl : Cell} {j : Nat} {x : Int32} (A : Arr Z h a cl ty) (q1 : cl.slots.size = n) (q2 : ∀ j, j < n → cl.slots[j]? = some (.int (f j))) (W : Wr h h' a j (.int x)) (hj : j < n) : own_A Z h' a ty n (own_upd f j x) := by
  refine ⟨_, A.same W, by rw [sz_set, q1], fun i hi => ?_⟩
  simp only [Cell.setSlot, Array.getElem?_setIfInBounds, own_upd]
  by_cases e : j = i
  · subst e
    simp [q1, hj]
  · rw [if_neg e, q2 i hi, if_neg (fun q => e q.symm)]
theorem own_in {j : Int32} {N : Nat} (h0 : ¬ j < 0) (h1 : j.toNatClampNeg < N) : ¬ (j < 0 ∨ N ≤ j.toNatClampNeg) := fun q => q.elim h0 (fun r => Nat.not_lt.mpr r h1)
theorem own_stI (X : Stand p l e R s m args below meth c T locs cells slots) (hx : p.tables.exec = Jvm.exec) (hZ : Z.Warmed39 s.vm) (eT : T.heap = h) (F : own_A Z h a .int n f) {j x : Int32} (h0 : ¬ j < 0) (h1 : j.toNatClampNeg < n) (hg : g.method = m) {rest : List Value} (hs : g.stack = .int x :: .int j :: .ref a :: rest) (hd : decode c.code g.pc = .ok (.iastore, 1))
    (k : ∀ T' h', Stand p l e R s m args below meth c T' (locs ++ [⟨a, j.toNatClampNeg⟩]) cells slots → T'.heap = h' → Wr h h' a j.toNatClampNeg (.int x) → own_A Z h' a .int n (own_upd f j.toNatClampNeg x) → own_Out p e below En T' { g with pc := g.pc + 1, stack := rest } Q kc ks) : own_Out p e below En T g Q kc ks := by
  obtain ⟨cl, A, q1, q2⟩ := F
  obtain ⟨T', h', X', e', W', st⟩ := stI X hx hZ eT A (own_in h0 (by rw [q1]; exact h1)) hg hs hd
  exact own_to st (k T' h' X' e' W' (own_A.set A q1 q2 W' h1))
theorem own_stZ (X : Stand p l e R s m args below meth c T locs cells slots) (hx : p.tables.exec = Jvm.exec) (hZ : Z.Warmed39 s.vm) (eT : T.heap = h) (F : own_A Z h a .boolean n f) {j x : Int32} (h0 : ¬ j < 0) (h1 : j.toNatClampNeg < n) (hg : g.method = m) {rest : List Value} (hs : g.stack = .int x :: .int j :: .ref a :: rest) (hd : decode c.code g.pc = .ok (.bastore, 1))
    (k : ∀ T' h', Stand p l e R s m args below meth c T' (locs ++ [⟨a, j.toNatClampNeg⟩]) cells slots → T'.heap = h' → Wr h h' a j.toNatClampNeg (.int (nar .boolean x)) → own_A Z h' a .boolean n (own_upd f j.toNatClampNeg (nar .boolean x)) → own_Out p e below En T' { g with pc := g.pc + 1, stack := rest } Q kc ks) : own_Out p e below En T g Q kc ks := by
  obtain ⟨cl, A, q1, q2⟩ := F
  obtain ⟨T', h', X', e', W', st⟩ := stZ X hx hZ eT A (own_in h0 (by rw [q1]; exact h1)) hg hs hd
  exact own_to st (k T' h' X' e' W' (own_A.set A q1 q2 W' h1))
theorem own_stB (X : Stand p l e R s m args below meth c T locs cells slots) (hx : p.tables.exec = Jvm.exec) (hZ : Z.Warmed39 s.vm) (eT : T.heap = h) (F : own_A Z h a .byte n f) {j x : Int32} (h0 : ¬ j < 0) (h1 : j.toNatClampNeg < n) (hg : g.method = m) {rest : List Value} (hs : g.stack = .int x :: .int j :: .ref a :: rest) (hd : decode c.code g.pc = .ok (.bastore, 1))
    (k : ∀ T' h', Stand p l e R s m args below meth c T' (locs ++ [⟨a, j.toNatClampNeg⟩]) cells slots → T'.heap = h' → Wr h h' a j.toNatClampNeg (.int (nar .byte x)) → own_A Z h' a .byte n (own_upd f j.toNatClampNeg (nar .byte x)) → own_Out p e below En T' { g with pc := g.pc + 1, stack := rest } Q kc ks) : own_Out p e below En T g Q kc ks := by
  obtain ⟨cl, A, q1, q2⟩ := F
  obtain ⟨T', h', X', e', W', st⟩ := stB X hx hZ eT A (own_in h0 (by rw [q1]; exact h1)) hg hs hd
  exact own_to st (k T' h' X' e' W' (own_A.set A q1 q2 W' h1))
theorem own_newA (X : Stand p l e R s m args below meth c T locs cells slots) (hx : p.tables.exec = Jvm.exec) (hZ : Z.Warmed39 s.vm) {aty : ArrayType} (w : (Jvm.Cond.arrayClass (newarray.typeOf aty)).before a0 Z = true) (hdef : defaultValue (newarray.typeOf aty) = .int 0) (eT : T.heap = h) (hg : g.method = m) (hd : decode c.code g.pc = .ok (.newarray aty, 2)) {N : Int32} {rest : List Value} (hs : g.stack = .int N :: rest)
    (hn : ¬ N < 0) {cap : Nat} (hcap : N.toNatClampNeg ≤ cap) (hb : cap * 8 ≤ 536870912) (hc : cells + 1 ≤ R.cells) (hl : slots + cap ≤ R.slots)
    (k : ∀ T' h' a, a = h.size → Stand p l e R s m args below meth c T' locs (cells + 1) (slots + cap) → T'.heap = h' → Ext h h' → own_A Z h' a (newarray.typeOf aty) N.toNatClampNeg (fun _ => 0) → own_Out p e below En T' { g with pc := g.pc + 2, stack := .ref a :: rest } Q kc ks) : own_Out p e below En T g Q kc ks := by
  obtain ⟨T', h', cA, X', e', E', A', st⟩ := newP X hx hZ w eT hg hd hs hn hcap hb hc hl
  refine own_to st (k T' h' _ rfl X' e' E' ⟨_, A', sz_new _ _ _, fun j hj => ?_⟩)
  simp [newA, hdef, hj]
theorem own_len (X : Stand p l e R s m args below meth c T locs cells slots) (hx : p.tables.exec = Jvm.exec) (hZ : Z.Warmed39 s.vm) (eT : T.heap = h) (F : own_A Z h a ty n f) (hg : g.method = m) {rest : List Value} (hs : g.stack = .ref a :: rest) (hd : decode c.code g.pc = .ok (.arraylength, 1))
    (k : own_Out p e below En T { g with pc := g.pc + 1, stack := .int n.toInt32 :: rest } Q kc ks) : own_Out p e below En T g Q kc ks := by
  obtain ⟨cl, A, q1, q2⟩ := F
  subst q1
  exact own_to (X.arraylength hx (by rw [eT]; exact A.1) (State.isArrayOf_alike hZ.alike A.2.1) hg hs hd) k
theorem own_ldI (X : Stand p l e R s m args below meth c T locs cells slots) (hx : p.tables.exec = Jvm.exec) (hZ : Z.Warmed39 s.vm) (eT : T.heap = h) (F : own_A Z h a .int n f) {j : Int32} (h0 : ¬ j < 0) (h1 : j.toNatClampNeg < n) (hg : g.method = m) {rest : List Value} (hs : g.stack = .int j :: .ref a :: rest) (hd : decode c.code g.pc = .ok (.iaload, 1))
    (k : ∀ w : Int32, w = f j.toNatClampNeg → own_Out p e below En T { g with pc := g.pc + 1, stack := .int w :: rest } Q kc ks) : own_Out p e below En T g Q kc ks := by
  obtain ⟨cl, A, q1, q2⟩ := F
  exact own_to (X.iaload hx (by rw [eT]; exact A.1) (State.isArrayOf_alike hZ.alike A.2.1) A.2.2 (own_in h0 (by rw [q1]; exact h1)) (q2 _ h1) hg hs hd) (k _ rfl)
theorem own_ldZ (X : Stand p l e R s m args below meth c T locs cells slots) (hx : p.tables.exec = Jvm.exec) (hZ : Z.Warmed39 s.vm) (eT : T.heap = h) (F : own_A Z h a .boolean n f) {j : Int32} (h0 : ¬ j < 0) (h1 : j.toNatClampNeg < n) (hg : g.method = m) {rest : List Value} (hs : g.stack = .int j :: .ref a :: rest) (hd : decode c.code g.pc = .ok (.baload, 1))
    (k : ∀ w : Int32, w = f j.toNatClampNeg → own_Out p e below En T { g with pc := g.pc + 1, stack := .int w :: rest } Q kc ks) : own_Out p e below En T g Q kc ks := by
  obtain ⟨cl, A, q1, q2⟩ := F
  exact own_to (X.baloadBooleans hx (by rw [eT]; exact A.1) (State.isArrayOf_alike hZ.alike A.2.1) A.2.2 (own_in h0 (by rw [q1]; exact h1)) (q2 _ h1) hg hs hd) (k _ rfl)
theorem own_ldB (X : Stand p l e R s m args below meth c T locs cells slots) (hx : p.tables.exec = Jvm.exec) (hZ : Z.Warmed39 s.vm) (eT : T.heap = h) (F : own_A Z h a .byte n f) {j : Int32} (h0 : ¬ j < 0) (h1 : j.toNatClampNeg < n) (hg : g.method = m) {rest : List Value} (hs : g.stack = .int j :: .ref a :: rest) (hd : decode c.code g.pc = .ok (.baload, 1))
    (k : ∀ w : Int32, w = f j.toNatClampNeg → own_Out p e below En T { g with pc := g.pc + 1, stack := .int w :: rest } Q kc ks) : own_Out p e below En T g Q kc ks := by
  obtain ⟨cl, A, q1, q2⟩ := F
  exact own_to (X.baloadBytes hx (by rw [eT]; exact A.1) (State.isArrayOf_alike hZ.alike A.2.1) A.2.2 (own_in h0 (by rw [q1]; exact h1)) (q2 _ h1) hg hs hd) (k _ rfl)
theorem own_idx (x n : Int32) (N : Nat) (hn : n.toInt = (N : Int)) (h0 : 0 < N) : ¬ ((x &&& (2147483647 : Int32)) % n < 0) ∧ ((x &&& (2147483647 : Int32)) % n).toNatClampNeg < N := by
  have h1 := c_mask x 2147483647 31 (by decide) (by decide)
  have h2 := c_irem (x &&& 2147483647) n N hn
  have k : (0 : Int32).toInt = 0 := by decide
  have h3 : ¬ ((x &&& (2147483647 : Int32)) % n < 0) := by
    rw [Int32.lt_iff_toInt_lt, k, h2.1 (by omega)]
    have := Int.emod_nonneg (x &&& 2147483647).toInt (show (N : Int) ≠ 0 by omega)
    omega
  have h4 := nat_of h3
  have h5 := Int.emod_lt_of_pos (x &&& 2147483647).toInt (show (0 : Int) < N by omega)
  rw [h2.1 (by omega)] at h4
  exact ⟨h3, by omega⟩
theorem own_fs {k : Nat} {L : List Loc} (N : Fr k L) (q : k ≤ a) : Fr k (L ++ [⟨a, sl⟩]) := N.app fun y hy => by cases List.mem_singleton.mp hy; exact q
end OwnKit
theorem d1_0 : decode method_2_code 0 = .ok (.iload_n 0, 1) := by decide +kernel
theorem d1_1 : decode method_2_code 1 = .ok (.ldc 7, 2) := by decide +kernel
theorem d1_3 : decode method_2_code 3 = .ok (.iand, 1) := by decide +kernel
theorem d1_4 : decode method_2_code 4 = .ok (.ldc 8, 2) := by decide +kernel
theorem d1_6 : decode method_2_code 6 = .ok (.irem, 1) := by decide +kernel
theorem d1_7 : decode method_2_code 7 = .ok (.iconst 1, 1) := by decide +kernel
theorem d1_8 : decode method_2_code 8 = .ok (.iadd, 1) := by decide +kernel
theorem d1_9 : decode method_2_code 9 = .ok (.ireturn, 1) := by decide +kernel
theorem pn_0 : plainName "com/example/queenside/queenside/SquareAttacksPinLaw" = true := by first | (simp [plainName, overriddenIn]; done) | decide +kernel
theorem ef_1 (m : MethodId) (u0 : Int32) : entryFrame m #[(.int u0)] 1 = mkF m 0 #[.val (.int u0)] [] := by first | (simp [entryFrame, mkF, argsToLocals, Value.category]; done) | rfl
def R1 (u0 : Int32) : Int32 := (((u0 &&& (2147483647 : Int32)) % (536870912 : Int32)) + (1 : Int32))
def Q1 (Z : State) (u0 : Int32) (h0 : Heap) (n0 : Nat) (v : Option Value) (h : Heap) (L : List Loc) : Prop := v = some (.int (R1 u0)) ∧ Fr n0 L ∧ h = h0
set_option maxRecDepth 65536 in
set_option maxHeartbeats 40000000 in
theorem rm1 (l : Launch) (Z : State) (a0 : Array Value) (hw : ∀ d ∈ tables_1, d.before a0 Z = true) (u0 : Int32) (h0 : Heap) (n0 : Nat) (Z0 : n0 ≤ h0.size) :
    own_C l Z (⟨"com/example/queenside/queenside/SquareAttacksPinLaw", "coord", "(I)I"⟩ : MethodName) method_2_code 1 (some .int) ({ frames := 0, cells := 0, slots := 0, locals := 0 } : Room) #[(.int u0)] h0 (Q1 Z u0 h0 n0) := by
  refine own_met (plainFor_of_name pn_0) ?_
  intro p e s m below meth c s₁ hx hby hml hret hlk hown hnm hZ X0 e0
  refine own_cast (ef_1 m u0) ?_
  have N0 := Fr.nil n0
  show own_Out p e below _ s₁ (mkF m 0 #[.val (.int u0)] []) _ _ _
  refine own_to (fun t k => XS.iloadN X0.here hx rfl (hb hby d1_0) rfl k) ?_
  show own_Out p e below _ s₁ (mkF m 1 #[.val (.int u0)] [(.int u0)]) _ _ _
  refine own_to (fun t k => X0.ldcI hx hown (mvT hZ (hw _ (List.mem_of_getElem? (i := 4) rfl))) rfl (hb hby d1_1) k) ?_
  show own_Out p e below _ s₁ (mkF m 3 #[.val (.int u0)] [(.int (2147483647 : Int32)), (.int u0)]) _ _ _
  refine own_to (fun t k => XS.iand X0.here hx rfl (hb hby d1_3) rfl k) ?_
  show own_Out p e below _ s₁ (mkF m 4 #[.val (.int u0)] [(.int (u0 &&& (2147483647 : Int32)))]) _ _ _
  refine own_to (fun t k => X0.ldcI hx hown (mvT hZ (hw _ (List.mem_of_getElem? (i := 5) rfl))) rfl (hb hby d1_4) k) ?_
  show own_Out p e below _ s₁ (mkF m 6 #[.val (.int u0)] [(.int (536870912 : Int32)), (.int (u0 &&& (2147483647 : Int32)))]) _ _ _
  refine own_to (fun t k => iremM X0 hx rfl (hb hby d1_6) rfl (by decide) k) ?_
  show own_Out p e below _ s₁ (mkF m 7 #[.val (.int u0)] [(.int ((u0 &&& (2147483647 : Int32)) % (536870912 : Int32)))]) _ _ _
  refine own_to (fun t k => XS.iconst X0.here hx rfl (hb hby d1_7) k) ?_
  show own_Out p e below _ s₁ (mkF m 8 #[.val (.int u0)] [(.int (1 : Int32)), (.int ((u0 &&& (2147483647 : Int32)) % (536870912 : Int32)))]) _ _ _
  refine own_to (fun t k => XS.iadd X0.here hx rfl (hb hby d1_8) rfl k) ?_
  show own_Out p e below _ s₁ (mkF m 9 #[.val (.int u0)] [(.int (((u0 &&& (2147483647 : Int32)) % (536870912 : Int32)) + (1 : Int32)))]) _ _ _
  refine own_retI X0 hx hlk hret (hb hby d1_9) (by decide) (by decide) ?_
  rw [e0]
  exact ⟨rfl, N0, rfl⟩
theorem d3_0 : decode jdk_30_method_1_code 0 = .ok (.aload_n 0, 1) := by decide +kernel
theorem d3_1 : decode jdk_30_method_1_code 1 = .ok (.invokespecial 1, 3) := by decide +kernel
theorem d3_4 : decode jdk_30_method_1_code 4 = .ok (.return_, 1) := by decide +kernel
theorem pn_1 : plainName "java/lang/Record" = true := by first | (simp [plainName, overriddenIn]; done) | decide +kernel
theorem ef_3 (m : MethodId) (o0 : Addr) : entryFrame m #[(.ref o0)] 1 = mkF m 0 #[.val (.ref o0)] [] := by first | (simp [entryFrame, mkF, argsToLocals, Value.category]; done) | rfl
def Q3 (Z : State) (o0 : Addr) (h0 : Heap) (n0 : Nat) (v : Option Value) (h : Heap) (L : List Loc) : Prop := v = none ∧ Fr n0 L ∧ h = h0
set_option maxRecDepth 65536 in
set_option maxHeartbeats 40000000 in
theorem rm3 (l : Launch) (Z : State) (a0 : Array Value) (hw : ∀ d ∈ tables_1, d.before a0 Z = true) (o0 : Addr) (h0 : Heap) (n0 : Nat) (Z0 : n0 ≤ h0.size) :
    own_C l Z (⟨"java/lang/Record", "<init>", "()V"⟩ : MethodName) jdk_30_method_1_code 1 none ({ frames := 1, cells := 0, slots := 0, locals := 12 } : Room) #[(.ref o0)] h0 (Q3 Z o0 h0 n0) := by
  refine own_met (plainFor_of_name pn_1) ?_
  intro p e s m below meth c s₁ hx hby hml hret hlk hown hnm hZ X0 e0
  refine own_cast (ef_3 m o0) ?_
  have N0 := Fr.nil n0
  show own_Out p e below _ s₁ (mkF m 0 #[.val (.ref o0)] []) _ _ _
  refine own_to (fun t k => XS.aloadN X0.here hx rfl (hb hby d3_0) rfl rfl k) ?_
  show own_Out p e below _ s₁ (mkF m 1 #[.val (.ref o0)] [(.ref o0)]) _ _ _
  obtain ⟨T1, X1, e1, st1⟩ := initO X0 hx hZ hown (hw _ (List.mem_of_getElem? (i := 17) rfl)) (hw _ (List.mem_of_getElem? (i := 18) rfl)) (hw _ (List.mem_of_getElem? (i := 19) rfl)) e0 (g := (mkF m 1 #[.val (.ref o0)] [(.ref o0)])) rfl (by rw [hml]; rfl) rfl (hb hby d3_1) (by decide) (W := 0) (by show 2 * 0 + _ ≤ _; exact Nat.le_of_eq rfl) (by decide)
  refine own_to st1 ?_
  show own_Out p e below _ T1 (mkF m 4 #[.val (.ref o0)] []) _ _ _
  refine own_ret0 X1 hx hlk hret (hb hby d3_4) (by decide) (by decide) ?_
  rw [e1]
  exact ⟨rfl, N0, rfl⟩
theorem d2_0 : decode prog_14_method_1_code 0 = .ok (.aload_n 0, 1) := by decide +kernel
theorem d2_1 : decode prog_14_method_1_code 1 = .ok (.invokespecial 1, 3) := by decide +kernel
theorem d2_4 : decode prog_14_method_1_code 4 = .ok (.aload_n 0, 1) := by decide +kernel
theorem d2_5 : decode prog_14_method_1_code 5 = .ok (.iload_n 1, 1) := by decide +kernel
theorem d2_6 : decode prog_14_method_1_code 6 = .ok (.putfield 7, 3) := by decide +kernel
theorem d2_9 : decode prog_14_method_1_code 9 = .ok (.aload_n 0, 1) := by decide +kernel
theorem d2_10 : decode prog_14_method_1_code 10 = .ok (.iload_n 2, 1) := by decide +kernel
theorem d2_11 : decode prog_14_method_1_code 11 = .ok (.putfield 13, 3) := by decide +kernel
theorem d2_14 : decode prog_14_method_1_code 14 = .ok (.return_, 1) := by decide +kernel
theorem pn_2 : plainName "com/example/queenside/queenside/Square" = true := by first | (simp [plainName, overriddenIn]; done) | decide +kernel
theorem ef_2 (m : MethodId) (o0 : Addr) (u1 : Int32) (u2 : Int32) : entryFrame m #[(.ref o0), (.int u1), (.int u2)] 3 = mkF m 0 #[.val (.ref o0), .val (.int u1), .val (.int u2)] [] := by first | (simp [entryFrame, mkF, argsToLocals, Value.category]; done) | rfl
def Q2 (Z : State) (o0 : Addr) (u1 : Int32) (u2 : Int32) (h0 : Heap) (n0 : Nat) (v : Option Value) (h : Heap) (L : List Loc) : Prop := v = none ∧ Fr n0 L ∧ Keep h0 h [o0] ∧ Fld Z h o0 "com/example/queenside/queenside/Square" "row" "I" (.int u1) ∧ Fld Z h o0 "com/example/queenside/queenside/Square" "column" "I" (.int u2)
theorem pd_0 : parseMethodDescriptor "()V" = some ⟨[], none⟩ := by decide +kernel
set_option maxRecDepth 65536 in
set_option maxHeartbeats 40000000 in
theorem rm2 (l : Launch) (Z : State) (a0 : Array Value) (hw : ∀ d ∈ tables_1, d.before a0 Z = true) (o0 : Addr) (u1 : Int32) (u2 : Int32) (h0 : Heap) (n0 : Nat) (Z0 : n0 ≤ h0.size) (E_o0 : Exa Z h0 o0 "com/example/queenside/queenside/Square") (F_o0_row : Fld Z h0 o0 "com/example/queenside/queenside/Square" "row" "I" (.int (0 : Int32))) (F_o0_column : Fld Z h0 o0 "com/example/queenside/queenside/Square" "column" "I" (.int (0 : Int32))) (g_o0 : n0 ≤ o0) :
    own_C l Z (⟨"com/example/queenside/queenside/Square", "<init>", "(II)V"⟩ : MethodName) prog_14_method_1_code 3 none ({ frames := 2, cells := 0, slots := 0, locals := 24 } : Room) #[(.ref o0), (.int u1), (.int u2)] h0 (Q2 Z o0 u1 u2 h0 n0) := by
  refine own_met (plainFor_of_name pn_2) ?_
  intro p e s m below meth c s₁ hx hby hml hret hlk hown hnm hZ X0 e0
  refine own_cast (ef_2 m o0 u1 u2) ?_
  have N0 := Fr.nil n0
  have K := Keep.refl h0 [o0]
  show own_Out p e below _ s₁ (mkF m 0 #[.val (.ref o0), .val (.int u1), .val (.int u2)] []) _ _ _
  refine own_to (fun t k => XS.aloadN X0.here hx rfl (hb hby d2_0) rfl rfl k) ?_
  show own_Out p e below _ s₁ (mkF m 1 #[.val (.ref o0), .val (.int u1), .val (.int u2)] [(.ref o0)]) _ _ _
  refine own_callC X0 hx hZ hown (a := o0) (argsL := []) (rest := []) rfl (hw _ (List.mem_of_getElem? (i := 12) rfl)) (hw _ (List.mem_of_getElem? (i := 13) rfl)) (hw _ (List.mem_of_getElem? (i := 15) rfl)) (hw _ (List.mem_of_getElem? (i := 16) rfl)) (by decide) (rm3 l Z a0 hw o0 h0 n0 Z0 ) (by decide) (by decide) e0 rfl (by rw [hml]; rfl) (lenOf pd_0 rfl) rfl (W := 0) (by show 2 * 0 + _ ≤ _; exact Nat.le_of_eq rfl) (hb hby d2_1) (by decide) (by decide) fun v1 T1 hh1 L1 X1 e1 hQ1 => ?_
  obtain ⟨rfl, NL1, he1⟩ := hQ1
  replace e1 := e1.trans he1
  have N1 := Fr.app N0 NL1
  show own_Out p e below _ T1 (mkF m 4 #[.val (.ref o0), .val (.int u1), .val (.int u2)] []) _ _ _
  refine own_to (fun t k => XS.aloadN X1.here hx rfl (hb hby d2_4) rfl rfl k) ?_
  show own_Out p e below _ T1 (mkF m 5 #[.val (.ref o0), .val (.int u1), .val (.int u2)] [(.ref o0)]) _ _ _
  refine own_to (fun t k => XS.iloadN X1.here hx rfl (hb hby d2_5) rfl k) ?_
  show own_Out p e below _ T1 (mkF m 6 #[.val (.ref o0), .val (.int u1), .val (.int u2)] [(.int u1), (.ref o0)]) _ _ _
  refine own_putF X1 hx hZ hown (hw _ (List.mem_of_getElem? (i := 20) rfl)) e1 F_o0_row E_o0 (Or.inr ⟨(hw _ (List.mem_of_getElem? (i := 21) rfl)), rfl, hnm⟩) (hw _ (List.mem_of_getElem? (i := 7) rfl)) (ty := .int) (by decide) rfl rfl rfl rfl (hb hby d2_6) fun T2 hh2 X2 e2 W2 => ?_
  have E_o0 := E_o0.wr W2
  have F_o0_row := F_o0_row.same W2
  have F_o0_column := F_o0_column.other W2 (Or.inr (slot_ne (Or.inr (hw _ (List.mem_of_getElem? (i := 23) rfl))) (Or.inr (hw _ (List.mem_of_getElem? (i := 21) rfl))) (by decide) (t := .int) (t' := .int) (by decide) (by decide)))
  have K := K.wr W2 (Or.inl (by simp))
  have Z0 := Nat.le_trans Z0 (Nat.le_of_eq W2.size.symm)
  have N2 := own_fs (sl := Jvm.RoadKit.slotOf Z "com/example/queenside/queenside/Square" "row" "I") N1 g_o0
  show own_Out p e below _ T2 (mkF m 9 #[.val (.ref o0), .val (.int u1), .val (.int u2)] []) _ _ _
  refine own_to (fun t k => XS.aloadN X2.here hx rfl (hb hby d2_9) rfl rfl k) ?_
  show own_Out p e below _ T2 (mkF m 10 #[.val (.ref o0), .val (.int u1), .val (.int u2)] [(.ref o0)]) _ _ _
  refine own_to (fun t k => XS.iloadN X2.here hx rfl (hb hby d2_10) rfl k) ?_
  show own_Out p e below _ T2 (mkF m 11 #[.val (.ref o0), .val (.int u1), .val (.int u2)] [(.int u2), (.ref o0)]) _ _ _
  refine own_putF X2 hx hZ hown (hw _ (List.mem_of_getElem? (i := 22) rfl)) e2 F_o0_column E_o0 (Or.inr ⟨(hw _ (List.mem_of_getElem? (i := 23) rfl)), rfl, hnm⟩) (hw _ (List.mem_of_getElem? (i := 7) rfl)) (ty := .int) (by decide) rfl rfl rfl rfl (hb hby d2_11) fun T3 hh3 X3 e3 W3 => ?_
  have E_o0 := E_o0.wr W3
  have F_o0_row := F_o0_row.other W3 (Or.inr (slot_ne (Or.inr (hw _ (List.mem_of_getElem? (i := 21) rfl))) (Or.inr (hw _ (List.mem_of_getElem? (i := 23) rfl))) (by decide) (t := .int) (t' := .int) (by decide) (by decide)))
  have F_o0_column := F_o0_column.same W3
  have K := K.wr W3 (Or.inl (by simp))
  have Z0 := Nat.le_trans Z0 (Nat.le_of_eq W3.size.symm)
  have N3 := own_fs (sl := Jvm.RoadKit.slotOf Z "com/example/queenside/queenside/Square" "column" "I") N2 g_o0
  show own_Out p e below _ T3 (mkF m 14 #[.val (.ref o0), .val (.int u1), .val (.int u2)] []) _ _ _
  refine own_ret0 X3 hx hlk hret (hb hby d2_14) (by decide) (by decide) ?_
  rw [e3]
  exact ⟨rfl, N3, K, F_o0_row, F_o0_column⟩
theorem d6_0 : decode prog_14_method_3_code 0 = .ok (.aload_n 0, 1) := by decide +kernel
theorem d6_1 : decode prog_14_method_3_code 1 = .ok (.getfield 7, 3) := by decide +kernel
theorem d6_4 : decode prog_14_method_3_code 4 = .ok (.aload_n 0, 1) := by decide +kernel
theorem d6_5 : decode prog_14_method_3_code 5 = .ok (.getfield 13, 3) := by decide +kernel
theorem d6_8 : decode prog_14_method_3_code 8 = .ok (.isub, 1) := by decide +kernel
theorem d6_9 : decode prog_14_method_3_code 9 = .ok (.ireturn, 1) := by decide +kernel
theorem ef_6 (m : MethodId) (o0 : Addr) : entryFrame m #[(.ref o0)] 1 = mkF m 0 #[.val (.ref o0)] [] := by first | (simp [entryFrame, mkF, argsToLocals, Value.category]; done) | rfl
def Q6 (Z : State) (o0 : Addr) (f1 : Int32) (f2 : Int32) (h0 : Heap) (n0 : Nat) (v : Option Value) (h : Heap) (L : List Loc) : Prop := v = some (.int (f1 - f2)) ∧ Fr n0 L ∧ h = h0
set_option maxRecDepth 65536 in
set_option maxHeartbeats 40000000 in
theorem rm6 (l : Launch) (Z : State) (a0 : Array Value) (hw : ∀ d ∈ tables_1, d.before a0 Z = true) (o0 : Addr) (f1 : Int32) (f2 : Int32) (h0 : Heap) (n0 : Nat) (Z0 : n0 ≤ h0.size) (F_o0_row : Fld Z h0 o0 "com/example/queenside/queenside/Square" "row" "I" (.int f1)) (F_o0_column : Fld Z h0 o0 "com/example/queenside/queenside/Square" "column" "I" (.int f2)) :
    own_C l Z (⟨"com/example/queenside/queenside/Square", "down", "()I"⟩ : MethodName) prog_14_method_3_code 1 (some .int) ({ frames := 0, cells := 0, slots := 0, locals := 0 } : Room) #[(.ref o0)] h0 (Q6 Z o0 f1 f2 h0 n0) := by
  refine own_met (plainFor_of_name pn_2) ?_
  intro p e s m below meth c s₁ hx hby hml hret hlk hown hnm hZ X0 e0
  refine own_cast (ef_6 m o0) ?_
  have N0 := Fr.nil n0
  show own_Out p e below _ s₁ (mkF m 0 #[.val (.ref o0)] []) _ _ _
  refine own_to (fun t k => XS.aloadN X0.here hx rfl (hb hby d6_0) rfl rfl k) ?_
  show own_Out p e below _ s₁ (mkF m 1 #[.val (.ref o0)] [(.ref o0)]) _ _ _
  refine own_getF X0 hx hZ hown (hw _ (List.mem_of_getElem? (i := 20) rfl)) e0 F_o0_row rfl rfl (hb hby d6_1) fun T1 X1 e1 => ?_
  show own_Out p e below _ T1 (mkF m 4 #[.val (.ref o0)] [(.int f1)]) _ _ _
  refine own_to (fun t k => XS.aloadN X1.here hx rfl (hb hby d6_4) rfl rfl k) ?_
  show own_Out p e below _ T1 (mkF m 5 #[.val (.ref o0)] [(.ref o0), (.int f1)]) _ _ _
  refine own_getF X1 hx hZ hown (hw _ (List.mem_of_getElem? (i := 22) rfl)) e1 F_o0_column rfl rfl (hb hby d6_5) fun T2 X2 e2 => ?_
  show own_Out p e below _ T2 (mkF m 8 #[.val (.ref o0)] [(.int f2), (.int f1)]) _ _ _
  refine own_to (fun t k => XS.isub X2.here hx rfl (hb hby d6_8) rfl k) ?_
  show own_Out p e below _ T2 (mkF m 9 #[.val (.ref o0)] [(.int (f1 - f2))]) _ _ _
  refine own_retI X2 hx hlk hret (hb hby d6_9) (by decide) (by decide) ?_
  rw [e2]
  exact ⟨rfl, N0, rfl⟩
theorem d7_0 : decode prog_14_method_4_code 0 = .ok (.aload_n 0, 1) := by decide +kernel
theorem d7_1 : decode prog_14_method_4_code 1 = .ok (.getfield 7, 3) := by decide +kernel
theorem d7_4 : decode prog_14_method_4_code 4 = .ok (.aload_n 0, 1) := by decide +kernel
theorem d7_5 : decode prog_14_method_4_code 5 = .ok (.getfield 13, 3) := by decide +kernel
theorem d7_8 : decode prog_14_method_4_code 8 = .ok (.iadd, 1) := by decide +kernel
theorem d7_9 : decode prog_14_method_4_code 9 = .ok (.ireturn, 1) := by decide +kernel
theorem ef_7 (m : MethodId) (o0 : Addr) : entryFrame m #[(.ref o0)] 1 = mkF m 0 #[.val (.ref o0)] [] := by first | (simp [entryFrame, mkF, argsToLocals, Value.category]; done) | rfl
def Q7 (Z : State) (o0 : Addr) (f1 : Int32) (f2 : Int32) (h0 : Heap) (n0 : Nat) (v : Option Value) (h : Heap) (L : List Loc) : Prop := v = some (.int (f1 + f2)) ∧ Fr n0 L ∧ h = h0
set_option maxRecDepth 65536 in
set_option maxHeartbeats 40000000 in
theorem rm7 (l : Launch) (Z : State) (a0 : Array Value) (hw : ∀ d ∈ tables_1, d.before a0 Z = true) (o0 : Addr) (f1 : Int32) (f2 : Int32) (h0 : Heap) (n0 : Nat) (Z0 : n0 ≤ h0.size) (F_o0_row : Fld Z h0 o0 "com/example/queenside/queenside/Square" "row" "I" (.int f1)) (F_o0_column : Fld Z h0 o0 "com/example/queenside/queenside/Square" "column" "I" (.int f2)) :
    own_C l Z (⟨"com/example/queenside/queenside/Square", "up", "()I"⟩ : MethodName) prog_14_method_4_code 1 (some .int) ({ frames := 0, cells := 0, slots := 0, locals := 0 } : Room) #[(.ref o0)] h0 (Q7 Z o0 f1 f2 h0 n0) := by
  refine own_met (plainFor_of_name pn_2) ?_
  intro p e s m below meth c s₁ hx hby hml hret hlk hown hnm hZ X0 e0
  refine own_cast (ef_7 m o0) ?_
  have N0 := Fr.nil n0
  show own_Out p e below _ s₁ (mkF m 0 #[.val (.ref o0)] []) _ _ _
  refine own_to (fun t k => XS.aloadN X0.here hx rfl (hb hby d7_0) rfl rfl k) ?_
  show own_Out p e below _ s₁ (mkF m 1 #[.val (.ref o0)] [(.ref o0)]) _ _ _
  refine own_getF X0 hx hZ hown (hw _ (List.mem_of_getElem? (i := 20) rfl)) e0 F_o0_row rfl rfl (hb hby d7_1) fun T1 X1 e1 => ?_
  show own_Out p e below _ T1 (mkF m 4 #[.val (.ref o0)] [(.int f1)]) _ _ _
  refine own_to (fun t k => XS.aloadN X1.here hx rfl (hb hby d7_4) rfl rfl k) ?_
  show own_Out p e below _ T1 (mkF m 5 #[.val (.ref o0)] [(.ref o0), (.int f1)]) _ _ _
  refine own_getF X1 hx hZ hown (hw _ (List.mem_of_getElem? (i := 22) rfl)) e1 F_o0_column rfl rfl (hb hby d7_5) fun T2 X2 e2 => ?_
  show own_Out p e below _ T2 (mkF m 8 #[.val (.ref o0)] [(.int f2), (.int f1)]) _ _ _
  refine own_to (fun t k => XS.iadd X2.here hx rfl (hb hby d7_8) rfl k) ?_
  show own_Out p e below _ T2 (mkF m 9 #[.val (.ref o0)] [(.int (f1 + f2))]) _ _ _
  refine own_retI X2 hx hlk hret (hb hby d7_9) (by decide) (by decide) ?_
  rw [e2]
  exact ⟨rfl, N0, rfl⟩
theorem d5_0 : decode prog_14_method_2_code 0 = .ok (.aload_n 0, 1) := by decide +kernel
theorem d5_1 : decode prog_14_method_2_code 1 = .ok (.getfield 7, 3) := by decide +kernel
theorem d5_4 : decode prog_14_method_2_code 4 = .ok (.aload_n 1, 1) := by decide +kernel
theorem d5_5 : decode prog_14_method_2_code 5 = .ok (.getfield 7, 3) := by decide +kernel
theorem d5_8 : decode prog_14_method_2_code 8 = .ok (.if_icmp .eq 36, 3) := by decide +kernel
theorem d5_11 : decode prog_14_method_2_code 11 = .ok (.aload_n 0, 1) := by decide +kernel
theorem d5_12 : decode prog_14_method_2_code 12 = .ok (.getfield 13, 3) := by decide +kernel
theorem d5_15 : decode prog_14_method_2_code 15 = .ok (.aload_n 1, 1) := by decide +kernel
theorem d5_16 : decode prog_14_method_2_code 16 = .ok (.getfield 13, 3) := by decide +kernel
theorem d5_19 : decode prog_14_method_2_code 19 = .ok (.if_icmp .eq 25, 3) := by decide +kernel
theorem d5_22 : decode prog_14_method_2_code 22 = .ok (.aload_n 0, 1) := by decide +kernel
theorem d5_23 : decode prog_14_method_2_code 23 = .ok (.invokevirtual 16, 3) := by decide +kernel
theorem d5_26 : decode prog_14_method_2_code 26 = .ok (.aload_n 1, 1) := by decide +kernel
theorem d5_27 : decode prog_14_method_2_code 27 = .ok (.invokevirtual 16, 3) := by decide +kernel
theorem d5_30 : decode prog_14_method_2_code 30 = .ok (.if_icmp .eq 14, 3) := by decide +kernel
theorem d5_33 : decode prog_14_method_2_code 33 = .ok (.aload_n 0, 1) := by decide +kernel
theorem d5_34 : decode prog_14_method_2_code 34 = .ok (.invokevirtual 20, 3) := by decide +kernel
theorem d5_37 : decode prog_14_method_2_code 37 = .ok (.aload_n 1, 1) := by decide +kernel
theorem d5_38 : decode prog_14_method_2_code 38 = .ok (.invokevirtual 20, 3) := by decide +kernel
theorem d5_41 : decode prog_14_method_2_code 41 = .ok (.if_icmp .ne 7, 3) := by decide +kernel
theorem d5_44 : decode prog_14_method_2_code 44 = .ok (.iconst 1, 1) := by decide +kernel
theorem d5_45 : decode prog_14_method_2_code 45 = .ok (.goto 4, 3) := by decide +kernel
theorem d5_48 : decode prog_14_method_2_code 48 = .ok (.iconst 0, 1) := by decide +kernel
theorem d5_49 : decode prog_14_method_2_code 49 = .ok (.ireturn, 1) := by decide +kernel
theorem ef_5 (m : MethodId) (o0 : Addr) (o1 : Addr) : entryFrame m #[(.ref o0), (.ref o1)] 2 = mkF m 0 #[.val (.ref o0), .val (.ref o1)] [] := by first | (simp [entryFrame, mkF, argsToLocals, Value.category]; done) | rfl
def R5 (o0 : Addr) (o1 : Addr) (f1 : Int32) (f2 : Int32) (f3 : Int32) (f4 : Int32) : Int32 := (if f1 = f3 then (1 : Int32) else (if f2 = f4 then (1 : Int32) else (if (f1 - f2) = (f3 - f4) then (1 : Int32) else (if (f1 + f2) = (f3 + f4) then (1 : Int32) else (0 : Int32)))))
def Q5 (Z : State) (o0 : Addr) (o1 : Addr) (f1 : Int32) (f2 : Int32) (f3 : Int32) (f4 : Int32) (h0 : Heap) (n0 : Nat) (v : Option Value) (h : Heap) (L : List Loc) : Prop := v = some (.int (R5 o0 o1 f1 f2 f3 f4)) ∧ Fr n0 L ∧ h = h0
theorem pd_1 : parseMethodDescriptor "()I" = some ⟨[], some .int⟩ := by decide +kernel
set_option maxRecDepth 65536 in
set_option maxHeartbeats 40000000 in
theorem rm5 (l : Launch) (Z : State) (a0 : Array Value) (hw : ∀ d ∈ tables_1, d.before a0 Z = true) (o0 : Addr) (o1 : Addr) (f1 : Int32) (f2 : Int32) (f3 : Int32) (f4 : Int32) (h0 : Heap) (n0 : Nat) (Z0 : n0 ≤ h0.size) (E_o0 : Exa Z h0 o0 "com/example/queenside/queenside/Square") (E_o1 : Exa Z h0 o1 "com/example/queenside/queenside/Square") (F_o0_row : Fld Z h0 o0 "com/example/queenside/queenside/Square" "row" "I" (.int f1)) (F_o0_column : Fld Z h0 o0 "com/example/queenside/queenside/Square" "column" "I" (.int f2)) (F_o1_row : Fld Z h0 o1 "com/example/queenside/queenside/Square" "row" "I" (.int f3)) (F_o1_column : Fld Z h0 o1 "com/example/queenside/queenside/Square" "column" "I" (.int f4)) :
    own_C l Z (⟨"com/example/queenside/queenside/Square", "attacks", "(Lcom/example/queenside/queenside/Square;)Z"⟩ : MethodName) prog_14_method_2_code 2 (some .boolean) ({ frames := 1, cells := 0, slots := 0, locals := 13 } : Room) #[(.ref o0), (.ref o1)] h0 (Q5 Z o0 o1 f1 f2 f3 f4 h0 n0) := by
  refine own_met (plainFor_of_name pn_2) ?_
  intro p e s m below meth c s₁ hx hby hml hret hlk hown hnm hZ X0 e0
  refine own_cast (ef_5 m o0 o1) ?_
  have N0 := Fr.nil n0
  show own_Out p e below _ s₁ (mkF m 0 #[.val (.ref o0), .val (.ref o1)] []) _ _ _
  refine own_to (fun t k => XS.aloadN X0.here hx rfl (hb hby d5_0) rfl rfl k) ?_
  show own_Out p e below _ s₁ (mkF m 1 #[.val (.ref o0), .val (.ref o1)] [(.ref o0)]) _ _ _
  refine own_getF X0 hx hZ hown (hw _ (List.mem_of_getElem? (i := 20) rfl)) e0 F_o0_row rfl rfl (hb hby d5_1) fun T1 X1 e1 => ?_
  show own_Out p e below _ T1 (mkF m 4 #[.val (.ref o0), .val (.ref o1)] [(.int f1)]) _ _ _
  refine own_to (fun t k => XS.aloadN X1.here hx rfl (hb hby d5_4) rfl rfl k) ?_
  show own_Out p e below _ T1 (mkF m 5 #[.val (.ref o0), .val (.ref o1)] [(.ref o1), (.int f1)]) _ _ _
  refine own_getF X1 hx hZ hown (hw _ (List.mem_of_getElem? (i := 20) rfl)) e1 F_o1_row rfl rfl (hb hby d5_5) fun T2 X2 e2 => ?_
  show own_Out p e below _ T2 (mkF m 8 #[.val (.ref o0), .val (.ref o1)] [(.int f3), (.int f1)]) _ _ _
  by_cases hc8 : f1 = f3
  · refine own_to (fun t k => XS.icmpYes X2.here hx rfl (pc0 := 8) (pc' := 44) rfl (hb hby d5_8) rfl (teq hc8).1 (by decide) (by decide) k) ?_
    show own_Out p e below _ T2 (mkF m 44 #[.val (.ref o0), .val (.ref o1)] []) _ _ _
    refine own_to (fun t k => XS.iconst X2.here hx rfl (hb hby d5_44) k) ?_
    show own_Out p e below _ T2 (mkF m 45 #[.val (.ref o0), .val (.ref o1)] [(.int (1 : Int32))]) _ _ _
    refine own_to (fun t k => XS.goto X2.here hx rfl (pc0 := 45) (pc' := 49) rfl (hb hby d5_45) (by decide) (by decide) k) ?_
    show own_Out p e below _ T2 (mkF m 49 #[.val (.ref o0), .val (.ref o1)] [(.int (1 : Int32))]) _ _ _
    refine own_retV X2 hx hlk (w := .int (1 : Int32)) hret rfl (Or.inl ⟨rfl, by simp, _, rfl⟩) (hb hby d5_49) (by decide) (by decide) ?_
    rw [e2]
    exact ⟨(by unfold R5; rw [if_pos hc8]), N0, rfl⟩
  · refine own_to (fun t k => XS.icmpNo X2.here hx rfl (hb hby d5_8) rfl (feq hc8).1 k) ?_
    show own_Out p e below _ T2 (mkF m 11 #[.val (.ref o0), .val (.ref o1)] []) _ _ _
    refine own_to (fun t k => XS.aloadN X2.here hx rfl (hb hby d5_11) rfl rfl k) ?_
    show own_Out p e below _ T2 (mkF m 12 #[.val (.ref o0), .val (.ref o1)] [(.ref o0)]) _ _ _
    refine own_getF X2 hx hZ hown (hw _ (List.mem_of_getElem? (i := 22) rfl)) e2 F_o0_column rfl rfl (hb hby d5_12) fun T3 X3 e3 => ?_
    show own_Out p e below _ T3 (mkF m 15 #[.val (.ref o0), .val (.ref o1)] [(.int f2)]) _ _ _
    refine own_to (fun t k => XS.aloadN X3.here hx rfl (hb hby d5_15) rfl rfl k) ?_
    show own_Out p e below _ T3 (mkF m 16 #[.val (.ref o0), .val (.ref o1)] [(.ref o1), (.int f2)]) _ _ _
    refine own_getF X3 hx hZ hown (hw _ (List.mem_of_getElem? (i := 22) rfl)) e3 F_o1_column rfl rfl (hb hby d5_16) fun T4 X4 e4 => ?_
    show own_Out p e below _ T4 (mkF m 19 #[.val (.ref o0), .val (.ref o1)] [(.int f4), (.int f2)]) _ _ _
    by_cases hc19 : f2 = f4
    · refine own_to (fun t k => XS.icmpYes X4.here hx rfl (pc0 := 19) (pc' := 44) rfl (hb hby d5_19) rfl (teq hc19).1 (by decide) (by decide) k) ?_
      show own_Out p e below _ T4 (mkF m 44 #[.val (.ref o0), .val (.ref o1)] []) _ _ _
      refine own_to (fun t k => XS.iconst X4.here hx rfl (hb hby d5_44) k) ?_
      show own_Out p e below _ T4 (mkF m 45 #[.val (.ref o0), .val (.ref o1)] [(.int (1 : Int32))]) _ _ _
      refine own_to (fun t k => XS.goto X4.here hx rfl (pc0 := 45) (pc' := 49) rfl (hb hby d5_45) (by decide) (by decide) k) ?_
      show own_Out p e below _ T4 (mkF m 49 #[.val (.ref o0), .val (.ref o1)] [(.int (1 : Int32))]) _ _ _
      refine own_retV X4 hx hlk (w := .int (1 : Int32)) hret rfl (Or.inl ⟨rfl, by simp, _, rfl⟩) (hb hby d5_49) (by decide) (by decide) ?_
      rw [e4]
      exact ⟨(by unfold R5; rw [if_neg hc8, if_pos hc19]), N0, rfl⟩
    · refine own_to (fun t k => XS.icmpNo X4.here hx rfl (hb hby d5_19) rfl (feq hc19).1 k) ?_
      show own_Out p e below _ T4 (mkF m 22 #[.val (.ref o0), .val (.ref o1)] []) _ _ _
      refine own_to (fun t k => XS.aloadN X4.here hx rfl (hb hby d5_22) rfl rfl k) ?_
      show own_Out p e below _ T4 (mkF m 23 #[.val (.ref o0), .val (.ref o1)] [(.ref o0)]) _ _ _
      refine own_callV X4 hx hZ hown (a := o0) (argsL := []) (rest := []) (hw _ (List.mem_of_getElem? (i := 29) rfl)) (hw _ (List.mem_of_getElem? (i := 30) rfl)) (hw _ (List.mem_of_getElem? (i := 32) rfl)) (hw _ (List.mem_of_getElem? (i := 31) rfl)) (hw _ (List.mem_of_getElem? (i := 8) rfl)) (hw _ (List.mem_of_getElem? (i := 33) rfl)) (by decide) (rm6 l Z a0 hw o0 f1 f2 h0 n0 Z0 F_o0_row F_o0_column) (by decide) (by decide) e4 E_o0 rfl (by rw [hml]; rfl) (lenOf pd_1 rfl) rfl (W := 0) (by show 2 * 0 + _ ≤ _; exact Nat.le_of_eq rfl) (hb hby d5_23) (by decide) (by decide) fun v5 T5 hh5 L5 X5 e5 hQ5 => ?_
      obtain ⟨rfl, NL5, he5⟩ := hQ5
      replace e5 := e5.trans he5
      have N5 := Fr.app N0 NL5
      show own_Out p e below _ T5 (mkF m 26 #[.val (.ref o0), .val (.ref o1)] [(.int (f1 - f2))]) _ _ _
      refine own_to (fun t k => XS.aloadN X5.here hx rfl (hb hby d5_26) rfl rfl k) ?_
      show own_Out p e below _ T5 (mkF m 27 #[.val (.ref o0), .val (.ref o1)] [(.ref o1), (.int (f1 - f2))]) _ _ _
      refine own_callV X5 hx hZ hown (a := o1) (argsL := []) (rest := [(.int (f1 - f2))]) (hw _ (List.mem_of_getElem? (i := 29) rfl)) (hw _ (List.mem_of_getElem? (i := 30) rfl)) (hw _ (List.mem_of_getElem? (i := 32) rfl)) (hw _ (List.mem_of_getElem? (i := 31) rfl)) (hw _ (List.mem_of_getElem? (i := 8) rfl)) (hw _ (List.mem_of_getElem? (i := 33) rfl)) (by decide) (rm6 l Z a0 hw o1 f3 f4 h0 n0 Z0 F_o1_row F_o1_column) (by decide) (by decide) e5 E_o1 rfl (by rw [hml]; rfl) (lenOf pd_1 rfl) rfl (W := 1) (by show 2 * 0 + _ ≤ _; exact Nat.le_of_eq rfl) (hb hby d5_27) (by decide) (by decide) fun v6 T6 hh6 L6 X6 e6 hQ6 => ?_
      obtain ⟨rfl, NL6, he6⟩ := hQ6
      replace e6 := e6.trans he6
      have N6 := Fr.app N5 NL6
      show own_Out p e below _ T6 (mkF m 30 #[.val (.ref o0), .val (.ref o1)] [(.int (f3 - f4)), (.int (f1 - f2))]) _ _ _
      by_cases hc30 : (f1 - f2) = (f3 - f4)
      · refine own_to (fun t k => XS.icmpYes X6.here hx rfl (pc0 := 30) (pc' := 44) rfl (hb hby d5_30) rfl (teq hc30).1 (by decide) (by decide) k) ?_
        show own_Out p e below _ T6 (mkF m 44 #[.val (.ref o0), .val (.ref o1)] []) _ _ _
        refine own_to (fun t k => XS.iconst X6.here hx rfl (hb hby d5_44) k) ?_
        show own_Out p e below _ T6 (mkF m 45 #[.val (.ref o0), .val (.ref o1)] [(.int (1 : Int32))]) _ _ _
        refine own_to (fun t k => XS.goto X6.here hx rfl (pc0 := 45) (pc' := 49) rfl (hb hby d5_45) (by decide) (by decide) k) ?_
        show own_Out p e below _ T6 (mkF m 49 #[.val (.ref o0), .val (.ref o1)] [(.int (1 : Int32))]) _ _ _
        refine own_retV X6 hx hlk (w := .int (1 : Int32)) hret rfl (Or.inl ⟨rfl, by simp, _, rfl⟩) (hb hby d5_49) (by decide) (by decide) ?_
        rw [e6]
        exact ⟨(by unfold R5; rw [if_neg hc8, if_neg hc19, if_pos hc30]), N6, rfl⟩
      · refine own_to (fun t k => XS.icmpNo X6.here hx rfl (hb hby d5_30) rfl (feq hc30).1 k) ?_
        show own_Out p e below _ T6 (mkF m 33 #[.val (.ref o0), .val (.ref o1)] []) _ _ _
        refine own_to (fun t k => XS.aloadN X6.here hx rfl (hb hby d5_33) rfl rfl k) ?_
        show own_Out p e below _ T6 (mkF m 34 #[.val (.ref o0), .val (.ref o1)] [(.ref o0)]) _ _ _
        refine own_callV X6 hx hZ hown (a := o0) (argsL := []) (rest := []) (hw _ (List.mem_of_getElem? (i := 34) rfl)) (hw _ (List.mem_of_getElem? (i := 35) rfl)) (hw _ (List.mem_of_getElem? (i := 37) rfl)) (hw _ (List.mem_of_getElem? (i := 36) rfl)) (hw _ (List.mem_of_getElem? (i := 8) rfl)) (hw _ (List.mem_of_getElem? (i := 38) rfl)) (by decide) (rm7 l Z a0 hw o0 f1 f2 h0 n0 Z0 F_o0_row F_o0_column) (by decide) (by decide) e6 E_o0 rfl (by rw [hml]; rfl) (lenOf pd_1 rfl) rfl (W := 0) (by show 2 * 0 + _ ≤ _; exact Nat.le_of_eq rfl) (hb hby d5_34) (by decide) (by decide) fun v7 T7 hh7 L7 X7 e7 hQ7 => ?_
        obtain ⟨rfl, NL7, he7⟩ := hQ7
        replace e7 := e7.trans he7
        have N7 := Fr.app N6 NL7
        show own_Out p e below _ T7 (mkF m 37 #[.val (.ref o0), .val (.ref o1)] [(.int (f1 + f2))]) _ _ _
        refine own_to (fun t k => XS.aloadN X7.here hx rfl (hb hby d5_37) rfl rfl k) ?_
        show own_Out p e below _ T7 (mkF m 38 #[.val (.ref o0), .val (.ref o1)] [(.ref o1), (.int (f1 + f2))]) _ _ _
        refine own_callV X7 hx hZ hown (a := o1) (argsL := []) (rest := [(.int (f1 + f2))]) (hw _ (List.mem_of_getElem? (i := 34) rfl)) (hw _ (List.mem_of_getElem? (i := 35) rfl)) (hw _ (List.mem_of_getElem? (i := 37) rfl)) (hw _ (List.mem_of_getElem? (i := 36) rfl)) (hw _ (List.mem_of_getElem? (i := 8) rfl)) (hw _ (List.mem_of_getElem? (i := 38) rfl)) (by decide) (rm7 l Z a0 hw o1 f3 f4 h0 n0 Z0 F_o1_row F_o1_column) (by decide) (by decide) e7 E_o1 rfl (by rw [hml]; rfl) (lenOf pd_1 rfl) rfl (W := 1) (by show 2 * 0 + _ ≤ _; exact Nat.le_of_eq rfl) (hb hby d5_38) (by decide) (by decide) fun v8 T8 hh8 L8 X8 e8 hQ8 => ?_
        obtain ⟨rfl, NL8, he8⟩ := hQ8
        replace e8 := e8.trans he8
        have N8 := Fr.app N7 NL8
        show own_Out p e below _ T8 (mkF m 41 #[.val (.ref o0), .val (.ref o1)] [(.int (f3 + f4)), (.int (f1 + f2))]) _ _ _
        by_cases hc41 : (f1 + f2) = (f3 + f4)
        · refine own_to (fun t k => XS.icmpNo X8.here hx rfl (hb hby d5_41) rfl (teq hc41).2 k) ?_
          show own_Out p e below _ T8 (mkF m 44 #[.val (.ref o0), .val (.ref o1)] []) _ _ _
          refine own_to (fun t k => XS.iconst X8.here hx rfl (hb hby d5_44) k) ?_
          show own_Out p e below _ T8 (mkF m 45 #[.val (.ref o0), .val (.ref o1)] [(.int (1 : Int32))]) _ _ _
          refine own_to (fun t k => XS.goto X8.here hx rfl (pc0 := 45) (pc' := 49) rfl (hb hby d5_45) (by decide) (by decide) k) ?_
          show own_Out p e below _ T8 (mkF m 49 #[.val (.ref o0), .val (.ref o1)] [(.int (1 : Int32))]) _ _ _
          refine own_retV X8 hx hlk (w := .int (1 : Int32)) hret rfl (Or.inl ⟨rfl, by simp, _, rfl⟩) (hb hby d5_49) (by decide) (by decide) ?_
          rw [e8]
          exact ⟨(by unfold R5; rw [if_neg hc8, if_neg hc19, if_neg hc30, if_pos hc41]), N8, rfl⟩
        · refine own_to (fun t k => XS.icmpYes X8.here hx rfl (pc0 := 41) (pc' := 48) rfl (hb hby d5_41) rfl (feq hc41).2 (by decide) (by decide) k) ?_
          show own_Out p e below _ T8 (mkF m 48 #[.val (.ref o0), .val (.ref o1)] []) _ _ _
          refine own_to (fun t k => XS.iconst X8.here hx rfl (hb hby d5_48) k) ?_
          show own_Out p e below _ T8 (mkF m 49 #[.val (.ref o0), .val (.ref o1)] [(.int (0 : Int32))]) _ _ _
          refine own_retV X8 hx hlk (w := .int (0 : Int32)) hret rfl (Or.inl ⟨rfl, by simp, _, rfl⟩) (hb hby d5_49) (by decide) (by decide) ?_
          rw [e8]
          exact ⟨(by unfold R5; rw [if_neg hc8, if_neg hc19, if_neg hc30, if_neg hc41]), N8, rfl⟩
def own_exp (r1 c1 r2 c2 : Int32) : Int32 := if ((r2.toInt64) - (r1.toInt64)) = (0 : Int64) then 1 else if ((c2.toInt64) - (c1.toInt64)) = (0 : Int64) then 1 else if ((r2.toInt64) - (r1.toInt64)) = ((c2.toInt64) - (c1.toInt64)) then 1 else if ((r2.toInt64) - (r1.toInt64)) = (-((c2.toInt64) - (c1.toInt64))) then 1 else 0
theorem own_co (x : Int32) : 1 ≤ (R1 x).toInt ∧ (R1 x).toInt ≤ 536870912 := by
  unfold R1
  have h1 := c_mask x 2147483647 31 (by decide) (by decide)
  have h2 := c_irem (x &&& 2147483647) 536870912 536870912 (by decide)
  have h3 := c_iadd ((x &&& 2147483647) % 536870912) 1
  have r := rng32 ((x &&& 2147483647) % 536870912 + 1)
  have k : (1 : Int32).toInt = 1 := by decide
  omega
theorem own_nu (x : Int32) : -1 ≤ (((x >>> ((2 : Int32) &&& 31)) &&& (3 : Int32)) - (1 : Int32)).toInt ∧ (((x >>> ((2 : Int32) &&& 31)) &&& (3 : Int32)) - (1 : Int32)).toInt ≤ 2 := by
  have h1 := c_mask (x >>> ((2 : Int32) &&& 31)) 3 2 (by decide) (by decide)
  have h3 := c_isub ((x >>> ((2 : Int32) &&& 31)) &&& 3) 1
  have r := rng32 (((x >>> ((2 : Int32) &&& 31)) &&& 3) - 1)
  have k : (1 : Int32).toInt = 1 := by decide
  omega
theorem own_lsub (x y : Int32) : ((x.toInt64) - (y.toInt64)).toInt = x.toInt - y.toInt := by
  have h1 := c_lsub x.toInt64 y.toInt64
  have h2 := c_i2l x
  have h3 := c_i2l y
  have r1 := rng32 x
  have r2 := rng32 y
  have r3 := rng64 (x.toInt64 - y.toInt64)
  omega
theorem own_lneg (x y : Int32) : (-((x.toInt64) - (y.toInt64))).toInt = y.toInt - x.toInt := by
  have h1 := c_lneg (x.toInt64 - y.toInt64)
  have h2 := own_lsub x y
  have r1 := rng32 x
  have r2 := rng32 y
  have r3 := rng64 (-(x.toInt64 - y.toInt64))
  omega
theorem own_att (o o' : Addr) (r1 c1 r2 c2 : Int32) (a1 : -1073741830 ≤ r1.toInt ∧ r1.toInt ≤ 536870920) (a2 : -1073741830 ≤ c1.toInt ∧ c1.toInt ≤ 1073741830) (a3 : -1073741830 ≤ r2.toInt ∧ r2.toInt ≤ 536870920) (a4 : -1073741830 ≤ c2.toInt ∧ c2.toInt ≤ 1073741830) :
    R5 o o' r1 c1 r2 c2 = own_exp r1 c1 r2 c2 := by
  have s1 := c_isub r1 c1
  have s2 := c_isub r2 c2
  have s3 := c_iadd r1 c1
  have s4 := c_iadd r2 c2
  have t1 := rng32 (r1 - c1)
  have t2 := rng32 (r2 - c2)
  have t3 := rng32 (r1 + c1)
  have t4 := rng32 (r2 + c2)
  have k : (0 : Int64).toInt = 0 := by decide
  unfold R5 own_exp
  simp only [← Int32.toInt_inj, ← Int64.toInt_inj, own_lsub, own_lneg, k]
  (repeat' split) <;> first | rfl | (exfalso; omega)
theorem own_att' (o o' : Addr) (r1 c1 r2 c2 : Int32) (a1 : -1073741830 ≤ r1.toInt ∧ r1.toInt ≤ 536870920) (a2 : -1073741830 ≤ c1.toInt ∧ c1.toInt ≤ 1073741830) (a3 : -1073741830 ≤ r2.toInt ∧ r2.toInt ≤ 536870920) (a4 : -1073741830 ≤ c2.toInt ∧ c2.toInt ≤ 1073741830) :
    R5 o o' r2 c2 r1 c1 = own_exp r1 c1 r2 c2 := by
  have s1 := c_isub r1 c1
  have s2 := c_isub r2 c2
  have s3 := c_iadd r1 c1
  have s4 := c_iadd r2 c2
  have t1 := rng32 (r1 - c1)
  have t2 := rng32 (r2 - c2)
  have t3 := rng32 (r1 + c1)
  have t4 := rng32 (r2 + c2)
  have k : (0 : Int64).toInt = 0 := by decide
  unfold R5 own_exp
  simp only [← Int32.toInt_inj, ← Int64.toInt_inj, own_lsub, own_lneg, k]
  (repeat' split) <;> first | rfl | (exfalso; omega)
theorem own_ad (x y : Int32) (h1 : -1073741824 ≤ x.toInt ∧ x.toInt ≤ 1073741824) (h2 : -1073741000 ≤ y.toInt ∧ y.toInt ≤ 1073741000) : (x + y).toInt = x.toInt + y.toInt := by
  have h := c_iadd x y
  have r := rng32 (x + y)
  omega
theorem own_sb (x y : Int32) (h1 : -1073741824 ≤ x.toInt ∧ x.toInt ≤ 1073741824) (h2 : -1073741000 ≤ y.toInt ∧ y.toInt ≤ 1073741000) : (x - y).toInt = x.toInt - y.toInt := by
  have h := c_isub x y
  have r := rng32 (x - y)
  omega
theorem ef_0 (m : MethodId) (x0 : Int32) (x1 : Int32) (x2 : Int32) (x3 : Int32) (x4 : Int32) : entryFrame m #[(.int x0), (.int x1), (.int x2), (.int x3), (.int x4)] maxLocals = mkF m 0 #[.val (.int x0), .val (.int x1), .val (.int x2), .val (.int x3), .val (.int x4), .unset, .unset, .unset, .unset, .unset, .unset, .unset, .unset, .unset, .unset, .unset, .unset, .unset, .unset, .unset, .unset, .unset] [] := by first | (simp [entryFrame, mkF, argsToLocals, Value.category, maxLocals]; done) | rfl
def Q0 (Z : State) (x0 : Int32) (x1 : Int32) (x2 : Int32) (x3 : Int32) (x4 : Int32) (h0 : Heap) (n0 : Nat) (v : Option Value) (h : Heap) (L : List Loc) : Prop := v = some (.int (1 : Int32)) ∧ Fr n0 L
theorem pd_2 : parseMethodDescriptor "(I)I" = some ⟨[.int], some .int⟩ := by decide +kernel
theorem pd_3 : parseMethodDescriptor "(II)V" = some ⟨[.int, .int], none⟩ := by decide +kernel
theorem pd_4 : parseMethodDescriptor "(Lcom/example/queenside/queenside/Square;)Z" = some ⟨[(.object "com/example/queenside/queenside/Square")], some .boolean⟩ := by decide +kernel
set_option maxRecDepth 65536 in
set_option maxHeartbeats 40000000 in
theorem rm0 (l : Launch) (Z : State) (a0 : Array Value) (hw : ∀ d ∈ tables_1, d.before a0 Z = true) (x0 : Int32) (x1 : Int32) (x2 : Int32) (x3 : Int32) (x4 : Int32) (h0 : Heap) (n0 : Nat) (Z0 : n0 ≤ h0.size) :
    own_C l Z x code maxLocals ret room_1 #[(.int x0), (.int x1), (.int x2), (.int x3), (.int x4)] h0 (Q0 Z x0 x1 x2 x3 x4 h0 n0) := by
  refine own_met (plainFor_of_name pn_0) ?_
  intro p e s m below meth c s₁ hx hby hml hret hlk hown hnm hZ X0 e0
  refine own_cast (ef_0 m x0 x1 x2 x3 x4) ?_
  have N0 := Fr.nil n0
  show own_Out p e below _ s₁ (mkF m 0 #[.val (.int x0), .val (.int x1), .val (.int x2), .val (.int x3), .val (.int x4), .unset, .unset, .unset, .unset, .unset, .unset, .unset, .unset, .unset, .unset, .unset, .unset, .unset, .unset, .unset, .unset, .unset] []) _ _ _
  refine own_to (fun t k => XS.iloadN X0.here hx rfl (hb hby at_0) rfl k) ?_
  show own_Out p e below _ s₁ (mkF m 1 #[.val (.int x0), .val (.int x1), .val (.int x2), .val (.int x3), .val (.int x4), .unset, .unset, .unset, .unset, .unset, .unset, .unset, .unset, .unset, .unset, .unset, .unset, .unset, .unset, .unset, .unset, .unset] [(.int x0)]) _ _ _
  refine own_callS X0 hx hZ hown (argsL := [(.int x0)]) (rest := []) (hw _ (List.mem_of_getElem? (i := 0) rfl)) (hw _ (List.mem_of_getElem? (i := 1) rfl)) (hw _ (List.mem_of_getElem? (i := 2) rfl)) (hw _ (List.mem_of_getElem? (i := 3) rfl)) (by decide) (rm1 l Z a0 hw x0 h0 n0 Z0 ) (by decide) (by decide) e0 rfl (by rw [hml]; rfl) (lenOf pd_2 rfl) rfl (W := 0) (by show 2 * 0 + _ ≤ _; exact Nat.le_of_eq rfl) (hb hby at_1) (by decide) (by decide) fun v1 T1 hh1 L1 X1 e1 hQ1 => ?_
  obtain ⟨rfl, NL1, he1⟩ := hQ1
  replace e1 := e1.trans he1
  have N1 := Fr.app N0 NL1
  show own_Out p e below _ T1 (mkF m 4 #[.val (.int x0), .val (.int x1), .val (.int x2), .val (.int x3), .val (.int x4), .unset, .unset, .unset, .unset, .unset, .unset, .unset, .unset, .unset, .unset, .unset, .unset, .unset, .unset, .unset, .unset, .unset] [(.int (R1 x0))]) _ _ _
  refine own_to (fun t k => XS.istore X1.here hx rfl (hb hby at_4) rfl (l' := #[.val (.int x0), .val (.int x1), .val (.int x2), .val (.int x3), .val (.int x4), .val (.int (R1 x0)), .unset, .unset, .unset, .unset, .unset, .unset, .unset, .unset, .unset, .unset, .unset, .unset, .unset, .unset, .unset, .unset]) rfl k) ?_
  show own_Out p e below _ T1 (mkF m 6 #[.val (.int x0), .val (.int x1), .val (.int x2), .val (.int x3), .val (.int x4), .val (.int (R1 x0)), .unset, .unset, .unset, .unset, .unset, .unset, .unset, .unset, .unset, .unset, .unset, .unset, .unset, .unset, .unset, .unset] []) _ _ _
  generalize hv_r1 : (R1 x0) = r1
  show own_Out p e below _ T1 (mkF m 6 #[.val (.int x0), .val (.int x1), .val (.int x2), .val (.int x3), .val (.int x4), .val (.int r1), .unset, .unset, .unset, .unset, .unset, .unset, .unset, .unset, .unset, .unset, .unset, .unset, .unset, .unset, .unset, .unset] []) _ _ _
  have b_r1 := own_co x0
  rw [hv_r1] at b_r1
  refine own_to (fun t k => XS.iloadN X1.here hx rfl (hb hby at_6) rfl k) ?_
  show own_Out p e below _ T1 (mkF m 7 #[.val (.int x0), .val (.int x1), .val (.int x2), .val (.int x3), .val (.int x4), .val (.int r1), .unset, .unset, .unset, .unset, .unset, .unset, .unset, .unset, .unset, .unset, .unset, .unset, .unset, .unset, .unset, .unset] [(.int x1)]) _ _ _
  refine own_callS X1 hx hZ hown (argsL := [(.int x1)]) (rest := []) (hw _ (List.mem_of_getElem? (i := 0) rfl)) (hw _ (List.mem_of_getElem? (i := 1) rfl)) (hw _ (List.mem_of_getElem? (i := 2) rfl)) (hw _ (List.mem_of_getElem? (i := 3) rfl)) (by decide) (rm1 l Z a0 hw x1 h0 n0 Z0 ) (by decide) (by decide) e1 rfl (by rw [hml]; rfl) (lenOf pd_2 rfl) rfl (W := 0) (by show 2 * 0 + _ ≤ _; exact Nat.le_of_eq rfl) (hb hby at_7) (by decide) (by decide) fun v2 T2 hh2 L2 X2 e2 hQ2 => ?_
  obtain ⟨rfl, NL2, he2⟩ := hQ2
  replace e2 := e2.trans he2
  have N2 := Fr.app N1 NL2
  show own_Out p e below _ T2 (mkF m 10 #[.val (.int x0), .val (.int x1), .val (.int x2), .val (.int x3), .val (.int x4), .val (.int r1), .unset, .unset, .unset, .unset, .unset, .unset, .unset, .unset, .unset, .unset, .unset, .unset, .unset, .unset, .unset, .unset] [(.int (R1 x1))]) _ _ _
  refine own_to (fun t k => XS.istore X2.here hx rfl (hb hby at_10) rfl (l' := #[.val (.int x0), .val (.int x1), .val (.int x2), .val (.int x3), .val (.int x4), .val (.int r1), .val (.int (R1 x1)), .unset, .unset, .unset, .unset, .unset, .unset, .unset, .unset, .unset, .unset, .unset, .unset, .unset, .unset, .unset]) rfl k) ?_
  show own_Out p e below _ T2 (mkF m 12 #[.val (.int x0), .val (.int x1), .val (.int x2), .val (.int x3), .val (.int x4), .val (.int r1), .val (.int (R1 x1)), .unset, .unset, .unset, .unset, .unset, .unset, .unset, .unset, .unset, .unset, .unset, .unset, .unset, .unset, .unset] []) _ _ _
  generalize hv_c1 : (R1 x1) = c1
  show own_Out p e below _ T2 (mkF m 12 #[.val (.int x0), .val (.int x1), .val (.int x2), .val (.int x3), .val (.int x4), .val (.int r1), .val (.int c1), .unset, .unset, .unset, .unset, .unset, .unset, .unset, .unset, .unset, .unset, .unset, .unset, .unset, .unset, .unset] []) _ _ _
  have b_c1 := own_co x1
  rw [hv_c1] at b_c1
  refine own_to (fun t k => XS.iloadN X2.here hx rfl (hb hby at_12) rfl k) ?_
  show own_Out p e below _ T2 (mkF m 13 #[.val (.int x0), .val (.int x1), .val (.int x2), .val (.int x3), .val (.int x4), .val (.int r1), .val (.int c1), .unset, .unset, .unset, .unset, .unset, .unset, .unset, .unset, .unset, .unset, .unset, .unset, .unset, .unset, .unset] [(.int x2)]) _ _ _
  refine own_callS X2 hx hZ hown (argsL := [(.int x2)]) (rest := []) (hw _ (List.mem_of_getElem? (i := 0) rfl)) (hw _ (List.mem_of_getElem? (i := 1) rfl)) (hw _ (List.mem_of_getElem? (i := 2) rfl)) (hw _ (List.mem_of_getElem? (i := 3) rfl)) (by decide) (rm1 l Z a0 hw x2 h0 n0 Z0 ) (by decide) (by decide) e2 rfl (by rw [hml]; rfl) (lenOf pd_2 rfl) rfl (W := 0) (by show 2 * 0 + _ ≤ _; exact Nat.le_of_eq rfl) (hb hby at_13) (by decide) (by decide) fun v3 T3 hh3 L3 X3 e3 hQ3 => ?_
  obtain ⟨rfl, NL3, he3⟩ := hQ3
  replace e3 := e3.trans he3
  have N3 := Fr.app N2 NL3
  show own_Out p e below _ T3 (mkF m 16 #[.val (.int x0), .val (.int x1), .val (.int x2), .val (.int x3), .val (.int x4), .val (.int r1), .val (.int c1), .unset, .unset, .unset, .unset, .unset, .unset, .unset, .unset, .unset, .unset, .unset, .unset, .unset, .unset, .unset] [(.int (R1 x2))]) _ _ _
  refine own_to (fun t k => XS.istore X3.here hx rfl (hb hby at_16) rfl (l' := #[.val (.int x0), .val (.int x1), .val (.int x2), .val (.int x3), .val (.int x4), .val (.int r1), .val (.int c1), .val (.int (R1 x2)), .unset, .unset, .unset, .unset, .unset, .unset, .unset, .unset, .unset, .unset, .unset, .unset, .unset, .unset]) rfl k) ?_
  show own_Out p e below _ T3 (mkF m 18 #[.val (.int x0), .val (.int x1), .val (.int x2), .val (.int x3), .val (.int x4), .val (.int r1), .val (.int c1), .val (.int (R1 x2)), .unset, .unset, .unset, .unset, .unset, .unset, .unset, .unset, .unset, .unset, .unset, .unset, .unset, .unset] []) _ _ _
  generalize hv_rc : (R1 x2) = rc
  show own_Out p e below _ T3 (mkF m 18 #[.val (.int x0), .val (.int x1), .val (.int x2), .val (.int x3), .val (.int x4), .val (.int r1), .val (.int c1), .val (.int rc), .unset, .unset, .unset, .unset, .unset, .unset, .unset, .unset, .unset, .unset, .unset, .unset, .unset, .unset] []) _ _ _
  have b_rc := own_co x2
  rw [hv_rc] at b_rc
  refine own_to (fun t k => XS.iloadN X3.here hx rfl (hb hby at_18) rfl k) ?_
  show own_Out p e below _ T3 (mkF m 19 #[.val (.int x0), .val (.int x1), .val (.int x2), .val (.int x3), .val (.int x4), .val (.int r1), .val (.int c1), .val (.int rc), .unset, .unset, .unset, .unset, .unset, .unset, .unset, .unset, .unset, .unset, .unset, .unset, .unset, .unset] [(.int x3)]) _ _ _
  refine own_callS X3 hx hZ hown (argsL := [(.int x3)]) (rest := []) (hw _ (List.mem_of_getElem? (i := 0) rfl)) (hw _ (List.mem_of_getElem? (i := 1) rfl)) (hw _ (List.mem_of_getElem? (i := 2) rfl)) (hw _ (List.mem_of_getElem? (i := 3) rfl)) (by decide) (rm1 l Z a0 hw x3 h0 n0 Z0 ) (by decide) (by decide) e3 rfl (by rw [hml]; rfl) (lenOf pd_2 rfl) rfl (W := 0) (by show 2 * 0 + _ ≤ _; exact Nat.le_of_eq rfl) (hb hby at_19) (by decide) (by decide) fun v4 T4 hh4 L4 X4 e4 hQ4 => ?_
  obtain ⟨rfl, NL4, he4⟩ := hQ4
  replace e4 := e4.trans he4
  have N4 := Fr.app N3 NL4
  show own_Out p e below _ T4 (mkF m 22 #[.val (.int x0), .val (.int x1), .val (.int x2), .val (.int x3), .val (.int x4), .val (.int r1), .val (.int c1), .val (.int rc), .unset, .unset, .unset, .unset, .unset, .unset, .unset, .unset, .unset, .unset, .unset, .unset, .unset, .unset] [(.int (R1 x3))]) _ _ _
  refine own_to (fun t k => XS.istore X4.here hx rfl (hb hby at_22) rfl (l' := #[.val (.int x0), .val (.int x1), .val (.int x2), .val (.int x3), .val (.int x4), .val (.int r1), .val (.int c1), .val (.int rc), .val (.int (R1 x3)), .unset, .unset, .unset, .unset, .unset, .unset, .unset, .unset, .unset, .unset, .unset, .unset, .unset]) rfl k) ?_
  show own_Out p e below _ T4 (mkF m 24 #[.val (.int x0), .val (.int x1), .val (.int x2), .val (.int x3), .val (.int x4), .val (.int r1), .val (.int c1), .val (.int rc), .val (.int (R1 x3)), .unset, .unset, .unset, .unset, .unset, .unset, .unset, .unset, .unset, .unset, .unset, .unset, .unset] []) _ _ _
  generalize hv_cd : (R1 x3) = cd
  show own_Out p e below _ T4 (mkF m 24 #[.val (.int x0), .val (.int x1), .val (.int x2), .val (.int x3), .val (.int x4), .val (.int r1), .val (.int c1), .val (.int rc), .val (.int cd), .unset, .unset, .unset, .unset, .unset, .unset, .unset, .unset, .unset, .unset, .unset, .unset, .unset] []) _ _ _
  have b_cd := own_co x3
  rw [hv_cd] at b_cd
  refine own_to (fun t k => XS.iload X4.here hx rfl (hb hby at_24) rfl k) ?_
  show own_Out p e below _ T4 (mkF m 26 #[.val (.int x0), .val (.int x1), .val (.int x2), .val (.int x3), .val (.int x4), .val (.int r1), .val (.int c1), .val (.int rc), .val (.int cd), .unset, .unset, .unset, .unset, .unset, .unset, .unset, .unset, .unset, .unset, .unset, .unset, .unset] [(.int x4)]) _ _ _
  refine own_to (fun t k => XS.iconst X4.here hx rfl (hb hby at_26) k) ?_
  show own_Out p e below _ T4 (mkF m 27 #[.val (.int x0), .val (.int x1), .val (.int x2), .val (.int x3), .val (.int x4), .val (.int r1), .val (.int c1), .val (.int rc), .val (.int cd), .unset, .unset, .unset, .unset, .unset, .unset, .unset, .unset, .unset, .unset, .unset, .unset, .unset] [(.int (3 : Int32)), (.int x4)]) _ _ _
  refine own_to (fun t k => XS.iand X4.here hx rfl (hb hby at_27) rfl k) ?_
  show own_Out p e below _ T4 (mkF m 28 #[.val (.int x0), .val (.int x1), .val (.int x2), .val (.int x3), .val (.int x4), .val (.int r1), .val (.int c1), .val (.int rc), .val (.int cd), .unset, .unset, .unset, .unset, .unset, .unset, .unset, .unset, .unset, .unset, .unset, .unset, .unset] [(.int (x4 &&& (3 : Int32)))]) _ _ _
  refine own_to (fun t k => XS.istore X4.here hx rfl (hb hby at_28) rfl (l' := #[.val (.int x0), .val (.int x1), .val (.int x2), .val (.int x3), .val (.int x4), .val (.int r1), .val (.int c1), .val (.int rc), .val (.int cd), .val (.int (x4 &&& (3 : Int32))), .unset, .unset, .unset, .unset, .unset, .unset, .unset, .unset, .unset, .unset, .unset, .unset]) rfl k) ?_
  show own_Out p e below _ T4 (mkF m 30 #[.val (.int x0), .val (.int x1), .val (.int x2), .val (.int x3), .val (.int x4), .val (.int r1), .val (.int c1), .val (.int rc), .val (.int cd), .val (.int (x4 &&& (3 : Int32))), .unset, .unset, .unset, .unset, .unset, .unset, .unset, .unset, .unset, .unset, .unset, .unset] []) _ _ _
  refine own_to (fun t k => XS.iload X4.here hx rfl (hb hby at_30) rfl k) ?_
  show own_Out p e below _ T4 (mkF m 32 #[.val (.int x0), .val (.int x1), .val (.int x2), .val (.int x3), .val (.int x4), .val (.int r1), .val (.int c1), .val (.int rc), .val (.int cd), .val (.int (x4 &&& (3 : Int32))), .unset, .unset, .unset, .unset, .unset, .unset, .unset, .unset, .unset, .unset, .unset, .unset] [(.int x4)]) _ _ _
  refine own_to (fun t k => XS.iconst X4.here hx rfl (hb hby at_32) k) ?_
  show own_Out p e below _ T4 (mkF m 33 #[.val (.int x0), .val (.int x1), .val (.int x2), .val (.int x3), .val (.int x4), .val (.int r1), .val (.int c1), .val (.int rc), .val (.int cd), .val (.int (x4 &&& (3 : Int32))), .unset, .unset, .unset, .unset, .unset, .unset, .unset, .unset, .unset, .unset, .unset, .unset] [(.int (2 : Int32)), (.int x4)]) _ _ _
  refine own_to (fun t k => XS.ishr X4.here hx rfl (hb hby at_33) rfl k) ?_
  show own_Out p e below _ T4 (mkF m 34 #[.val (.int x0), .val (.int x1), .val (.int x2), .val (.int x3), .val (.int x4), .val (.int r1), .val (.int c1), .val (.int rc), .val (.int cd), .val (.int (x4 &&& (3 : Int32))), .unset, .unset, .unset, .unset, .unset, .unset, .unset, .unset, .unset, .unset, .unset, .unset] [(.int (x4 >>> ((2 : Int32) &&& 31)))]) _ _ _
  refine own_to (fun t k => XS.iconst X4.here hx rfl (hb hby at_34) k) ?_
  show own_Out p e below _ T4 (mkF m 35 #[.val (.int x0), .val (.int x1), .val (.int x2), .val (.int x3), .val (.int x4), .val (.int r1), .val (.int c1), .val (.int rc), .val (.int cd), .val (.int (x4 &&& (3 : Int32))), .unset, .unset, .unset, .unset, .unset, .unset, .unset, .unset, .unset, .unset, .unset, .unset] [(.int (3 : Int32)), (.int (x4 >>> ((2 : Int32) &&& 31)))]) _ _ _
  refine own_to (fun t k => XS.iand X4.here hx rfl (hb hby at_35) rfl k) ?_
  show own_Out p e below _ T4 (mkF m 36 #[.val (.int x0), .val (.int x1), .val (.int x2), .val (.int x3), .val (.int x4), .val (.int r1), .val (.int c1), .val (.int rc), .val (.int cd), .val (.int (x4 &&& (3 : Int32))), .unset, .unset, .unset, .unset, .unset, .unset, .unset, .unset, .unset, .unset, .unset, .unset] [(.int ((x4 >>> ((2 : Int32) &&& 31)) &&& (3 : Int32)))]) _ _ _
  refine own_to (fun t k => XS.iconst X4.here hx rfl (hb hby at_36) k) ?_
  show own_Out p e below _ T4 (mkF m 37 #[.val (.int x0), .val (.int x1), .val (.int x2), .val (.int x3), .val (.int x4), .val (.int r1), .val (.int c1), .val (.int rc), .val (.int cd), .val (.int (x4 &&& (3 : Int32))), .unset, .unset, .unset, .unset, .unset, .unset, .unset, .unset, .unset, .unset, .unset, .unset] [(.int (1 : Int32)), (.int ((x4 >>> ((2 : Int32) &&& 31)) &&& (3 : Int32)))]) _ _ _
  refine own_to (fun t k => XS.isub X4.here hx rfl (hb hby at_37) rfl k) ?_
  show own_Out p e below _ T4 (mkF m 38 #[.val (.int x0), .val (.int x1), .val (.int x2), .val (.int x3), .val (.int x4), .val (.int r1), .val (.int c1), .val (.int rc), .val (.int cd), .val (.int (x4 &&& (3 : Int32))), .unset, .unset, .unset, .unset, .unset, .unset, .unset, .unset, .unset, .unset, .unset, .unset] [(.int (((x4 >>> ((2 : Int32) &&& 31)) &&& (3 : Int32)) - (1 : Int32)))]) _ _ _
  refine own_to (fun t k => XS.istore X4.here hx rfl (hb hby at_38) rfl (l' := #[.val (.int x0), .val (.int x1), .val (.int x2), .val (.int x3), .val (.int x4), .val (.int r1), .val (.int c1), .val (.int rc), .val (.int cd), .val (.int (x4 &&& (3 : Int32))), .val (.int (((x4 >>> ((2 : Int32) &&& 31)) &&& (3 : Int32)) - (1 : Int32))), .unset, .unset, .unset, .unset, .unset, .unset, .unset, .unset, .unset, .unset, .unset]) rfl k) ?_
  show own_Out p e below _ T4 (mkF m 40 #[.val (.int x0), .val (.int x1), .val (.int x2), .val (.int x3), .val (.int x4), .val (.int r1), .val (.int c1), .val (.int rc), .val (.int cd), .val (.int (x4 &&& (3 : Int32))), .val (.int (((x4 >>> ((2 : Int32) &&& 31)) &&& (3 : Int32)) - (1 : Int32))), .unset, .unset, .unset, .unset, .unset, .unset, .unset, .unset, .unset, .unset, .unset] []) _ _ _
  generalize hv_nu : (((x4 >>> ((2 : Int32) &&& 31)) &&& (3 : Int32)) - (1 : Int32)) = nu
  show own_Out p e below _ T4 (mkF m 40 #[.val (.int x0), .val (.int x1), .val (.int x2), .val (.int x3), .val (.int x4), .val (.int r1), .val (.int c1), .val (.int rc), .val (.int cd), .val (.int (x4 &&& (3 : Int32))), .val (.int nu), .unset, .unset, .unset, .unset, .unset, .unset, .unset, .unset, .unset, .unset, .unset] []) _ _ _
  have b_nu := own_nu x4
  rw [hv_nu] at b_nu
  have J122 : ∀ (r2 : Int32) (c2 : Int32) (hR : -1073741830 ≤ r2.toInt ∧ r2.toInt ≤ 536870920) (hC : -1073741830 ≤ c2.toInt ∧ c2.toInt ≤ 1073741830), own_Out p e below (FrameEnd s) T4 (mkF m 122 #[.val (.int x0), .val (.int x1), .val (.int x2), .val (.int x3), .val (.int x4), .val (.int r1), .val (.int c1), .val (.int rc), .val (.int cd), .val (.int (x4 &&& (3 : Int32))), .val (.int nu), .val (.int r2), .val (.int c2), .unset, .unset, .unset, .unset, .unset, .unset, .unset, .unset, .unset] []) (Q0 Z x0 x1 x2 x3 x4 h0 n0) room_1.cells room_1.slots := by
    intro r2 c2 hR hC
    show own_Out p e below _ T4 (mkF m 122 #[.val (.int x0), .val (.int x1), .val (.int x2), .val (.int x3), .val (.int x4), .val (.int r1), .val (.int c1), .val (.int rc), .val (.int cd), .val (.int (x4 &&& (3 : Int32))), .val (.int nu), .val (.int r2), .val (.int c2), .unset, .unset, .unset, .unset, .unset, .unset, .unset, .unset, .unset] []) _ _ _
    refine own_to (fun t k => XS.iload X4.here hx rfl (hb hby at_122) rfl k) ?_
    show own_Out p e below _ T4 (mkF m 124 #[.val (.int x0), .val (.int x1), .val (.int x2), .val (.int x3), .val (.int x4), .val (.int r1), .val (.int c1), .val (.int rc), .val (.int cd), .val (.int (x4 &&& (3 : Int32))), .val (.int nu), .val (.int r2), .val (.int c2), .unset, .unset, .unset, .unset, .unset, .unset, .unset, .unset, .unset] [(.int r2)]) _ _ _
    refine own_to (fun t k => XS.iconst X4.here hx rfl (hb hby at_124) k) ?_
    show own_Out p e below _ T4 (mkF m 125 #[.val (.int x0), .val (.int x1), .val (.int x2), .val (.int x3), .val (.int x4), .val (.int r1), .val (.int c1), .val (.int rc), .val (.int cd), .val (.int (x4 &&& (3 : Int32))), .val (.int nu), .val (.int r2), .val (.int c2), .unset, .unset, .unset, .unset, .unset, .unset, .unset, .unset, .unset] [(.int (1 : Int32)), (.int r2)]) _ _ _
    by_cases hc125 : r2 < (1 : Int32)
    · refine own_to (fun t k => XS.icmpYes X4.here hx rfl (pc0 := 125) (pc' := 134) rfl (hb hby at_125) rfl (tlt hc125).1 (by decide) (by decide) k) ?_
      show own_Out p e below _ T4 (mkF m 134 #[.val (.int x0), .val (.int x1), .val (.int x2), .val (.int x3), .val (.int x4), .val (.int r1), .val (.int c1), .val (.int rc), .val (.int cd), .val (.int (x4 &&& (3 : Int32))), .val (.int nu), .val (.int r2), .val (.int c2), .unset, .unset, .unset, .unset, .unset, .unset, .unset, .unset, .unset] []) _ _ _
      refine own_to (fun t k => XS.iconst X4.here hx rfl (hb hby at_134) k) ?_
      show own_Out p e below _ T4 (mkF m 135 #[.val (.int x0), .val (.int x1), .val (.int x2), .val (.int x3), .val (.int x4), .val (.int r1), .val (.int c1), .val (.int rc), .val (.int cd), .val (.int (x4 &&& (3 : Int32))), .val (.int nu), .val (.int r2), .val (.int c2), .unset, .unset, .unset, .unset, .unset, .unset, .unset, .unset, .unset] [(.int (1 : Int32))]) _ _ _
      refine own_retV X4 hx hlk (w := .int (1 : Int32)) hret rfl (Or.inl ⟨rfl, by simp, _, rfl⟩) (hb hby at_135) (by decide) (by decide) ?_
      rw [e4]
      exact ⟨rfl, N4⟩
    · refine own_to (fun t k => XS.icmpNo X4.here hx rfl (hb hby at_125) rfl (flt hc125).1 k) ?_
      show own_Out p e below _ T4 (mkF m 128 #[.val (.int x0), .val (.int x1), .val (.int x2), .val (.int x3), .val (.int x4), .val (.int r1), .val (.int c1), .val (.int rc), .val (.int cd), .val (.int (x4 &&& (3 : Int32))), .val (.int nu), .val (.int r2), .val (.int c2), .unset, .unset, .unset, .unset, .unset, .unset, .unset, .unset, .unset] []) _ _ _
      refine own_to (fun t k => XS.iload X4.here hx rfl (hb hby at_128) rfl k) ?_
      show own_Out p e below _ T4 (mkF m 130 #[.val (.int x0), .val (.int x1), .val (.int x2), .val (.int x3), .val (.int x4), .val (.int r1), .val (.int c1), .val (.int rc), .val (.int cd), .val (.int (x4 &&& (3 : Int32))), .val (.int nu), .val (.int r2), .val (.int c2), .unset, .unset, .unset, .unset, .unset, .unset, .unset, .unset, .unset] [(.int c2)]) _ _ _
      refine own_to (fun t k => XS.iconst X4.here hx rfl (hb hby at_130) k) ?_
      show own_Out p e below _ T4 (mkF m 131 #[.val (.int x0), .val (.int x1), .val (.int x2), .val (.int x3), .val (.int x4), .val (.int r1), .val (.int c1), .val (.int rc), .val (.int cd), .val (.int (x4 &&& (3 : Int32))), .val (.int nu), .val (.int r2), .val (.int c2), .unset, .unset, .unset, .unset, .unset, .unset, .unset, .unset, .unset] [(.int (1 : Int32)), (.int c2)]) _ _ _
      by_cases hc131 : c2 < (1 : Int32)
      · refine own_to (fun t k => XS.icmpNo X4.here hx rfl (hb hby at_131) rfl (tlt hc131).2.1 k) ?_
        show own_Out p e below _ T4 (mkF m 134 #[.val (.int x0), .val (.int x1), .val (.int x2), .val (.int x3), .val (.int x4), .val (.int r1), .val (.int c1), .val (.int rc), .val (.int cd), .val (.int (x4 &&& (3 : Int32))), .val (.int nu), .val (.int r2), .val (.int c2), .unset, .unset, .unset, .unset, .unset, .unset, .unset, .unset, .unset] []) _ _ _
        refine own_to (fun t k => XS.iconst X4.here hx rfl (hb hby at_134) k) ?_
        show own_Out p e below _ T4 (mkF m 135 #[.val (.int x0), .val (.int x1), .val (.int x2), .val (.int x3), .val (.int x4), .val (.int r1), .val (.int c1), .val (.int rc), .val (.int cd), .val (.int (x4 &&& (3 : Int32))), .val (.int nu), .val (.int r2), .val (.int c2), .unset, .unset, .unset, .unset, .unset, .unset, .unset, .unset, .unset] [(.int (1 : Int32))]) _ _ _
        refine own_retV X4 hx hlk (w := .int (1 : Int32)) hret rfl (Or.inl ⟨rfl, by simp, _, rfl⟩) (hb hby at_135) (by decide) (by decide) ?_
        rw [e4]
        exact ⟨rfl, N4⟩
      · refine own_to (fun t k => XS.icmpYes X4.here hx rfl (pc0 := 131) (pc' := 136) rfl (hb hby at_131) rfl (flt hc131).2.1 (by decide) (by decide) k) ?_
        show own_Out p e below _ T4 (mkF m 136 #[.val (.int x0), .val (.int x1), .val (.int x2), .val (.int x3), .val (.int x4), .val (.int r1), .val (.int c1), .val (.int rc), .val (.int cd), .val (.int (x4 &&& (3 : Int32))), .val (.int nu), .val (.int r2), .val (.int c2), .unset, .unset, .unset, .unset, .unset, .unset, .unset, .unset, .unset] []) _ _ _
        refine own_to (fun t k => XS.iload X4.here hx rfl (hb hby at_136) rfl k) ?_
        show own_Out p e below _ T4 (mkF m 138 #[.val (.int x0), .val (.int x1), .val (.int x2), .val (.int x3), .val (.int x4), .val (.int r1), .val (.int c1), .val (.int rc), .val (.int cd), .val (.int (x4 &&& (3 : Int32))), .val (.int nu), .val (.int r2), .val (.int c2), .unset, .unset, .unset, .unset, .unset, .unset, .unset, .unset, .unset] [(.int r2)]) _ _ _
        refine own_to (fun t k => XS.i2l X4.here hx rfl (hb hby at_138) rfl k) ?_
        show own_Out p e below _ T4 (mkF m 139 #[.val (.int x0), .val (.int x1), .val (.int x2), .val (.int x3), .val (.int x4), .val (.int r1), .val (.int c1), .val (.int rc), .val (.int cd), .val (.int (x4 &&& (3 : Int32))), .val (.int nu), .val (.int r2), .val (.int c2), .unset, .unset, .unset, .unset, .unset, .unset, .unset, .unset, .unset] [(.long (r2.toInt64))]) _ _ _
        refine own_to (fun t k => XS.iload X4.here hx rfl (hb hby at_139) rfl k) ?_
        show own_Out p e below _ T4 (mkF m 141 #[.val (.int x0), .val (.int x1), .val (.int x2), .val (.int x3), .val (.int x4), .val (.int r1), .val (.int c1), .val (.int rc), .val (.int cd), .val (.int (x4 &&& (3 : Int32))), .val (.int nu), .val (.int r2), .val (.int c2), .unset, .unset, .unset, .unset, .unset, .unset, .unset, .unset, .unset] [(.int r1), (.long (r2.toInt64))]) _ _ _
        refine own_to (fun t k => XS.i2l X4.here hx rfl (hb hby at_141) rfl k) ?_
        show own_Out p e below _ T4 (mkF m 142 #[.val (.int x0), .val (.int x1), .val (.int x2), .val (.int x3), .val (.int x4), .val (.int r1), .val (.int c1), .val (.int rc), .val (.int cd), .val (.int (x4 &&& (3 : Int32))), .val (.int nu), .val (.int r2), .val (.int c2), .unset, .unset, .unset, .unset, .unset, .unset, .unset, .unset, .unset] [(.long (r1.toInt64)), (.long (r2.toInt64))]) _ _ _
        refine own_to (fun t k => XS.lsub X4.here hx rfl (hb hby at_142) rfl k) ?_
        show own_Out p e below _ T4 (mkF m 143 #[.val (.int x0), .val (.int x1), .val (.int x2), .val (.int x3), .val (.int x4), .val (.int r1), .val (.int c1), .val (.int rc), .val (.int cd), .val (.int (x4 &&& (3 : Int32))), .val (.int nu), .val (.int r2), .val (.int c2), .unset, .unset, .unset, .unset, .unset, .unset, .unset, .unset, .unset] [(.long ((r2.toInt64) - (r1.toInt64)))]) _ _ _
        refine own_to (fun t k => XS.lstore X4.here hx rfl (hb hby at_143) rfl (l' := #[.val (.int x0), .val (.int x1), .val (.int x2), .val (.int x3), .val (.int x4), .val (.int r1), .val (.int c1), .val (.int rc), .val (.int cd), .val (.int (x4 &&& (3 : Int32))), .val (.int nu), .val (.int r2), .val (.int c2), .val (.long ((r2.toInt64) - (r1.toInt64))), .second, .unset, .unset, .unset, .unset, .unset, .unset, .unset]) rfl k) ?_
        show own_Out p e below _ T4 (mkF m 145 #[.val (.int x0), .val (.int x1), .val (.int x2), .val (.int x3), .val (.int x4), .val (.int r1), .val (.int c1), .val (.int rc), .val (.int cd), .val (.int (x4 &&& (3 : Int32))), .val (.int nu), .val (.int r2), .val (.int c2), .val (.long ((r2.toInt64) - (r1.toInt64))), .second, .unset, .unset, .unset, .unset, .unset, .unset, .unset] []) _ _ _
        refine own_to (fun t k => XS.iload X4.here hx rfl (hb hby at_145) rfl k) ?_
        show own_Out p e below _ T4 (mkF m 147 #[.val (.int x0), .val (.int x1), .val (.int x2), .val (.int x3), .val (.int x4), .val (.int r1), .val (.int c1), .val (.int rc), .val (.int cd), .val (.int (x4 &&& (3 : Int32))), .val (.int nu), .val (.int r2), .val (.int c2), .val (.long ((r2.toInt64) - (r1.toInt64))), .second, .unset, .unset, .unset, .unset, .unset, .unset, .unset] [(.int c2)]) _ _ _
        refine own_to (fun t k => XS.i2l X4.here hx rfl (hb hby at_147) rfl k) ?_
        show own_Out p e below _ T4 (mkF m 148 #[.val (.int x0), .val (.int x1), .val (.int x2), .val (.int x3), .val (.int x4), .val (.int r1), .val (.int c1), .val (.int rc), .val (.int cd), .val (.int (x4 &&& (3 : Int32))), .val (.int nu), .val (.int r2), .val (.int c2), .val (.long ((r2.toInt64) - (r1.toInt64))), .second, .unset, .unset, .unset, .unset, .unset, .unset, .unset] [(.long (c2.toInt64))]) _ _ _
        refine own_to (fun t k => XS.iload X4.here hx rfl (hb hby at_148) rfl k) ?_
        show own_Out p e below _ T4 (mkF m 150 #[.val (.int x0), .val (.int x1), .val (.int x2), .val (.int x3), .val (.int x4), .val (.int r1), .val (.int c1), .val (.int rc), .val (.int cd), .val (.int (x4 &&& (3 : Int32))), .val (.int nu), .val (.int r2), .val (.int c2), .val (.long ((r2.toInt64) - (r1.toInt64))), .second, .unset, .unset, .unset, .unset, .unset, .unset, .unset] [(.int c1), (.long (c2.toInt64))]) _ _ _
        refine own_to (fun t k => XS.i2l X4.here hx rfl (hb hby at_150) rfl k) ?_
        show own_Out p e below _ T4 (mkF m 151 #[.val (.int x0), .val (.int x1), .val (.int x2), .val (.int x3), .val (.int x4), .val (.int r1), .val (.int c1), .val (.int rc), .val (.int cd), .val (.int (x4 &&& (3 : Int32))), .val (.int nu), .val (.int r2), .val (.int c2), .val (.long ((r2.toInt64) - (r1.toInt64))), .second, .unset, .unset, .unset, .unset, .unset, .unset, .unset] [(.long (c1.toInt64)), (.long (c2.toInt64))]) _ _ _
        refine own_to (fun t k => XS.lsub X4.here hx rfl (hb hby at_151) rfl k) ?_
        show own_Out p e below _ T4 (mkF m 152 #[.val (.int x0), .val (.int x1), .val (.int x2), .val (.int x3), .val (.int x4), .val (.int r1), .val (.int c1), .val (.int rc), .val (.int cd), .val (.int (x4 &&& (3 : Int32))), .val (.int nu), .val (.int r2), .val (.int c2), .val (.long ((r2.toInt64) - (r1.toInt64))), .second, .unset, .unset, .unset, .unset, .unset, .unset, .unset] [(.long ((c2.toInt64) - (c1.toInt64)))]) _ _ _
        refine own_to (fun t k => XS.lstore X4.here hx rfl (hb hby at_152) rfl (l' := #[.val (.int x0), .val (.int x1), .val (.int x2), .val (.int x3), .val (.int x4), .val (.int r1), .val (.int c1), .val (.int rc), .val (.int cd), .val (.int (x4 &&& (3 : Int32))), .val (.int nu), .val (.int r2), .val (.int c2), .val (.long ((r2.toInt64) - (r1.toInt64))), .second, .val (.long ((c2.toInt64) - (c1.toInt64))), .second, .unset, .unset, .unset, .unset, .unset]) rfl k) ?_
        show own_Out p e below _ T4 (mkF m 154 #[.val (.int x0), .val (.int x1), .val (.int x2), .val (.int x3), .val (.int x4), .val (.int r1), .val (.int c1), .val (.int rc), .val (.int cd), .val (.int (x4 &&& (3 : Int32))), .val (.int nu), .val (.int r2), .val (.int c2), .val (.long ((r2.toInt64) - (r1.toInt64))), .second, .val (.long ((c2.toInt64) - (c1.toInt64))), .second, .unset, .unset, .unset, .unset, .unset] []) _ _ _
        have J192 : ∀ (ex : Int32) (hE : ex = own_exp r1 c1 r2 c2), own_Out p e below (FrameEnd s) T4 (mkF m 192 #[.val (.int x0), .val (.int x1), .val (.int x2), .val (.int x3), .val (.int x4), .val (.int r1), .val (.int c1), .val (.int rc), .val (.int cd), .val (.int (x4 &&& (3 : Int32))), .val (.int nu), .val (.int r2), .val (.int c2), .val (.long ((r2.toInt64) - (r1.toInt64))), .second, .val (.long ((c2.toInt64) - (c1.toInt64))), .second, .val (.int ex), .unset, .unset, .unset, .unset] []) (Q0 Z x0 x1 x2 x3 x4 h0 n0) room_1.cells room_1.slots := by
          intro ex hE
          show own_Out p e below _ T4 (mkF m 192 #[.val (.int x0), .val (.int x1), .val (.int x2), .val (.int x3), .val (.int x4), .val (.int r1), .val (.int c1), .val (.int rc), .val (.int cd), .val (.int (x4 &&& (3 : Int32))), .val (.int nu), .val (.int r2), .val (.int c2), .val (.long ((r2.toInt64) - (r1.toInt64))), .second, .val (.long ((c2.toInt64) - (c1.toInt64))), .second, .val (.int ex), .unset, .unset, .unset, .unset] []) _ _ _
          refine own_new X4 hx hZ hown (hw _ (List.mem_of_getElem? (i := 6) rfl)) (hw _ (List.mem_of_getElem? (i := 7) rfl)) (hw _ (List.mem_of_getElem? (i := 8) rfl)) e4 rfl (hb hby at_192) (by decide) (by decide) fun T5 hh5 ob5 gb5 X5 e5 E5 A5 D5 => ?_
          have g_ob5 : n0 ≤ ob5 := Nat.le_trans Z0 (Nat.le_of_eq gb5.symm)
          have Z0 := Nat.le_trans Z0 E5.1
          have E_ob5 := A5
          have F_ob5_row : Fld Z hh5 ob5 "com/example/queenside/queenside/Square" "row" "I" (.int (0 : Int32)) := D5 (Or.inr (hw _ (List.mem_of_getElem? (i := 21) rfl))) (ty := .int) (by decide)
          have F_ob5_column : Fld Z hh5 ob5 "com/example/queenside/queenside/Square" "column" "I" (.int (0 : Int32)) := D5 (Or.inr (hw _ (List.mem_of_getElem? (i := 23) rfl))) (ty := .int) (by decide)
          show own_Out p e below _ T5 (mkF m 195 #[.val (.int x0), .val (.int x1), .val (.int x2), .val (.int x3), .val (.int x4), .val (.int r1), .val (.int c1), .val (.int rc), .val (.int cd), .val (.int (x4 &&& (3 : Int32))), .val (.int nu), .val (.int r2), .val (.int c2), .val (.long ((r2.toInt64) - (r1.toInt64))), .second, .val (.long ((c2.toInt64) - (c1.toInt64))), .second, .val (.int ex), .unset, .unset, .unset, .unset] [(.ref ob5)]) _ _ _
          refine own_to (fun t k => XS.dup X5.here hx rfl (hb hby at_195) rfl rfl k) ?_
          show own_Out p e below _ T5 (mkF m 196 #[.val (.int x0), .val (.int x1), .val (.int x2), .val (.int x3), .val (.int x4), .val (.int r1), .val (.int c1), .val (.int rc), .val (.int cd), .val (.int (x4 &&& (3 : Int32))), .val (.int nu), .val (.int r2), .val (.int c2), .val (.long ((r2.toInt64) - (r1.toInt64))), .second, .val (.long ((c2.toInt64) - (c1.toInt64))), .second, .val (.int ex), .unset, .unset, .unset, .unset] [(.ref ob5), (.ref ob5)]) _ _ _
          refine own_to (fun t k => XS.iload X5.here hx rfl (hb hby at_196) rfl k) ?_
          show own_Out p e below _ T5 (mkF m 198 #[.val (.int x0), .val (.int x1), .val (.int x2), .val (.int x3), .val (.int x4), .val (.int r1), .val (.int c1), .val (.int rc), .val (.int cd), .val (.int (x4 &&& (3 : Int32))), .val (.int nu), .val (.int r2), .val (.int c2), .val (.long ((r2.toInt64) - (r1.toInt64))), .second, .val (.long ((c2.toInt64) - (c1.toInt64))), .second, .val (.int ex), .unset, .unset, .unset, .unset] [(.int r1), (.ref ob5), (.ref ob5)]) _ _ _
          refine own_to (fun t k => XS.iload X5.here hx rfl (hb hby at_198) rfl k) ?_
          show own_Out p e below _ T5 (mkF m 200 #[.val (.int x0), .val (.int x1), .val (.int x2), .val (.int x3), .val (.int x4), .val (.int r1), .val (.int c1), .val (.int rc), .val (.int cd), .val (.int (x4 &&& (3 : Int32))), .val (.int nu), .val (.int r2), .val (.int c2), .val (.long ((r2.toInt64) - (r1.toInt64))), .second, .val (.long ((c2.toInt64) - (c1.toInt64))), .second, .val (.int ex), .unset, .unset, .unset, .unset] [(.int c1), (.int r1), (.ref ob5), (.ref ob5)]) _ _ _
          refine own_callC X5 hx hZ hown (a := ob5) (argsL := [(.int r1), (.int c1)]) (rest := [(.ref ob5)]) rfl (hw _ (List.mem_of_getElem? (i := 9) rfl)) (hw _ (List.mem_of_getElem? (i := 10) rfl)) (hw _ (List.mem_of_getElem? (i := 8) rfl)) (hw _ (List.mem_of_getElem? (i := 11) rfl)) (by decide) (rm2 l Z a0 hw ob5 r1 c1 hh5 n0 Z0 E_ob5 F_ob5_row F_ob5_column g_ob5) (by decide) (by decide) e5 rfl (by rw [hml]; rfl) (lenOf pd_3 rfl) rfl (W := 1) (by show 2 * 0 + _ ≤ _; exact Nat.le_of_eq rfl) (hb hby at_200) (by decide) (by decide) fun v6 T6 hh6 L6 X6 e6 hQ6 => ?_
          obtain ⟨rfl, NL6, KK6, P6_0, P6_1⟩ := hQ6
          have E_ob5 := E_ob5.keep KK6
          have F_ob5_row := P6_0
          have F_ob5_column := P6_1
          have Z0 := Nat.le_trans Z0 KK6.1
          have N6 := Fr.app N4 NL6
          show own_Out p e below _ T6 (mkF m 203 #[.val (.int x0), .val (.int x1), .val (.int x2), .val (.int x3), .val (.int x4), .val (.int r1), .val (.int c1), .val (.int rc), .val (.int cd), .val (.int (x4 &&& (3 : Int32))), .val (.int nu), .val (.int r2), .val (.int c2), .val (.long ((r2.toInt64) - (r1.toInt64))), .second, .val (.long ((c2.toInt64) - (c1.toInt64))), .second, .val (.int ex), .unset, .unset, .unset, .unset] [(.ref ob5)]) _ _ _
          refine own_to (fun t k => XS.astore X6.here hx rfl (hb hby at_203) rfl rfl (l' := #[.val (.int x0), .val (.int x1), .val (.int x2), .val (.int x3), .val (.int x4), .val (.int r1), .val (.int c1), .val (.int rc), .val (.int cd), .val (.int (x4 &&& (3 : Int32))), .val (.int nu), .val (.int r2), .val (.int c2), .val (.long ((r2.toInt64) - (r1.toInt64))), .second, .val (.long ((c2.toInt64) - (c1.toInt64))), .second, .val (.int ex), .val (.ref ob5), .unset, .unset, .unset]) rfl k) ?_
          show own_Out p e below _ T6 (mkF m 205 #[.val (.int x0), .val (.int x1), .val (.int x2), .val (.int x3), .val (.int x4), .val (.int r1), .val (.int c1), .val (.int rc), .val (.int cd), .val (.int (x4 &&& (3 : Int32))), .val (.int nu), .val (.int r2), .val (.int c2), .val (.long ((r2.toInt64) - (r1.toInt64))), .second, .val (.long ((c2.toInt64) - (c1.toInt64))), .second, .val (.int ex), .val (.ref ob5), .unset, .unset, .unset] []) _ _ _
          refine own_new X6 hx hZ hown (hw _ (List.mem_of_getElem? (i := 6) rfl)) (hw _ (List.mem_of_getElem? (i := 7) rfl)) (hw _ (List.mem_of_getElem? (i := 8) rfl)) e6 rfl (hb hby at_205) (by decide) (by decide) fun T7 hh7 ob7 gb7 X7 e7 E7 A7 D7 => ?_
          have ne_ob5_ob7 : ob5 ≠ ob7 := Nat.ne_of_lt (Nat.lt_of_lt_of_le E_ob5.lt (Nat.le_of_eq gb7.symm))
          have ne_ob7_ob5 := Ne.symm ne_ob5_ob7
          have g_ob7 : n0 ≤ ob7 := Nat.le_trans Z0 (Nat.le_of_eq gb7.symm)
          have E_ob5 := E_ob5.ext E7
          have F_ob5_row := F_ob5_row.ext E7
          have F_ob5_column := F_ob5_column.ext E7
          have Z0 := Nat.le_trans Z0 E7.1
          have E_ob7 := A7
          have F_ob7_row : Fld Z hh7 ob7 "com/example/queenside/queenside/Square" "row" "I" (.int (0 : Int32)) := D7 (Or.inr (hw _ (List.mem_of_getElem? (i := 21) rfl))) (ty := .int) (by decide)
          have F_ob7_column : Fld Z hh7 ob7 "com/example/queenside/queenside/Square" "column" "I" (.int (0 : Int32)) := D7 (Or.inr (hw _ (List.mem_of_getElem? (i := 23) rfl))) (ty := .int) (by decide)
          show own_Out p e below _ T7 (mkF m 208 #[.val (.int x0), .val (.int x1), .val (.int x2), .val (.int x3), .val (.int x4), .val (.int r1), .val (.int c1), .val (.int rc), .val (.int cd), .val (.int (x4 &&& (3 : Int32))), .val (.int nu), .val (.int r2), .val (.int c2), .val (.long ((r2.toInt64) - (r1.toInt64))), .second, .val (.long ((c2.toInt64) - (c1.toInt64))), .second, .val (.int ex), .val (.ref ob5), .unset, .unset, .unset] [(.ref ob7)]) _ _ _
          refine own_to (fun t k => XS.dup X7.here hx rfl (hb hby at_208) rfl rfl k) ?_
          show own_Out p e below _ T7 (mkF m 209 #[.val (.int x0), .val (.int x1), .val (.int x2), .val (.int x3), .val (.int x4), .val (.int r1), .val (.int c1), .val (.int rc), .val (.int cd), .val (.int (x4 &&& (3 : Int32))), .val (.int nu), .val (.int r2), .val (.int c2), .val (.long ((r2.toInt64) - (r1.toInt64))), .second, .val (.long ((c2.toInt64) - (c1.toInt64))), .second, .val (.int ex), .val (.ref ob5), .unset, .unset, .unset] [(.ref ob7), (.ref ob7)]) _ _ _
          refine own_to (fun t k => XS.iload X7.here hx rfl (hb hby at_209) rfl k) ?_
          show own_Out p e below _ T7 (mkF m 211 #[.val (.int x0), .val (.int x1), .val (.int x2), .val (.int x3), .val (.int x4), .val (.int r1), .val (.int c1), .val (.int rc), .val (.int cd), .val (.int (x4 &&& (3 : Int32))), .val (.int nu), .val (.int r2), .val (.int c2), .val (.long ((r2.toInt64) - (r1.toInt64))), .second, .val (.long ((c2.toInt64) - (c1.toInt64))), .second, .val (.int ex), .val (.ref ob5), .unset, .unset, .unset] [(.int r2), (.ref ob7), (.ref ob7)]) _ _ _
          refine own_to (fun t k => XS.iload X7.here hx rfl (hb hby at_211) rfl k) ?_
          show own_Out p e below _ T7 (mkF m 213 #[.val (.int x0), .val (.int x1), .val (.int x2), .val (.int x3), .val (.int x4), .val (.int r1), .val (.int c1), .val (.int rc), .val (.int cd), .val (.int (x4 &&& (3 : Int32))), .val (.int nu), .val (.int r2), .val (.int c2), .val (.long ((r2.toInt64) - (r1.toInt64))), .second, .val (.long ((c2.toInt64) - (c1.toInt64))), .second, .val (.int ex), .val (.ref ob5), .unset, .unset, .unset] [(.int c2), (.int r2), (.ref ob7), (.ref ob7)]) _ _ _
          refine own_callC X7 hx hZ hown (a := ob7) (argsL := [(.int r2), (.int c2)]) (rest := [(.ref ob7)]) rfl (hw _ (List.mem_of_getElem? (i := 9) rfl)) (hw _ (List.mem_of_getElem? (i := 10) rfl)) (hw _ (List.mem_of_getElem? (i := 8) rfl)) (hw _ (List.mem_of_getElem? (i := 11) rfl)) (by decide) (rm2 l Z a0 hw ob7 r2 c2 hh7 n0 Z0 E_ob7 F_ob7_row F_ob7_column g_ob7) (by decide) (by decide) e7 rfl (by rw [hml]; rfl) (lenOf pd_3 rfl) rfl (W := 1) (by show 2 * 0 + _ ≤ _; exact Nat.le_of_eq rfl) (hb hby at_213) (by decide) (by decide) fun v8 T8 hh8 L8 X8 e8 hQ8 => ?_
          obtain ⟨rfl, NL8, KK8, P8_0, P8_1⟩ := hQ8
          have E_ob5 := E_ob5.keep KK8
          have F_ob5_row := F_ob5_row.keep KK8 (by simp [ne_ob5_ob7])
          have F_ob5_column := F_ob5_column.keep KK8 (by simp [ne_ob5_ob7])
          have E_ob7 := E_ob7.keep KK8
          have F_ob7_row := P8_0
          have F_ob7_column := P8_1
          have Z0 := Nat.le_trans Z0 KK8.1
          have N8 := Fr.app N6 NL8
          show own_Out p e below _ T8 (mkF m 216 #[.val (.int x0), .val (.int x1), .val (.int x2), .val (.int x3), .val (.int x4), .val (.int r1), .val (.int c1), .val (.int rc), .val (.int cd), .val (.int (x4 &&& (3 : Int32))), .val (.int nu), .val (.int r2), .val (.int c2), .val (.long ((r2.toInt64) - (r1.toInt64))), .second, .val (.long ((c2.toInt64) - (c1.toInt64))), .second, .val (.int ex), .val (.ref ob5), .unset, .unset, .unset] [(.ref ob7)]) _ _ _
          refine own_to (fun t k => XS.astore X8.here hx rfl (hb hby at_216) rfl rfl (l' := #[.val (.int x0), .val (.int x1), .val (.int x2), .val (.int x3), .val (.int x4), .val (.int r1), .val (.int c1), .val (.int rc), .val (.int cd), .val (.int (x4 &&& (3 : Int32))), .val (.int nu), .val (.int r2), .val (.int c2), .val (.long ((r2.toInt64) - (r1.toInt64))), .second, .val (.long ((c2.toInt64) - (c1.toInt64))), .second, .val (.int ex), .val (.ref ob5), .val (.ref ob7), .unset, .unset]) rfl k) ?_
          show own_Out p e below _ T8 (mkF m 218 #[.val (.int x0), .val (.int x1), .val (.int x2), .val (.int x3), .val (.int x4), .val (.int r1), .val (.int c1), .val (.int rc), .val (.int cd), .val (.int (x4 &&& (3 : Int32))), .val (.int nu), .val (.int r2), .val (.int c2), .val (.long ((r2.toInt64) - (r1.toInt64))), .second, .val (.long ((c2.toInt64) - (c1.toInt64))), .second, .val (.int ex), .val (.ref ob5), .val (.ref ob7), .unset, .unset] []) _ _ _
          refine own_to (fun t k => XS.aload X8.here hx rfl (hb hby at_218) rfl rfl k) ?_
          show own_Out p e below _ T8 (mkF m 220 #[.val (.int x0), .val (.int x1), .val (.int x2), .val (.int x3), .val (.int x4), .val (.int r1), .val (.int c1), .val (.int rc), .val (.int cd), .val (.int (x4 &&& (3 : Int32))), .val (.int nu), .val (.int r2), .val (.int c2), .val (.long ((r2.toInt64) - (r1.toInt64))), .second, .val (.long ((c2.toInt64) - (c1.toInt64))), .second, .val (.int ex), .val (.ref ob5), .val (.ref ob7), .unset, .unset] [(.ref ob5)]) _ _ _
          refine own_to (fun t k => XS.aload X8.here hx rfl (hb hby at_220) rfl rfl k) ?_
          show own_Out p e below _ T8 (mkF m 222 #[.val (.int x0), .val (.int x1), .val (.int x2), .val (.int x3), .val (.int x4), .val (.int r1), .val (.int c1), .val (.int rc), .val (.int cd), .val (.int (x4 &&& (3 : Int32))), .val (.int nu), .val (.int r2), .val (.int c2), .val (.long ((r2.toInt64) - (r1.toInt64))), .second, .val (.long ((c2.toInt64) - (c1.toInt64))), .second, .val (.int ex), .val (.ref ob5), .val (.ref ob7), .unset, .unset] [(.ref ob7), (.ref ob5)]) _ _ _
          refine own_callV X8 hx hZ hown (a := ob5) (argsL := [(.ref ob7)]) (rest := []) (hw _ (List.mem_of_getElem? (i := 24) rfl)) (hw _ (List.mem_of_getElem? (i := 25) rfl)) (hw _ (List.mem_of_getElem? (i := 27) rfl)) (hw _ (List.mem_of_getElem? (i := 26) rfl)) (hw _ (List.mem_of_getElem? (i := 8) rfl)) (hw _ (List.mem_of_getElem? (i := 28) rfl)) (by decide) (rm5 l Z a0 hw ob5 ob7 r1 c1 r2 c2 hh8 n0 Z0 E_ob5 E_ob7 F_ob5_row F_ob5_column F_ob7_row F_ob7_column) (by decide) (by decide) e8 E_ob5 rfl (by rw [hml]; rfl) (lenOf pd_4 rfl) rfl (W := 0) (by show 2 * 0 + _ ≤ _; exact Nat.le_of_eq rfl) (hb hby at_222) (by decide) (by decide) fun v9 T9 hh9 L9 X9 e9 hQ9 => ?_
          obtain ⟨rfl, NL9, he9⟩ := hQ9
          replace e9 := e9.trans he9
          have N9 := Fr.app N8 NL9
          show own_Out p e below _ T9 (mkF m 225 #[.val (.int x0), .val (.int x1), .val (.int x2), .val (.int x3), .val (.int x4), .val (.int r1), .val (.int c1), .val (.int rc), .val (.int cd), .val (.int (x4 &&& (3 : Int32))), .val (.int nu), .val (.int r2), .val (.int c2), .val (.long ((r2.toInt64) - (r1.toInt64))), .second, .val (.long ((c2.toInt64) - (c1.toInt64))), .second, .val (.int ex), .val (.ref ob5), .val (.ref ob7), .unset, .unset] [(.int (R5 ob5 ob7 r1 c1 r2 c2))]) _ _ _
          refine own_to (fun t k => XS.istore X9.here hx rfl (hb hby at_225) rfl (l' := #[.val (.int x0), .val (.int x1), .val (.int x2), .val (.int x3), .val (.int x4), .val (.int r1), .val (.int c1), .val (.int rc), .val (.int cd), .val (.int (x4 &&& (3 : Int32))), .val (.int nu), .val (.int r2), .val (.int c2), .val (.long ((r2.toInt64) - (r1.toInt64))), .second, .val (.long ((c2.toInt64) - (c1.toInt64))), .second, .val (.int ex), .val (.ref ob5), .val (.ref ob7), .val (.int (R5 ob5 ob7 r1 c1 r2 c2)), .unset]) rfl k) ?_
          show own_Out p e below _ T9 (mkF m 227 #[.val (.int x0), .val (.int x1), .val (.int x2), .val (.int x3), .val (.int x4), .val (.int r1), .val (.int c1), .val (.int rc), .val (.int cd), .val (.int (x4 &&& (3 : Int32))), .val (.int nu), .val (.int r2), .val (.int c2), .val (.long ((r2.toInt64) - (r1.toInt64))), .second, .val (.long ((c2.toInt64) - (c1.toInt64))), .second, .val (.int ex), .val (.ref ob5), .val (.ref ob7), .val (.int (R5 ob5 ob7 r1 c1 r2 c2)), .unset] []) _ _ _
          refine own_to (fun t k => XS.aload X9.here hx rfl (hb hby at_227) rfl rfl k) ?_
          show own_Out p e below _ T9 (mkF m 229 #[.val (.int x0), .val (.int x1), .val (.int x2), .val (.int x3), .val (.int x4), .val (.int r1), .val (.int c1), .val (.int rc), .val (.int cd), .val (.int (x4 &&& (3 : Int32))), .val (.int nu), .val (.int r2), .val (.int c2), .val (.long ((r2.toInt64) - (r1.toInt64))), .second, .val (.long ((c2.toInt64) - (c1.toInt64))), .second, .val (.int ex), .val (.ref ob5), .val (.ref ob7), .val (.int (R5 ob5 ob7 r1 c1 r2 c2)), .unset] [(.ref ob7)]) _ _ _
          refine own_to (fun t k => XS.aload X9.here hx rfl (hb hby at_229) rfl rfl k) ?_
          show own_Out p e below _ T9 (mkF m 231 #[.val (.int x0), .val (.int x1), .val (.int x2), .val (.int x3), .val (.int x4), .val (.int r1), .val (.int c1), .val (.int rc), .val (.int cd), .val (.int (x4 &&& (3 : Int32))), .val (.int nu), .val (.int r2), .val (.int c2), .val (.long ((r2.toInt64) - (r1.toInt64))), .second, .val (.long ((c2.toInt64) - (c1.toInt64))), .second, .val (.int ex), .val (.ref ob5), .val (.ref ob7), .val (.int (R5 ob5 ob7 r1 c1 r2 c2)), .unset] [(.ref ob5), (.ref ob7)]) _ _ _
          refine own_callV X9 hx hZ hown (a := ob7) (argsL := [(.ref ob5)]) (rest := []) (hw _ (List.mem_of_getElem? (i := 24) rfl)) (hw _ (List.mem_of_getElem? (i := 25) rfl)) (hw _ (List.mem_of_getElem? (i := 27) rfl)) (hw _ (List.mem_of_getElem? (i := 26) rfl)) (hw _ (List.mem_of_getElem? (i := 8) rfl)) (hw _ (List.mem_of_getElem? (i := 28) rfl)) (by decide) (rm5 l Z a0 hw ob7 ob5 r2 c2 r1 c1 hh8 n0 Z0 E_ob7 E_ob5 F_ob7_row F_ob7_column F_ob5_row F_ob5_column) (by decide) (by decide) e9 E_ob7 rfl (by rw [hml]; rfl) (lenOf pd_4 rfl) rfl (W := 0) (by show 2 * 0 + _ ≤ _; exact Nat.le_of_eq rfl) (hb hby at_231) (by decide) (by decide) fun v10 T10 hh10 L10 X10 e10 hQ10 => ?_
          obtain ⟨rfl, NL10, he10⟩ := hQ10
          replace e10 := e10.trans he10
          have N10 := Fr.app N9 NL10
          show own_Out p e below _ T10 (mkF m 234 #[.val (.int x0), .val (.int x1), .val (.int x2), .val (.int x3), .val (.int x4), .val (.int r1), .val (.int c1), .val (.int rc), .val (.int cd), .val (.int (x4 &&& (3 : Int32))), .val (.int nu), .val (.int r2), .val (.int c2), .val (.long ((r2.toInt64) - (r1.toInt64))), .second, .val (.long ((c2.toInt64) - (c1.toInt64))), .second, .val (.int ex), .val (.ref ob5), .val (.ref ob7), .val (.int (R5 ob5 ob7 r1 c1 r2 c2)), .unset] [(.int (R5 ob7 ob5 r2 c2 r1 c1))]) _ _ _
          refine own_to (fun t k => XS.istore X10.here hx rfl (hb hby at_234) rfl (l' := #[.val (.int x0), .val (.int x1), .val (.int x2), .val (.int x3), .val (.int x4), .val (.int r1), .val (.int c1), .val (.int rc), .val (.int cd), .val (.int (x4 &&& (3 : Int32))), .val (.int nu), .val (.int r2), .val (.int c2), .val (.long ((r2.toInt64) - (r1.toInt64))), .second, .val (.long ((c2.toInt64) - (c1.toInt64))), .second, .val (.int ex), .val (.ref ob5), .val (.ref ob7), .val (.int (R5 ob5 ob7 r1 c1 r2 c2)), .val (.int (R5 ob7 ob5 r2 c2 r1 c1))]) rfl k) ?_
          show own_Out p e below _ T10 (mkF m 236 #[.val (.int x0), .val (.int x1), .val (.int x2), .val (.int x3), .val (.int x4), .val (.int r1), .val (.int c1), .val (.int rc), .val (.int cd), .val (.int (x4 &&& (3 : Int32))), .val (.int nu), .val (.int r2), .val (.int c2), .val (.long ((r2.toInt64) - (r1.toInt64))), .second, .val (.long ((c2.toInt64) - (c1.toInt64))), .second, .val (.int ex), .val (.ref ob5), .val (.ref ob7), .val (.int (R5 ob5 ob7 r1 c1 r2 c2)), .val (.int (R5 ob7 ob5 r2 c2 r1 c1))] []) _ _ _
          refine own_to (fun t k => XS.iload X10.here hx rfl (hb hby at_236) rfl k) ?_
          show own_Out p e below _ T10 (mkF m 238 #[.val (.int x0), .val (.int x1), .val (.int x2), .val (.int x3), .val (.int x4), .val (.int r1), .val (.int c1), .val (.int rc), .val (.int cd), .val (.int (x4 &&& (3 : Int32))), .val (.int nu), .val (.int r2), .val (.int c2), .val (.long ((r2.toInt64) - (r1.toInt64))), .second, .val (.long ((c2.toInt64) - (c1.toInt64))), .second, .val (.int ex), .val (.ref ob5), .val (.ref ob7), .val (.int (R5 ob5 ob7 r1 c1 r2 c2)), .val (.int (R5 ob7 ob5 r2 c2 r1 c1))] [(.int (R5 ob5 ob7 r1 c1 r2 c2))]) _ _ _
          refine own_to (fun t k => XS.iload X10.here hx rfl (hb hby at_238) rfl k) ?_
          show own_Out p e below _ T10 (mkF m 240 #[.val (.int x0), .val (.int x1), .val (.int x2), .val (.int x3), .val (.int x4), .val (.int r1), .val (.int c1), .val (.int rc), .val (.int cd), .val (.int (x4 &&& (3 : Int32))), .val (.int nu), .val (.int r2), .val (.int c2), .val (.long ((r2.toInt64) - (r1.toInt64))), .second, .val (.long ((c2.toInt64) - (c1.toInt64))), .second, .val (.int ex), .val (.ref ob5), .val (.ref ob7), .val (.int (R5 ob5 ob7 r1 c1 r2 c2)), .val (.int (R5 ob7 ob5 r2 c2 r1 c1))] [(.int ex), (.int (R5 ob5 ob7 r1 c1 r2 c2))]) _ _ _
          have hc240 : (R5 ob5 ob7 r1 c1 r2 c2) = ex := (own_att _ _ r1 c1 r2 c2 (by omega) (by omega) hR hC).trans hE.symm
          refine own_to (fun t k => XS.icmpNo X10.here hx rfl (hb hby at_240) rfl (teq hc240).2 k) ?_
          show own_Out p e below _ T10 (mkF m 243 #[.val (.int x0), .val (.int x1), .val (.int x2), .val (.int x3), .val (.int x4), .val (.int r1), .val (.int c1), .val (.int rc), .val (.int cd), .val (.int (x4 &&& (3 : Int32))), .val (.int nu), .val (.int r2), .val (.int c2), .val (.long ((r2.toInt64) - (r1.toInt64))), .second, .val (.long ((c2.toInt64) - (c1.toInt64))), .second, .val (.int ex), .val (.ref ob5), .val (.ref ob7), .val (.int (R5 ob5 ob7 r1 c1 r2 c2)), .val (.int (R5 ob7 ob5 r2 c2 r1 c1))] []) _ _ _
          refine own_to (fun t k => XS.iload X10.here hx rfl (hb hby at_243) rfl k) ?_
          show own_Out p e below _ T10 (mkF m 245 #[.val (.int x0), .val (.int x1), .val (.int x2), .val (.int x3), .val (.int x4), .val (.int r1), .val (.int c1), .val (.int rc), .val (.int cd), .val (.int (x4 &&& (3 : Int32))), .val (.int nu), .val (.int r2), .val (.int c2), .val (.long ((r2.toInt64) - (r1.toInt64))), .second, .val (.long ((c2.toInt64) - (c1.toInt64))), .second, .val (.int ex), .val (.ref ob5), .val (.ref ob7), .val (.int (R5 ob5 ob7 r1 c1 r2 c2)), .val (.int (R5 ob7 ob5 r2 c2 r1 c1))] [(.int (R5 ob7 ob5 r2 c2 r1 c1))]) _ _ _
          refine own_to (fun t k => XS.iload X10.here hx rfl (hb hby at_245) rfl k) ?_
          show own_Out p e below _ T10 (mkF m 247 #[.val (.int x0), .val (.int x1), .val (.int x2), .val (.int x3), .val (.int x4), .val (.int r1), .val (.int c1), .val (.int rc), .val (.int cd), .val (.int (x4 &&& (3 : Int32))), .val (.int nu), .val (.int r2), .val (.int c2), .val (.long ((r2.toInt64) - (r1.toInt64))), .second, .val (.long ((c2.toInt64) - (c1.toInt64))), .second, .val (.int ex), .val (.ref ob5), .val (.ref ob7), .val (.int (R5 ob5 ob7 r1 c1 r2 c2)), .val (.int (R5 ob7 ob5 r2 c2 r1 c1))] [(.int ex), (.int (R5 ob7 ob5 r2 c2 r1 c1))]) _ _ _
          have hc247 : (R5 ob7 ob5 r2 c2 r1 c1) = ex := (own_att' _ _ r1 c1 r2 c2 (by omega) (by omega) hR hC).trans hE.symm
          refine own_to (fun t k => XS.icmpNo X10.here hx rfl (hb hby at_247) rfl (teq hc247).2 k) ?_
          show own_Out p e below _ T10 (mkF m 250 #[.val (.int x0), .val (.int x1), .val (.int x2), .val (.int x3), .val (.int x4), .val (.int r1), .val (.int c1), .val (.int rc), .val (.int cd), .val (.int (x4 &&& (3 : Int32))), .val (.int nu), .val (.int r2), .val (.int c2), .val (.long ((r2.toInt64) - (r1.toInt64))), .second, .val (.long ((c2.toInt64) - (c1.toInt64))), .second, .val (.int ex), .val (.ref ob5), .val (.ref ob7), .val (.int (R5 ob5 ob7 r1 c1 r2 c2)), .val (.int (R5 ob7 ob5 r2 c2 r1 c1))] []) _ _ _
          refine own_to (fun t k => XS.iconst X10.here hx rfl (hb hby at_250) k) ?_
          show own_Out p e below _ T10 (mkF m 251 #[.val (.int x0), .val (.int x1), .val (.int x2), .val (.int x3), .val (.int x4), .val (.int r1), .val (.int c1), .val (.int rc), .val (.int cd), .val (.int (x4 &&& (3 : Int32))), .val (.int nu), .val (.int r2), .val (.int c2), .val (.long ((r2.toInt64) - (r1.toInt64))), .second, .val (.long ((c2.toInt64) - (c1.toInt64))), .second, .val (.int ex), .val (.ref ob5), .val (.ref ob7), .val (.int (R5 ob5 ob7 r1 c1 r2 c2)), .val (.int (R5 ob7 ob5 r2 c2 r1 c1))] [(.int (1 : Int32))]) _ _ _
          refine own_to (fun t k => XS.goto X10.here hx rfl (pc0 := 251) (pc' := 255) rfl (hb hby at_251) (by decide) (by decide) k) ?_
          show own_Out p e below _ T10 (mkF m 255 #[.val (.int x0), .val (.int x1), .val (.int x2), .val (.int x3), .val (.int x4), .val (.int r1), .val (.int c1), .val (.int rc), .val (.int cd), .val (.int (x4 &&& (3 : Int32))), .val (.int nu), .val (.int r2), .val (.int c2), .val (.long ((r2.toInt64) - (r1.toInt64))), .second, .val (.long ((c2.toInt64) - (c1.toInt64))), .second, .val (.int ex), .val (.ref ob5), .val (.ref ob7), .val (.int (R5 ob5 ob7 r1 c1 r2 c2)), .val (.int (R5 ob7 ob5 r2 c2 r1 c1))] [(.int (1 : Int32))]) _ _ _
          refine own_retV X10 hx hlk (w := .int (1 : Int32)) hret rfl (Or.inl ⟨rfl, by simp, _, rfl⟩) (hb hby at_255) (by decide) (by decide) ?_
          rw [e10]
          exact ⟨rfl, N10⟩
        refine own_to (fun t k => XS.lload X4.here hx rfl (hb hby at_154) rfl k) ?_
        show own_Out p e below _ T4 (mkF m 156 #[.val (.int x0), .val (.int x1), .val (.int x2), .val (.int x3), .val (.int x4), .val (.int r1), .val (.int c1), .val (.int rc), .val (.int cd), .val (.int (x4 &&& (3 : Int32))), .val (.int nu), .val (.int r2), .val (.int c2), .val (.long ((r2.toInt64) - (r1.toInt64))), .second, .val (.long ((c2.toInt64) - (c1.toInt64))), .second, .unset, .unset, .unset, .unset, .unset] [(.long ((r2.toInt64) - (r1.toInt64)))]) _ _ _
        refine own_to (fun t k => XS.lconst X4.here hx rfl (hb hby at_156) k) ?_
        show own_Out p e below _ T4 (mkF m 157 #[.val (.int x0), .val (.int x1), .val (.int x2), .val (.int x3), .val (.int x4), .val (.int r1), .val (.int c1), .val (.int rc), .val (.int cd), .val (.int (x4 &&& (3 : Int32))), .val (.int nu), .val (.int r2), .val (.int c2), .val (.long ((r2.toInt64) - (r1.toInt64))), .second, .val (.long ((c2.toInt64) - (c1.toInt64))), .second, .unset, .unset, .unset, .unset, .unset] [(.long (0 : Int64)), (.long ((r2.toInt64) - (r1.toInt64)))]) _ _ _
        refine own_to (fun t k => XS.lcmp X4.here hx rfl (hb hby at_157) rfl k) ?_
        show own_Out p e below _ T4 (mkF m 158 #[.val (.int x0), .val (.int x1), .val (.int x2), .val (.int x3), .val (.int x4), .val (.int r1), .val (.int c1), .val (.int rc), .val (.int cd), .val (.int (x4 &&& (3 : Int32))), .val (.int nu), .val (.int r2), .val (.int c2), .val (.long ((r2.toInt64) - (r1.toInt64))), .second, .val (.long ((c2.toInt64) - (c1.toInt64))), .second, .unset, .unset, .unset, .unset, .unset] [(.int (lcmpW ((r2.toInt64) - (r1.toInt64)) (0 : Int64)))]) _ _ _
        by_cases hc158 : ((r2.toInt64) - (r1.toInt64)) = (0 : Int64)
        · refine own_to (fun t k => XS.ifYes X4.here hx rfl (pc0 := 158) (pc' := 185) rfl (hb hby at_158) rfl ((if0 _ _).trans (teq ((lw_eq _ _).mpr hc158)).1) (by decide) (by decide) k) ?_
          show own_Out p e below _ T4 (mkF m 185 #[.val (.int x0), .val (.int x1), .val (.int x2), .val (.int x3), .val (.int x4), .val (.int r1), .val (.int c1), .val (.int rc), .val (.int cd), .val (.int (x4 &&& (3 : Int32))), .val (.int nu), .val (.int r2), .val (.int c2), .val (.long ((r2.toInt64) - (r1.toInt64))), .second, .val (.long ((c2.toInt64) - (c1.toInt64))), .second, .unset, .unset, .unset, .unset, .unset] []) _ _ _
          refine own_to (fun t k => XS.iconst X4.here hx rfl (hb hby at_185) k) ?_
          show own_Out p e below _ T4 (mkF m 186 #[.val (.int x0), .val (.int x1), .val (.int x2), .val (.int x3), .val (.int x4), .val (.int r1), .val (.int c1), .val (.int rc), .val (.int cd), .val (.int (x4 &&& (3 : Int32))), .val (.int nu), .val (.int r2), .val (.int c2), .val (.long ((r2.toInt64) - (r1.toInt64))), .second, .val (.long ((c2.toInt64) - (c1.toInt64))), .second, .unset, .unset, .unset, .unset, .unset] [(.int (1 : Int32))]) _ _ _
          refine own_to (fun t k => XS.goto X4.here hx rfl (pc0 := 186) (pc' := 190) rfl (hb hby at_186) (by decide) (by decide) k) ?_
          show own_Out p e below _ T4 (mkF m 190 #[.val (.int x0), .val (.int x1), .val (.int x2), .val (.int x3), .val (.int x4), .val (.int r1), .val (.int c1), .val (.int rc), .val (.int cd), .val (.int (x4 &&& (3 : Int32))), .val (.int nu), .val (.int r2), .val (.int c2), .val (.long ((r2.toInt64) - (r1.toInt64))), .second, .val (.long ((c2.toInt64) - (c1.toInt64))), .second, .unset, .unset, .unset, .unset, .unset] [(.int (1 : Int32))]) _ _ _
          refine own_to (fun t k => XS.istore X4.here hx rfl (hb hby at_190) rfl (l' := #[.val (.int x0), .val (.int x1), .val (.int x2), .val (.int x3), .val (.int x4), .val (.int r1), .val (.int c1), .val (.int rc), .val (.int cd), .val (.int (x4 &&& (3 : Int32))), .val (.int nu), .val (.int r2), .val (.int c2), .val (.long ((r2.toInt64) - (r1.toInt64))), .second, .val (.long ((c2.toInt64) - (c1.toInt64))), .second, .val (.int (1 : Int32)), .unset, .unset, .unset, .unset]) rfl k) ?_
          exact J192 (1 : Int32) (by unfold own_exp; rw [if_pos hc158])
        · refine own_to (fun t k => XS.ifNo X4.here hx rfl (hb hby at_158) rfl ((if0 _ _).trans (feq (fun q => hc158 ((lw_eq _ _).mp q))).1) k) ?_
          show own_Out p e below _ T4 (mkF m 161 #[.val (.int x0), .val (.int x1), .val (.int x2), .val (.int x3), .val (.int x4), .val (.int r1), .val (.int c1), .val (.int rc), .val (.int cd), .val (.int (x4 &&& (3 : Int32))), .val (.int nu), .val (.int r2), .val (.int c2), .val (.long ((r2.toInt64) - (r1.toInt64))), .second, .val (.long ((c2.toInt64) - (c1.toInt64))), .second, .unset, .unset, .unset, .unset, .unset] []) _ _ _
          refine own_to (fun t k => XS.lload X4.here hx rfl (hb hby at_161) rfl k) ?_
          show own_Out p e below _ T4 (mkF m 163 #[.val (.int x0), .val (.int x1), .val (.int x2), .val (.int x3), .val (.int x4), .val (.int r1), .val (.int c1), .val (.int rc), .val (.int cd), .val (.int (x4 &&& (3 : Int32))), .val (.int nu), .val (.int r2), .val (.int c2), .val (.long ((r2.toInt64) - (r1.toInt64))), .second, .val (.long ((c2.toInt64) - (c1.toInt64))), .second, .unset, .unset, .unset, .unset, .unset] [(.long ((c2.toInt64) - (c1.toInt64)))]) _ _ _
          refine own_to (fun t k => XS.lconst X4.here hx rfl (hb hby at_163) k) ?_
          show own_Out p e below _ T4 (mkF m 164 #[.val (.int x0), .val (.int x1), .val (.int x2), .val (.int x3), .val (.int x4), .val (.int r1), .val (.int c1), .val (.int rc), .val (.int cd), .val (.int (x4 &&& (3 : Int32))), .val (.int nu), .val (.int r2), .val (.int c2), .val (.long ((r2.toInt64) - (r1.toInt64))), .second, .val (.long ((c2.toInt64) - (c1.toInt64))), .second, .unset, .unset, .unset, .unset, .unset] [(.long (0 : Int64)), (.long ((c2.toInt64) - (c1.toInt64)))]) _ _ _
          refine own_to (fun t k => XS.lcmp X4.here hx rfl (hb hby at_164) rfl k) ?_
          show own_Out p e below _ T4 (mkF m 165 #[.val (.int x0), .val (.int x1), .val (.int x2), .val (.int x3), .val (.int x4), .val (.int r1), .val (.int c1), .val (.int rc), .val (.int cd), .val (.int (x4 &&& (3 : Int32))), .val (.int nu), .val (.int r2), .val (.int c2), .val (.long ((r2.toInt64) - (r1.toInt64))), .second, .val (.long ((c2.toInt64) - (c1.toInt64))), .second, .unset, .unset, .unset, .unset, .unset] [(.int (lcmpW ((c2.toInt64) - (c1.toInt64)) (0 : Int64)))]) _ _ _
          by_cases hc165 : ((c2.toInt64) - (c1.toInt64)) = (0 : Int64)
          · refine own_to (fun t k => XS.ifYes X4.here hx rfl (pc0 := 165) (pc' := 185) rfl (hb hby at_165) rfl ((if0 _ _).trans (teq ((lw_eq _ _).mpr hc165)).1) (by decide) (by decide) k) ?_
            show own_Out p e below _ T4 (mkF m 185 #[.val (.int x0), .val (.int x1), .val (.int x2), .val (.int x3), .val (.int x4), .val (.int r1), .val (.int c1), .val (.int rc), .val (.int cd), .val (.int (x4 &&& (3 : Int32))), .val (.int nu), .val (.int r2), .val (.int c2), .val (.long ((r2.toInt64) - (r1.toInt64))), .second, .val (.long ((c2.toInt64) - (c1.toInt64))), .second, .unset, .unset, .unset, .unset, .unset] []) _ _ _
            refine own_to (fun t k => XS.iconst X4.here hx rfl (hb hby at_185) k) ?_
            show own_Out p e below _ T4 (mkF m 186 #[.val (.int x0), .val (.int x1), .val (.int x2), .val (.int x3), .val (.int x4), .val (.int r1), .val (.int c1), .val (.int rc), .val (.int cd), .val (.int (x4 &&& (3 : Int32))), .val (.int nu), .val (.int r2), .val (.int c2), .val (.long ((r2.toInt64) - (r1.toInt64))), .second, .val (.long ((c2.toInt64) - (c1.toInt64))), .second, .unset, .unset, .unset, .unset, .unset] [(.int (1 : Int32))]) _ _ _
            refine own_to (fun t k => XS.goto X4.here hx rfl (pc0 := 186) (pc' := 190) rfl (hb hby at_186) (by decide) (by decide) k) ?_
            show own_Out p e below _ T4 (mkF m 190 #[.val (.int x0), .val (.int x1), .val (.int x2), .val (.int x3), .val (.int x4), .val (.int r1), .val (.int c1), .val (.int rc), .val (.int cd), .val (.int (x4 &&& (3 : Int32))), .val (.int nu), .val (.int r2), .val (.int c2), .val (.long ((r2.toInt64) - (r1.toInt64))), .second, .val (.long ((c2.toInt64) - (c1.toInt64))), .second, .unset, .unset, .unset, .unset, .unset] [(.int (1 : Int32))]) _ _ _
            refine own_to (fun t k => XS.istore X4.here hx rfl (hb hby at_190) rfl (l' := #[.val (.int x0), .val (.int x1), .val (.int x2), .val (.int x3), .val (.int x4), .val (.int r1), .val (.int c1), .val (.int rc), .val (.int cd), .val (.int (x4 &&& (3 : Int32))), .val (.int nu), .val (.int r2), .val (.int c2), .val (.long ((r2.toInt64) - (r1.toInt64))), .second, .val (.long ((c2.toInt64) - (c1.toInt64))), .second, .val (.int (1 : Int32)), .unset, .unset, .unset, .unset]) rfl k) ?_
            exact J192 (1 : Int32) (by unfold own_exp; rw [if_neg hc158, if_pos hc165])
          · refine own_to (fun t k => XS.ifNo X4.here hx rfl (hb hby at_165) rfl ((if0 _ _).trans (feq (fun q => hc165 ((lw_eq _ _).mp q))).1) k) ?_
            show own_Out p e below _ T4 (mkF m 168 #[.val (.int x0), .val (.int x1), .val (.int x2), .val (.int x3), .val (.int x4), .val (.int r1), .val (.int c1), .val (.int rc), .val (.int cd), .val (.int (x4 &&& (3 : Int32))), .val (.int nu), .val (.int r2), .val (.int c2), .val (.long ((r2.toInt64) - (r1.toInt64))), .second, .val (.long ((c2.toInt64) - (c1.toInt64))), .second, .unset, .unset, .unset, .unset, .unset] []) _ _ _
            refine own_to (fun t k => XS.lload X4.here hx rfl (hb hby at_168) rfl k) ?_
            show own_Out p e below _ T4 (mkF m 170 #[.val (.int x0), .val (.int x1), .val (.int x2), .val (.int x3), .val (.int x4), .val (.int r1), .val (.int c1), .val (.int rc), .val (.int cd), .val (.int (x4 &&& (3 : Int32))), .val (.int nu), .val (.int r2), .val (.int c2), .val (.long ((r2.toInt64) - (r1.toInt64))), .second, .val (.long ((c2.toInt64) - (c1.toInt64))), .second, .unset, .unset, .unset, .unset, .unset] [(.long ((r2.toInt64) - (r1.toInt64)))]) _ _ _
            refine own_to (fun t k => XS.lload X4.here hx rfl (hb hby at_170) rfl k) ?_
            show own_Out p e below _ T4 (mkF m 172 #[.val (.int x0), .val (.int x1), .val (.int x2), .val (.int x3), .val (.int x4), .val (.int r1), .val (.int c1), .val (.int rc), .val (.int cd), .val (.int (x4 &&& (3 : Int32))), .val (.int nu), .val (.int r2), .val (.int c2), .val (.long ((r2.toInt64) - (r1.toInt64))), .second, .val (.long ((c2.toInt64) - (c1.toInt64))), .second, .unset, .unset, .unset, .unset, .unset] [(.long ((c2.toInt64) - (c1.toInt64))), (.long ((r2.toInt64) - (r1.toInt64)))]) _ _ _
            refine own_to (fun t k => XS.lcmp X4.here hx rfl (hb hby at_172) rfl k) ?_
            show own_Out p e below _ T4 (mkF m 173 #[.val (.int x0), .val (.int x1), .val (.int x2), .val (.int x3), .val (.int x4), .val (.int r1), .val (.int c1), .val (.int rc), .val (.int cd), .val (.int (x4 &&& (3 : Int32))), .val (.int nu), .val (.int r2), .val (.int c2), .val (.long ((r2.toInt64) - (r1.toInt64))), .second, .val (.long ((c2.toInt64) - (c1.toInt64))), .second, .unset, .unset, .unset, .unset, .unset] [(.int (lcmpW ((r2.toInt64) - (r1.toInt64)) ((c2.toInt64) - (c1.toInt64))))]) _ _ _
            by_cases hc173 : ((r2.toInt64) - (r1.toInt64)) = ((c2.toInt64) - (c1.toInt64))
            · refine own_to (fun t k => XS.ifYes X4.here hx rfl (pc0 := 173) (pc' := 185) rfl (hb hby at_173) rfl ((if0 _ _).trans (teq ((lw_eq _ _).mpr hc173)).1) (by decide) (by decide) k) ?_
              show own_Out p e below _ T4 (mkF m 185 #[.val (.int x0), .val (.int x1), .val (.int x2), .val (.int x3), .val (.int x4), .val (.int r1), .val (.int c1), .val (.int rc), .val (.int cd), .val (.int (x4 &&& (3 : Int32))), .val (.int nu), .val (.int r2), .val (.int c2), .val (.long ((r2.toInt64) - (r1.toInt64))), .second, .val (.long ((c2.toInt64) - (c1.toInt64))), .second, .unset, .unset, .unset, .unset, .unset] []) _ _ _
              refine own_to (fun t k => XS.iconst X4.here hx rfl (hb hby at_185) k) ?_
              show own_Out p e below _ T4 (mkF m 186 #[.val (.int x0), .val (.int x1), .val (.int x2), .val (.int x3), .val (.int x4), .val (.int r1), .val (.int c1), .val (.int rc), .val (.int cd), .val (.int (x4 &&& (3 : Int32))), .val (.int nu), .val (.int r2), .val (.int c2), .val (.long ((r2.toInt64) - (r1.toInt64))), .second, .val (.long ((c2.toInt64) - (c1.toInt64))), .second, .unset, .unset, .unset, .unset, .unset] [(.int (1 : Int32))]) _ _ _
              refine own_to (fun t k => XS.goto X4.here hx rfl (pc0 := 186) (pc' := 190) rfl (hb hby at_186) (by decide) (by decide) k) ?_
              show own_Out p e below _ T4 (mkF m 190 #[.val (.int x0), .val (.int x1), .val (.int x2), .val (.int x3), .val (.int x4), .val (.int r1), .val (.int c1), .val (.int rc), .val (.int cd), .val (.int (x4 &&& (3 : Int32))), .val (.int nu), .val (.int r2), .val (.int c2), .val (.long ((r2.toInt64) - (r1.toInt64))), .second, .val (.long ((c2.toInt64) - (c1.toInt64))), .second, .unset, .unset, .unset, .unset, .unset] [(.int (1 : Int32))]) _ _ _
              refine own_to (fun t k => XS.istore X4.here hx rfl (hb hby at_190) rfl (l' := #[.val (.int x0), .val (.int x1), .val (.int x2), .val (.int x3), .val (.int x4), .val (.int r1), .val (.int c1), .val (.int rc), .val (.int cd), .val (.int (x4 &&& (3 : Int32))), .val (.int nu), .val (.int r2), .val (.int c2), .val (.long ((r2.toInt64) - (r1.toInt64))), .second, .val (.long ((c2.toInt64) - (c1.toInt64))), .second, .val (.int (1 : Int32)), .unset, .unset, .unset, .unset]) rfl k) ?_
              exact J192 (1 : Int32) (by unfold own_exp; rw [if_neg hc158, if_neg hc165, if_pos hc173])
            · refine own_to (fun t k => XS.ifNo X4.here hx rfl (hb hby at_173) rfl ((if0 _ _).trans (feq (fun q => hc173 ((lw_eq _ _).mp q))).1) k) ?_
              show own_Out p e below _ T4 (mkF m 176 #[.val (.int x0), .val (.int x1), .val (.int x2), .val (.int x3), .val (.int x4), .val (.int r1), .val (.int c1), .val (.int rc), .val (.int cd), .val (.int (x4 &&& (3 : Int32))), .val (.int nu), .val (.int r2), .val (.int c2), .val (.long ((r2.toInt64) - (r1.toInt64))), .second, .val (.long ((c2.toInt64) - (c1.toInt64))), .second, .unset, .unset, .unset, .unset, .unset] []) _ _ _
              refine own_to (fun t k => XS.lload X4.here hx rfl (hb hby at_176) rfl k) ?_
              show own_Out p e below _ T4 (mkF m 178 #[.val (.int x0), .val (.int x1), .val (.int x2), .val (.int x3), .val (.int x4), .val (.int r1), .val (.int c1), .val (.int rc), .val (.int cd), .val (.int (x4 &&& (3 : Int32))), .val (.int nu), .val (.int r2), .val (.int c2), .val (.long ((r2.toInt64) - (r1.toInt64))), .second, .val (.long ((c2.toInt64) - (c1.toInt64))), .second, .unset, .unset, .unset, .unset, .unset] [(.long ((r2.toInt64) - (r1.toInt64)))]) _ _ _
              refine own_to (fun t k => XS.lload X4.here hx rfl (hb hby at_178) rfl k) ?_
              show own_Out p e below _ T4 (mkF m 180 #[.val (.int x0), .val (.int x1), .val (.int x2), .val (.int x3), .val (.int x4), .val (.int r1), .val (.int c1), .val (.int rc), .val (.int cd), .val (.int (x4 &&& (3 : Int32))), .val (.int nu), .val (.int r2), .val (.int c2), .val (.long ((r2.toInt64) - (r1.toInt64))), .second, .val (.long ((c2.toInt64) - (c1.toInt64))), .second, .unset, .unset, .unset, .unset, .unset] [(.long ((c2.toInt64) - (c1.toInt64))), (.long ((r2.toInt64) - (r1.toInt64)))]) _ _ _
              refine own_to (fun t k => XS.lneg X4.here hx rfl (hb hby at_180) rfl k) ?_
              show own_Out p e below _ T4 (mkF m 181 #[.val (.int x0), .val (.int x1), .val (.int x2), .val (.int x3), .val (.int x4), .val (.int r1), .val (.int c1), .val (.int rc), .val (.int cd), .val (.int (x4 &&& (3 : Int32))), .val (.int nu), .val (.int r2), .val (.int c2), .val (.long ((r2.toInt64) - (r1.toInt64))), .second, .val (.long ((c2.toInt64) - (c1.toInt64))), .second, .unset, .unset, .unset, .unset, .unset] [(.long (-((c2.toInt64) - (c1.toInt64)))), (.long ((r2.toInt64) - (r1.toInt64)))]) _ _ _
              refine own_to (fun t k => XS.lcmp X4.here hx rfl (hb hby at_181) rfl k) ?_
              show own_Out p e below _ T4 (mkF m 182 #[.val (.int x0), .val (.int x1), .val (.int x2), .val (.int x3), .val (.int x4), .val (.int r1), .val (.int c1), .val (.int rc), .val (.int cd), .val (.int (x4 &&& (3 : Int32))), .val (.int nu), .val (.int r2), .val (.int c2), .val (.long ((r2.toInt64) - (r1.toInt64))), .second, .val (.long ((c2.toInt64) - (c1.toInt64))), .second, .unset, .unset, .unset, .unset, .unset] [(.int (lcmpW ((r2.toInt64) - (r1.toInt64)) (-((c2.toInt64) - (c1.toInt64)))))]) _ _ _
              by_cases hc182 : ((r2.toInt64) - (r1.toInt64)) = (-((c2.toInt64) - (c1.toInt64)))
              · refine own_to (fun t k => XS.ifNo X4.here hx rfl (hb hby at_182) rfl ((if0 _ _).trans (teq ((lw_eq _ _).mpr hc182)).2) k) ?_
                show own_Out p e below _ T4 (mkF m 185 #[.val (.int x0), .val (.int x1), .val (.int x2), .val (.int x3), .val (.int x4), .val (.int r1), .val (.int c1), .val (.int rc), .val (.int cd), .val (.int (x4 &&& (3 : Int32))), .val (.int nu), .val (.int r2), .val (.int c2), .val (.long ((r2.toInt64) - (r1.toInt64))), .second, .val (.long ((c2.toInt64) - (c1.toInt64))), .second, .unset, .unset, .unset, .unset, .unset] []) _ _ _
                refine own_to (fun t k => XS.iconst X4.here hx rfl (hb hby at_185) k) ?_
                show own_Out p e below _ T4 (mkF m 186 #[.val (.int x0), .val (.int x1), .val (.int x2), .val (.int x3), .val (.int x4), .val (.int r1), .val (.int c1), .val (.int rc), .val (.int cd), .val (.int (x4 &&& (3 : Int32))), .val (.int nu), .val (.int r2), .val (.int c2), .val (.long ((r2.toInt64) - (r1.toInt64))), .second, .val (.long ((c2.toInt64) - (c1.toInt64))), .second, .unset, .unset, .unset, .unset, .unset] [(.int (1 : Int32))]) _ _ _
                refine own_to (fun t k => XS.goto X4.here hx rfl (pc0 := 186) (pc' := 190) rfl (hb hby at_186) (by decide) (by decide) k) ?_
                show own_Out p e below _ T4 (mkF m 190 #[.val (.int x0), .val (.int x1), .val (.int x2), .val (.int x3), .val (.int x4), .val (.int r1), .val (.int c1), .val (.int rc), .val (.int cd), .val (.int (x4 &&& (3 : Int32))), .val (.int nu), .val (.int r2), .val (.int c2), .val (.long ((r2.toInt64) - (r1.toInt64))), .second, .val (.long ((c2.toInt64) - (c1.toInt64))), .second, .unset, .unset, .unset, .unset, .unset] [(.int (1 : Int32))]) _ _ _
                refine own_to (fun t k => XS.istore X4.here hx rfl (hb hby at_190) rfl (l' := #[.val (.int x0), .val (.int x1), .val (.int x2), .val (.int x3), .val (.int x4), .val (.int r1), .val (.int c1), .val (.int rc), .val (.int cd), .val (.int (x4 &&& (3 : Int32))), .val (.int nu), .val (.int r2), .val (.int c2), .val (.long ((r2.toInt64) - (r1.toInt64))), .second, .val (.long ((c2.toInt64) - (c1.toInt64))), .second, .val (.int (1 : Int32)), .unset, .unset, .unset, .unset]) rfl k) ?_
                exact J192 (1 : Int32) (by unfold own_exp; rw [if_neg hc158, if_neg hc165, if_neg hc173, if_pos hc182])
              · refine own_to (fun t k => XS.ifYes X4.here hx rfl (pc0 := 182) (pc' := 189) rfl (hb hby at_182) rfl ((if0 _ _).trans (feq (fun q => hc182 ((lw_eq _ _).mp q))).2) (by decide) (by decide) k) ?_
                show own_Out p e below _ T4 (mkF m 189 #[.val (.int x0), .val (.int x1), .val (.int x2), .val (.int x3), .val (.int x4), .val (.int r1), .val (.int c1), .val (.int rc), .val (.int cd), .val (.int (x4 &&& (3 : Int32))), .val (.int nu), .val (.int r2), .val (.int c2), .val (.long ((r2.toInt64) - (r1.toInt64))), .second, .val (.long ((c2.toInt64) - (c1.toInt64))), .second, .unset, .unset, .unset, .unset, .unset] []) _ _ _
                refine own_to (fun t k => XS.iconst X4.here hx rfl (hb hby at_189) k) ?_
                show own_Out p e below _ T4 (mkF m 190 #[.val (.int x0), .val (.int x1), .val (.int x2), .val (.int x3), .val (.int x4), .val (.int r1), .val (.int c1), .val (.int rc), .val (.int cd), .val (.int (x4 &&& (3 : Int32))), .val (.int nu), .val (.int r2), .val (.int c2), .val (.long ((r2.toInt64) - (r1.toInt64))), .second, .val (.long ((c2.toInt64) - (c1.toInt64))), .second, .unset, .unset, .unset, .unset, .unset] [(.int (0 : Int32))]) _ _ _
                refine own_to (fun t k => XS.istore X4.here hx rfl (hb hby at_190) rfl (l' := #[.val (.int x0), .val (.int x1), .val (.int x2), .val (.int x3), .val (.int x4), .val (.int r1), .val (.int c1), .val (.int rc), .val (.int cd), .val (.int (x4 &&& (3 : Int32))), .val (.int nu), .val (.int r2), .val (.int c2), .val (.long ((r2.toInt64) - (r1.toInt64))), .second, .val (.long ((c2.toInt64) - (c1.toInt64))), .second, .val (.int (0 : Int32)), .unset, .unset, .unset, .unset]) rfl k) ?_
                exact J192 (0 : Int32) (by unfold own_exp; rw [if_neg hc158, if_neg hc165, if_neg hc173, if_neg hc182])
  refine own_to (fun t k => XS.iload X4.here hx rfl (hb hby at_40) rfl k) ?_
  show own_Out p e below _ T4 (mkF m 42 #[.val (.int x0), .val (.int x1), .val (.int x2), .val (.int x3), .val (.int x4), .val (.int r1), .val (.int c1), .val (.int rc), .val (.int cd), .val (.int (x4 &&& (3 : Int32))), .val (.int nu), .unset, .unset, .unset, .unset, .unset, .unset, .unset, .unset, .unset, .unset, .unset] [(.int (x4 &&& (3 : Int32)))]) _ _ _
  by_cases hc42 : (x4 &&& (3 : Int32)) = (0 : Int32)
  · refine own_to (fun t k => XS.ifNo X4.here hx rfl (hb hby at_42) rfl ((if0 _ _).trans (teq hc42).2) k) ?_
    show own_Out p e below _ T4 (mkF m 45 #[.val (.int x0), .val (.int x1), .val (.int x2), .val (.int x3), .val (.int x4), .val (.int r1), .val (.int c1), .val (.int rc), .val (.int cd), .val (.int (x4 &&& (3 : Int32))), .val (.int nu), .unset, .unset, .unset, .unset, .unset, .unset, .unset, .unset, .unset, .unset, .unset] []) _ _ _
    refine own_to (fun t k => XS.iload X4.here hx rfl (hb hby at_45) rfl k) ?_
    show own_Out p e below _ T4 (mkF m 47 #[.val (.int x0), .val (.int x1), .val (.int x2), .val (.int x3), .val (.int x4), .val (.int r1), .val (.int c1), .val (.int rc), .val (.int cd), .val (.int (x4 &&& (3 : Int32))), .val (.int nu), .unset, .unset, .unset, .unset, .unset, .unset, .unset, .unset, .unset, .unset, .unset] [(.int r1)]) _ _ _
    refine own_to (fun t k => XS.iload X4.here hx rfl (hb hby at_47) rfl k) ?_
    show own_Out p e below _ T4 (mkF m 49 #[.val (.int x0), .val (.int x1), .val (.int x2), .val (.int x3), .val (.int x4), .val (.int r1), .val (.int c1), .val (.int rc), .val (.int cd), .val (.int (x4 &&& (3 : Int32))), .val (.int nu), .unset, .unset, .unset, .unset, .unset, .unset, .unset, .unset, .unset, .unset, .unset] [(.int nu), (.int r1)]) _ _ _
    refine own_to (fun t k => XS.iadd X4.here hx rfl (hb hby at_49) rfl k) ?_
    show own_Out p e below _ T4 (mkF m 50 #[.val (.int x0), .val (.int x1), .val (.int x2), .val (.int x3), .val (.int x4), .val (.int r1), .val (.int c1), .val (.int rc), .val (.int cd), .val (.int (x4 &&& (3 : Int32))), .val (.int nu), .unset, .unset, .unset, .unset, .unset, .unset, .unset, .unset, .unset, .unset, .unset] [(.int (r1 + nu))]) _ _ _
    refine own_to (fun t k => XS.istore X4.here hx rfl (hb hby at_50) rfl (l' := #[.val (.int x0), .val (.int x1), .val (.int x2), .val (.int x3), .val (.int x4), .val (.int r1), .val (.int c1), .val (.int rc), .val (.int cd), .val (.int (x4 &&& (3 : Int32))), .val (.int nu), .val (.int (r1 + nu)), .unset, .unset, .unset, .unset, .unset, .unset, .unset, .unset, .unset, .unset]) rfl k) ?_
    show own_Out p e below _ T4 (mkF m 52 #[.val (.int x0), .val (.int x1), .val (.int x2), .val (.int x3), .val (.int x4), .val (.int r1), .val (.int c1), .val (.int rc), .val (.int cd), .val (.int (x4 &&& (3 : Int32))), .val (.int nu), .val (.int (r1 + nu)), .unset, .unset, .unset, .unset, .unset, .unset, .unset, .unset, .unset, .unset] []) _ _ _
    refine own_to (fun t k => XS.iload X4.here hx rfl (hb hby at_52) rfl k) ?_
    show own_Out p e below _ T4 (mkF m 54 #[.val (.int x0), .val (.int x1), .val (.int x2), .val (.int x3), .val (.int x4), .val (.int r1), .val (.int c1), .val (.int rc), .val (.int cd), .val (.int (x4 &&& (3 : Int32))), .val (.int nu), .val (.int (r1 + nu)), .unset, .unset, .unset, .unset, .unset, .unset, .unset, .unset, .unset, .unset] [(.int cd)]) _ _ _
    refine own_to (fun t k => XS.istore X4.here hx rfl (hb hby at_54) rfl (l' := #[.val (.int x0), .val (.int x1), .val (.int x2), .val (.int x3), .val (.int x4), .val (.int r1), .val (.int c1), .val (.int rc), .val (.int cd), .val (.int (x4 &&& (3 : Int32))), .val (.int nu), .val (.int (r1 + nu)), .val (.int cd), .unset, .unset, .unset, .unset, .unset, .unset, .unset, .unset, .unset]) rfl k) ?_
    show own_Out p e below _ T4 (mkF m 56 #[.val (.int x0), .val (.int x1), .val (.int x2), .val (.int x3), .val (.int x4), .val (.int r1), .val (.int c1), .val (.int rc), .val (.int cd), .val (.int (x4 &&& (3 : Int32))), .val (.int nu), .val (.int (r1 + nu)), .val (.int cd), .unset, .unset, .unset, .unset, .unset, .unset, .unset, .unset, .unset] []) _ _ _
    refine own_to (fun t k => XS.goto X4.here hx rfl (pc0 := 56) (pc' := 122) rfl (hb hby at_56) (by decide) (by decide) k) ?_
    exact J122 (r1 + nu) cd (by rw [own_ad r1 nu (by omega) (by omega)]; omega) (by omega)
  · refine own_to (fun t k => XS.ifYes X4.here hx rfl (pc0 := 42) (pc' := 59) rfl (hb hby at_42) rfl ((if0 _ _).trans (feq hc42).2) (by decide) (by decide) k) ?_
    show own_Out p e below _ T4 (mkF m 59 #[.val (.int x0), .val (.int x1), .val (.int x2), .val (.int x3), .val (.int x4), .val (.int r1), .val (.int c1), .val (.int rc), .val (.int cd), .val (.int (x4 &&& (3 : Int32))), .val (.int nu), .unset, .unset, .unset, .unset, .unset, .unset, .unset, .unset, .unset, .unset, .unset] []) _ _ _
    refine own_to (fun t k => XS.iload X4.here hx rfl (hb hby at_59) rfl k) ?_
    show own_Out p e below _ T4 (mkF m 61 #[.val (.int x0), .val (.int x1), .val (.int x2), .val (.int x3), .val (.int x4), .val (.int r1), .val (.int c1), .val (.int rc), .val (.int cd), .val (.int (x4 &&& (3 : Int32))), .val (.int nu), .unset, .unset, .unset, .unset, .unset, .unset, .unset, .unset, .unset, .unset, .unset] [(.int (x4 &&& (3 : Int32)))]) _ _ _
    refine own_to (fun t k => XS.iconst X4.here hx rfl (hb hby at_61) k) ?_
    show own_Out p e below _ T4 (mkF m 62 #[.val (.int x0), .val (.int x1), .val (.int x2), .val (.int x3), .val (.int x4), .val (.int r1), .val (.int c1), .val (.int rc), .val (.int cd), .val (.int (x4 &&& (3 : Int32))), .val (.int nu), .unset, .unset, .unset, .unset, .unset, .unset, .unset, .unset, .unset, .unset, .unset] [(.int (1 : Int32)), (.int (x4 &&& (3 : Int32)))]) _ _ _
    by_cases hc62 : (x4 &&& (3 : Int32)) = (1 : Int32)
    · refine own_to (fun t k => XS.icmpNo X4.here hx rfl (hb hby at_62) rfl (teq hc62).2 k) ?_
      show own_Out p e below _ T4 (mkF m 65 #[.val (.int x0), .val (.int x1), .val (.int x2), .val (.int x3), .val (.int x4), .val (.int r1), .val (.int c1), .val (.int rc), .val (.int cd), .val (.int (x4 &&& (3 : Int32))), .val (.int nu), .unset, .unset, .unset, .unset, .unset, .unset, .unset, .unset, .unset, .unset, .unset] []) _ _ _
      refine own_to (fun t k => XS.iload X4.here hx rfl (hb hby at_65) rfl k) ?_
      show own_Out p e below _ T4 (mkF m 67 #[.val (.int x0), .val (.int x1), .val (.int x2), .val (.int x3), .val (.int x4), .val (.int r1), .val (.int c1), .val (.int rc), .val (.int cd), .val (.int (x4 &&& (3 : Int32))), .val (.int nu), .unset, .unset, .unset, .unset, .unset, .unset, .unset, .unset, .unset, .unset, .unset] [(.int rc)]) _ _ _
      refine own_to (fun t k => XS.istore X4.here hx rfl (hb hby at_67) rfl (l' := #[.val (.int x0), .val (.int x1), .val (.int x2), .val (.int x3), .val (.int x4), .val (.int r1), .val (.int c1), .val (.int rc), .val (.int cd), .val (.int (x4 &&& (3 : Int32))), .val (.int nu), .val (.int rc), .unset, .unset, .unset, .unset, .unset, .unset, .unset, .unset, .unset, .unset]) rfl k) ?_
      show own_Out p e below _ T4 (mkF m 69 #[.val (.int x0), .val (.int x1), .val (.int x2), .val (.int x3), .val (.int x4), .val (.int r1), .val (.int c1), .val (.int rc), .val (.int cd), .val (.int (x4 &&& (3 : Int32))), .val (.int nu), .val (.int rc), .unset, .unset, .unset, .unset, .unset, .unset, .unset, .unset, .unset, .unset] []) _ _ _
      refine own_to (fun t k => XS.iload X4.here hx rfl (hb hby at_69) rfl k) ?_
      show own_Out p e below _ T4 (mkF m 71 #[.val (.int x0), .val (.int x1), .val (.int x2), .val (.int x3), .val (.int x4), .val (.int r1), .val (.int c1), .val (.int rc), .val (.int cd), .val (.int (x4 &&& (3 : Int32))), .val (.int nu), .val (.int rc), .unset, .unset, .unset, .unset, .unset, .unset, .unset, .unset, .unset, .unset] [(.int c1)]) _ _ _
      refine own_to (fun t k => XS.iload X4.here hx rfl (hb hby at_71) rfl k) ?_
      show own_Out p e below _ T4 (mkF m 73 #[.val (.int x0), .val (.int x1), .val (.int x2), .val (.int x3), .val (.int x4), .val (.int r1), .val (.int c1), .val (.int rc), .val (.int cd), .val (.int (x4 &&& (3 : Int32))), .val (.int nu), .val (.int rc), .unset, .unset, .unset, .unset, .unset, .unset, .unset, .unset, .unset, .unset] [(.int nu), (.int c1)]) _ _ _
      refine own_to (fun t k => XS.iadd X4.here hx rfl (hb hby at_73) rfl k) ?_
      show own_Out p e below _ T4 (mkF m 74 #[.val (.int x0), .val (.int x1), .val (.int x2), .val (.int x3), .val (.int x4), .val (.int r1), .val (.int c1), .val (.int rc), .val (.int cd), .val (.int (x4 &&& (3 : Int32))), .val (.int nu), .val (.int rc), .unset, .unset, .unset, .unset, .unset, .unset, .unset, .unset, .unset, .unset] [(.int (c1 + nu))]) _ _ _
      refine own_to (fun t k => XS.istore X4.here hx rfl (hb hby at_74) rfl (l' := #[.val (.int x0), .val (.int x1), .val (.int x2), .val (.int x3), .val (.int x4), .val (.int r1), .val (.int c1), .val (.int rc), .val (.int cd), .val (.int (x4 &&& (3 : Int32))), .val (.int nu), .val (.int rc), .val (.int (c1 + nu)), .unset, .unset, .unset, .unset, .unset, .unset, .unset, .unset, .unset]) rfl k) ?_
      show own_Out p e below _ T4 (mkF m 76 #[.val (.int x0), .val (.int x1), .val (.int x2), .val (.int x3), .val (.int x4), .val (.int r1), .val (.int c1), .val (.int rc), .val (.int cd), .val (.int (x4 &&& (3 : Int32))), .val (.int nu), .val (.int rc), .val (.int (c1 + nu)), .unset, .unset, .unset, .unset, .unset, .unset, .unset, .unset, .unset] []) _ _ _
      refine own_to (fun t k => XS.goto X4.here hx rfl (pc0 := 76) (pc' := 122) rfl (hb hby at_76) (by decide) (by decide) k) ?_
      exact J122 rc (c1 + nu) (by omega) (by rw [own_ad c1 nu (by omega) (by omega)]; omega)
    · refine own_to (fun t k => XS.icmpYes X4.here hx rfl (pc0 := 62) (pc' := 79) rfl (hb hby at_62) rfl (feq hc62).2 (by decide) (by decide) k) ?_
      show own_Out p e below _ T4 (mkF m 79 #[.val (.int x0), .val (.int x1), .val (.int x2), .val (.int x3), .val (.int x4), .val (.int r1), .val (.int c1), .val (.int rc), .val (.int cd), .val (.int (x4 &&& (3 : Int32))), .val (.int nu), .unset, .unset, .unset, .unset, .unset, .unset, .unset, .unset, .unset, .unset, .unset] []) _ _ _
      refine own_to (fun t k => XS.iload X4.here hx rfl (hb hby at_79) rfl k) ?_
      show own_Out p e below _ T4 (mkF m 81 #[.val (.int x0), .val (.int x1), .val (.int x2), .val (.int x3), .val (.int x4), .val (.int r1), .val (.int c1), .val (.int rc), .val (.int cd), .val (.int (x4 &&& (3 : Int32))), .val (.int nu), .unset, .unset, .unset, .unset, .unset, .unset, .unset, .unset, .unset, .unset, .unset] [(.int (x4 &&& (3 : Int32)))]) _ _ _
      refine own_to (fun t k => XS.iconst X4.here hx rfl (hb hby at_81) k) ?_
      show own_Out p e below _ T4 (mkF m 82 #[.val (.int x0), .val (.int x1), .val (.int x2), .val (.int x3), .val (.int x4), .val (.int r1), .val (.int c1), .val (.int rc), .val (.int cd), .val (.int (x4 &&& (3 : Int32))), .val (.int nu), .unset, .unset, .unset, .unset, .unset, .unset, .unset, .unset, .unset, .unset, .unset] [(.int (2 : Int32)), (.int (x4 &&& (3 : Int32)))]) _ _ _
      by_cases hc82 : (x4 &&& (3 : Int32)) = (2 : Int32)
      · refine own_to (fun t k => XS.icmpNo X4.here hx rfl (hb hby at_82) rfl (teq hc82).2 k) ?_
        show own_Out p e below _ T4 (mkF m 85 #[.val (.int x0), .val (.int x1), .val (.int x2), .val (.int x3), .val (.int x4), .val (.int r1), .val (.int c1), .val (.int rc), .val (.int cd), .val (.int (x4 &&& (3 : Int32))), .val (.int nu), .unset, .unset, .unset, .unset, .unset, .unset, .unset, .unset, .unset, .unset, .unset] []) _ _ _
        refine own_to (fun t k => XS.iload X4.here hx rfl (hb hby at_85) rfl k) ?_
        show own_Out p e below _ T4 (mkF m 87 #[.val (.int x0), .val (.int x1), .val (.int x2), .val (.int x3), .val (.int x4), .val (.int r1), .val (.int c1), .val (.int rc), .val (.int cd), .val (.int (x4 &&& (3 : Int32))), .val (.int nu), .unset, .unset, .unset, .unset, .unset, .unset, .unset, .unset, .unset, .unset, .unset] [(.int rc)]) _ _ _
        refine own_to (fun t k => XS.istore X4.here hx rfl (hb hby at_87) rfl (l' := #[.val (.int x0), .val (.int x1), .val (.int x2), .val (.int x3), .val (.int x4), .val (.int r1), .val (.int c1), .val (.int rc), .val (.int cd), .val (.int (x4 &&& (3 : Int32))), .val (.int nu), .val (.int rc), .unset, .unset, .unset, .unset, .unset, .unset, .unset, .unset, .unset, .unset]) rfl k) ?_
        show own_Out p e below _ T4 (mkF m 89 #[.val (.int x0), .val (.int x1), .val (.int x2), .val (.int x3), .val (.int x4), .val (.int r1), .val (.int c1), .val (.int rc), .val (.int cd), .val (.int (x4 &&& (3 : Int32))), .val (.int nu), .val (.int rc), .unset, .unset, .unset, .unset, .unset, .unset, .unset, .unset, .unset, .unset] []) _ _ _
        refine own_to (fun t k => XS.iload X4.here hx rfl (hb hby at_89) rfl k) ?_
        show own_Out p e below _ T4 (mkF m 91 #[.val (.int x0), .val (.int x1), .val (.int x2), .val (.int x3), .val (.int x4), .val (.int r1), .val (.int c1), .val (.int rc), .val (.int cd), .val (.int (x4 &&& (3 : Int32))), .val (.int nu), .val (.int rc), .unset, .unset, .unset, .unset, .unset, .unset, .unset, .unset, .unset, .unset] [(.int c1)]) _ _ _
        refine own_to (fun t k => XS.iload X4.here hx rfl (hb hby at_91) rfl k) ?_
        show own_Out p e below _ T4 (mkF m 93 #[.val (.int x0), .val (.int x1), .val (.int x2), .val (.int x3), .val (.int x4), .val (.int r1), .val (.int c1), .val (.int rc), .val (.int cd), .val (.int (x4 &&& (3 : Int32))), .val (.int nu), .val (.int rc), .unset, .unset, .unset, .unset, .unset, .unset, .unset, .unset, .unset, .unset] [(.int rc), (.int c1)]) _ _ _
        refine own_to (fun t k => XS.iload X4.here hx rfl (hb hby at_93) rfl k) ?_
        show own_Out p e below _ T4 (mkF m 95 #[.val (.int x0), .val (.int x1), .val (.int x2), .val (.int x3), .val (.int x4), .val (.int r1), .val (.int c1), .val (.int rc), .val (.int cd), .val (.int (x4 &&& (3 : Int32))), .val (.int nu), .val (.int rc), .unset, .unset, .unset, .unset, .unset, .unset, .unset, .unset, .unset, .unset] [(.int r1), (.int rc), (.int c1)]) _ _ _
        refine own_to (fun t k => XS.isub X4.here hx rfl (hb hby at_95) rfl k) ?_
        show own_Out p e below _ T4 (mkF m 96 #[.val (.int x0), .val (.int x1), .val (.int x2), .val (.int x3), .val (.int x4), .val (.int r1), .val (.int c1), .val (.int rc), .val (.int cd), .val (.int (x4 &&& (3 : Int32))), .val (.int nu), .val (.int rc), .unset, .unset, .unset, .unset, .unset, .unset, .unset, .unset, .unset, .unset] [(.int (rc - r1)), (.int c1)]) _ _ _
        refine own_to (fun t k => XS.iadd X4.here hx rfl (hb hby at_96) rfl k) ?_
        show own_Out p e below _ T4 (mkF m 97 #[.val (.int x0), .val (.int x1), .val (.int x2), .val (.int x3), .val (.int x4), .val (.int r1), .val (.int c1), .val (.int rc), .val (.int cd), .val (.int (x4 &&& (3 : Int32))), .val (.int nu), .val (.int rc), .unset, .unset, .unset, .unset, .unset, .unset, .unset, .unset, .unset, .unset] [(.int (c1 + (rc - r1)))]) _ _ _
        refine own_to (fun t k => XS.iload X4.here hx rfl (hb hby at_97) rfl k) ?_
        show own_Out p e below _ T4 (mkF m 99 #[.val (.int x0), .val (.int x1), .val (.int x2), .val (.int x3), .val (.int x4), .val (.int r1), .val (.int c1), .val (.int rc), .val (.int cd), .val (.int (x4 &&& (3 : Int32))), .val (.int nu), .val (.int rc), .unset, .unset, .unset, .unset, .unset, .unset, .unset, .unset, .unset, .unset] [(.int nu), (.int (c1 + (rc - r1)))]) _ _ _
        refine own_to (fun t k => XS.iadd X4.here hx rfl (hb hby at_99) rfl k) ?_
        show own_Out p e below _ T4 (mkF m 100 #[.val (.int x0), .val (.int x1), .val (.int x2), .val (.int x3), .val (.int x4), .val (.int r1), .val (.int c1), .val (.int rc), .val (.int cd), .val (.int (x4 &&& (3 : Int32))), .val (.int nu), .val (.int rc), .unset, .unset, .unset, .unset, .unset, .unset, .unset, .unset, .unset, .unset] [(.int ((c1 + (rc - r1)) + nu))]) _ _ _
        refine own_to (fun t k => XS.istore X4.here hx rfl (hb hby at_100) rfl (l' := #[.val (.int x0), .val (.int x1), .val (.int x2), .val (.int x3), .val (.int x4), .val (.int r1), .val (.int c1), .val (.int rc), .val (.int cd), .val (.int (x4 &&& (3 : Int32))), .val (.int nu), .val (.int rc), .val (.int ((c1 + (rc - r1)) + nu)), .unset, .unset, .unset, .unset, .unset, .unset, .unset, .unset, .unset]) rfl k) ?_
        show own_Out p e below _ T4 (mkF m 102 #[.val (.int x0), .val (.int x1), .val (.int x2), .val (.int x3), .val (.int x4), .val (.int r1), .val (.int c1), .val (.int rc), .val (.int cd), .val (.int (x4 &&& (3 : Int32))), .val (.int nu), .val (.int rc), .val (.int ((c1 + (rc - r1)) + nu)), .unset, .unset, .unset, .unset, .unset, .unset, .unset, .unset, .unset] []) _ _ _
        refine own_to (fun t k => XS.goto X4.here hx rfl (pc0 := 102) (pc' := 122) rfl (hb hby at_102) (by decide) (by decide) k) ?_
        exact J122 rc ((c1 + (rc - r1)) + nu) (by omega) (by have q1 := own_sb rc r1 (by omega) (by omega); have q2 := own_ad c1 (rc - r1) (by omega) (by omega); have q3 := own_ad (c1 + (rc - r1)) nu (by omega) (by omega); omega)
      · refine own_to (fun t k => XS.icmpYes X4.here hx rfl (pc0 := 82) (pc' := 105) rfl (hb hby at_82) rfl (feq hc82).2 (by decide) (by decide) k) ?_
        show own_Out p e below _ T4 (mkF m 105 #[.val (.int x0), .val (.int x1), .val (.int x2), .val (.int x3), .val (.int x4), .val (.int r1), .val (.int c1), .val (.int rc), .val (.int cd), .val (.int (x4 &&& (3 : Int32))), .val (.int nu), .unset, .unset, .unset, .unset, .unset, .unset, .unset, .unset, .unset, .unset, .unset] []) _ _ _
        refine own_to (fun t k => XS.iload X4.here hx rfl (hb hby at_105) rfl k) ?_
        show own_Out p e below _ T4 (mkF m 107 #[.val (.int x0), .val (.int x1), .val (.int x2), .val (.int x3), .val (.int x4), .val (.int r1), .val (.int c1), .val (.int rc), .val (.int cd), .val (.int (x4 &&& (3 : Int32))), .val (.int nu), .unset, .unset, .unset, .unset, .unset, .unset, .unset, .unset, .unset, .unset, .unset] [(.int rc)]) _ _ _
        refine own_to (fun t k => XS.istore X4.here hx rfl (hb hby at_107) rfl (l' := #[.val (.int x0), .val (.int x1), .val (.int x2), .val (.int x3), .val (.int x4), .val (.int r1), .val (.int c1), .val (.int rc), .val (.int cd), .val (.int (x4 &&& (3 : Int32))), .val (.int nu), .val (.int rc), .unset, .unset, .unset, .unset, .unset, .unset, .unset, .unset, .unset, .unset]) rfl k) ?_
        show own_Out p e below _ T4 (mkF m 109 #[.val (.int x0), .val (.int x1), .val (.int x2), .val (.int x3), .val (.int x4), .val (.int r1), .val (.int c1), .val (.int rc), .val (.int cd), .val (.int (x4 &&& (3 : Int32))), .val (.int nu), .val (.int rc), .unset, .unset, .unset, .unset, .unset, .unset, .unset, .unset, .unset, .unset] []) _ _ _
        refine own_to (fun t k => XS.iload X4.here hx rfl (hb hby at_109) rfl k) ?_
        show own_Out p e below _ T4 (mkF m 111 #[.val (.int x0), .val (.int x1), .val (.int x2), .val (.int x3), .val (.int x4), .val (.int r1), .val (.int c1), .val (.int rc), .val (.int cd), .val (.int (x4 &&& (3 : Int32))), .val (.int nu), .val (.int rc), .unset, .unset, .unset, .unset, .unset, .unset, .unset, .unset, .unset, .unset] [(.int c1)]) _ _ _
        refine own_to (fun t k => XS.iload X4.here hx rfl (hb hby at_111) rfl k) ?_
        show own_Out p e below _ T4 (mkF m 113 #[.val (.int x0), .val (.int x1), .val (.int x2), .val (.int x3), .val (.int x4), .val (.int r1), .val (.int c1), .val (.int rc), .val (.int cd), .val (.int (x4 &&& (3 : Int32))), .val (.int nu), .val (.int rc), .unset, .unset, .unset, .unset, .unset, .unset, .unset, .unset, .unset, .unset] [(.int rc), (.int c1)]) _ _ _
        refine own_to (fun t k => XS.iload X4.here hx rfl (hb hby at_113) rfl k) ?_
        show own_Out p e below _ T4 (mkF m 115 #[.val (.int x0), .val (.int x1), .val (.int x2), .val (.int x3), .val (.int x4), .val (.int r1), .val (.int c1), .val (.int rc), .val (.int cd), .val (.int (x4 &&& (3 : Int32))), .val (.int nu), .val (.int rc), .unset, .unset, .unset, .unset, .unset, .unset, .unset, .unset, .unset, .unset] [(.int r1), (.int rc), (.int c1)]) _ _ _
        refine own_to (fun t k => XS.isub X4.here hx rfl (hb hby at_115) rfl k) ?_
        show own_Out p e below _ T4 (mkF m 116 #[.val (.int x0), .val (.int x1), .val (.int x2), .val (.int x3), .val (.int x4), .val (.int r1), .val (.int c1), .val (.int rc), .val (.int cd), .val (.int (x4 &&& (3 : Int32))), .val (.int nu), .val (.int rc), .unset, .unset, .unset, .unset, .unset, .unset, .unset, .unset, .unset, .unset] [(.int (rc - r1)), (.int c1)]) _ _ _
        refine own_to (fun t k => XS.isub X4.here hx rfl (hb hby at_116) rfl k) ?_
        show own_Out p e below _ T4 (mkF m 117 #[.val (.int x0), .val (.int x1), .val (.int x2), .val (.int x3), .val (.int x4), .val (.int r1), .val (.int c1), .val (.int rc), .val (.int cd), .val (.int (x4 &&& (3 : Int32))), .val (.int nu), .val (.int rc), .unset, .unset, .unset, .unset, .unset, .unset, .unset, .unset, .unset, .unset] [(.int (c1 - (rc - r1)))]) _ _ _
        refine own_to (fun t k => XS.iload X4.here hx rfl (hb hby at_117) rfl k) ?_
        show own_Out p e below _ T4 (mkF m 119 #[.val (.int x0), .val (.int x1), .val (.int x2), .val (.int x3), .val (.int x4), .val (.int r1), .val (.int c1), .val (.int rc), .val (.int cd), .val (.int (x4 &&& (3 : Int32))), .val (.int nu), .val (.int rc), .unset, .unset, .unset, .unset, .unset, .unset, .unset, .unset, .unset, .unset] [(.int nu), (.int (c1 - (rc - r1)))]) _ _ _
        refine own_to (fun t k => XS.iadd X4.here hx rfl (hb hby at_119) rfl k) ?_
        show own_Out p e below _ T4 (mkF m 120 #[.val (.int x0), .val (.int x1), .val (.int x2), .val (.int x3), .val (.int x4), .val (.int r1), .val (.int c1), .val (.int rc), .val (.int cd), .val (.int (x4 &&& (3 : Int32))), .val (.int nu), .val (.int rc), .unset, .unset, .unset, .unset, .unset, .unset, .unset, .unset, .unset, .unset] [(.int ((c1 - (rc - r1)) + nu))]) _ _ _
        refine own_to (fun t k => XS.istore X4.here hx rfl (hb hby at_120) rfl (l' := #[.val (.int x0), .val (.int x1), .val (.int x2), .val (.int x3), .val (.int x4), .val (.int r1), .val (.int c1), .val (.int rc), .val (.int cd), .val (.int (x4 &&& (3 : Int32))), .val (.int nu), .val (.int rc), .val (.int ((c1 - (rc - r1)) + nu)), .unset, .unset, .unset, .unset, .unset, .unset, .unset, .unset, .unset]) rfl k) ?_
        exact J122 rc ((c1 - (rc - r1)) + nu) (by omega) (by have q1 := own_sb rc r1 (by omega) (by omega); have q2 := own_sb c1 (rc - r1) (by omega) (by omega); have q3 := own_ad (c1 - (rc - r1)) nu (by omega) (by omega); omega)
set_option maxRecDepth 65536 in
set_option maxHeartbeats 40000000 in
theorem comes_1 {Post : Tables → Env → Array Value → State → Outcome → State → Prop} (hpost : ∀ tb e args s v u, (limb_1_1.after args s (.returned v) u = true ∧ limb_1_2.after args s (.returned v) u = true ∧ True) → FrameEnd s (.returned v) u (Jvm.fieldLocs frame_1_writes args s ++ Jvm.arrayLocs frame_1_arrays args s ++ Jvm.staticLocs frame_1_statics s) 16 128 → Post tb e args s (.returned v) u) :
    ArmFor flags0 classFile x code maxLocals ret World_1 tables_1 room_1 Calls_1 rest_1 Pre_1 Post := by
  intro l hfl _ _ p e ha hc hk s m args below hf hA hF happ hP
  obtain ⟨hcalls, hrest, hpre⟩ := hP
  obtain ⟨-, -, -, hnamed, -, -, -, hat⟩ := (Spec.applies_iff hf).mp happ
  obtain ⟨hg, hn⟩ := and_e (Cond.before_iff.mp (show (Jvm.Cond.and given_1 narrow_1).before args s = true from hpre))
  obtain ⟨gg2, gg3⟩ := and_e hg
  obtain ⟨gg4, gg5⟩ := and_e gg3
  obtain ⟨gg6, gg7⟩ := and_e gg5
  obtain ⟨gg8, gg9⟩ := and_e gg7
  obtain ⟨gg10, gg11⟩ := and_e gg9
  obtain ⟨w0, w1, w2, w3, w4, rfl⟩ : ∃ w0 w1 w2 w3 w4 : Value, args = #[w0, w1, w2, w3, w4] := by
    have hs : args.size = 5 := by simpa [Cond.value, given_1] using gg2
    obtain ⟨L⟩ := args
    match L, hs with
    | [w0, w1, w2, w3, w4], _ => exact ⟨w0, w1, w2, w3, w4, rfl⟩
  have hw := fun d (hd : d ∈ tables_1) => atoms_spec (ws := Jvm.Cond.code x code maxLocals ret :: tables_1) hat d (List.mem_cons_of_mem _ hd)
  have hfit : Fit s := fun {y c} hc i hi => by
    obtain ⟨ha, rfl⟩ := Array.getElem?_eq_some_iff.mp hc
    have q := List.all_eq_true.mp ((Array.all_eq_true_iff_forall_mem.mp hF) _ (Array.getElem_mem ha)) i (List.mem_range.mpr hi)
    simpa [Array.getElem?_eq_getElem hi] using q
  obtain ⟨i0, ei0⟩ := is_v gg4
  obtain rfl : w0 = (.int i0) := Option.some.inj ei0
  obtain ⟨i1, ei1⟩ := is_v gg6
  obtain rfl : w1 = (.int i1) := Option.some.inj ei1
  obtain ⟨i2, ei2⟩ := is_v gg8
  obtain rfl : w2 = (.int i2) := Option.some.inj ei2
  obtain ⟨i3, ei3⟩ := is_v gg10
  obtain rfl : w3 = (.int i3) := Option.some.inj ei3
  obtain ⟨i4, ei4⟩ := is_v gg11
  obtain rfl : w4 = (.int i4) := Option.some.inj ei4
  obtain ⟨n, o, h1, h2, h3, _, L, rfl, ⟨rfl, N⟩, hq⟩ := rm0 l s _ hw i0 i1 i2 i3 i4 s.heap s.heap.size (Nat.le_refl _) tables_1 p e ha hc hk s m _ below hf ((Spec.applies_iff_loose hf).mp happ).1 ⟨rfl, State.Warmed39.refl s, rfl⟩ trivial
  refine ⟨n, _, h1, h2, h3, hpost _ _ _ _ _ _ ⟨Cond.after_iff.mpr rfl, Cond.after_iff.mpr (eq_i res_at (Term.int_eval (1)) rfl), trivial⟩ ⟨hq.1, hq.2.1, (hq.2.2.sift fun y hy => Or.inr (N y hy)).mono (by decide) (by decide)⟩⟩
theorem main_1_1 : Claimed_1_1 := comes_1 fun _ _ _ _ _ _ h hF => ⟨h.1, hF⟩
theorem main_1_2 : Claimed_1_2 := comes_1 fun _ _ _ _ _ _ h hF => ⟨h.2.1, hF⟩
end Jvm.Pilot.@@N@@
namespace Jvm.Pilot.@@N@@
open Jvm Jvm.ClassFile Sem Op Lib Jvm.Free Jvm.Stand Jvm.Pilot.@@N@@.Jvm.D
/-! MADE BY PROGRAM (witnessworld.py) out of the Statement's table words and the real class files: 10 classes; the members and pool entries that the words name. The judged class is class 1, her method 2. -/
namespace start1
open Jvm.ClassFile
def u (s : String) : CpInfo := .utf8 (stringToUtf16 s)
/-- a pool by its gaps: so many unusable entries, then the entry; so many at the end -/
def gap : Nat → List CpInfo → List CpInfo
  | 0, r => r
  | n + 1, r => .unusable :: gap n r
def poolList (es : List (Nat × CpInfo)) (last : Nat) : List CpInfo := es.foldr (fun e r => gap e.1 (e.2 :: r)) (gap last [])
def pool (es : List (Nat × CpInfo)) (last : Nat) : Array CpInfo := ⟨poolList es last⟩
def fileOf (pool : Array CpInfo) (this : Nat) (attrs : Array Attribute := #[]) (ms : Array MethodInfo := #[]) (fl : Nat := 33) (sup : Nat := 0) (ifs : Array Nat := #[]) (fds : Array FieldInfo := #[]) : ClassFile where
  minorVersion := 0
  majorVersion := 65
  constantPool := pool
  accessFlags := fl
  thisClass := this
  superClass := sup
  interfaces := ifs
  fields := fds
  methods := ms
  attributes := attrs
def plain (name : String) (sup : Option ClassId) : Class where
  name := name
  kind := .ordinary
  loader := none
  accessFlags := 33
  super := sup
  interfaces := #[]
  cf := none
  fields := #[]
  methods := #[]
  instanceTypes := #[]
  staticTypes := #[]
  resolved := #[]
  callSites := []
  init := .initialized
  statics := none
  mirror := none

def pool0 : Array CpInfo := pool [(5, u "<init>"), (0, u "()V"), (1, .class_ 10), (1, u "java/lang/Object")] 113

def k0c0 : Code := { maxStack := 0, maxLocals := 1, code := object_method_1_code, exceptionTable := #[], attributes := #[] }
def k0m0 : Method := { name := "<init>", desc := "()V", sig := { parameters := [], returnType := none }, accessFlags := 1, code := some k0c0 }
/-- java/lang/Object -/
def k0 : Class := { plain "java/lang/Object" none with
  accessFlags := 33
  interfaces := #[]
  cf := some (fileOf pool0 8 #[] #[{ accessFlags := 1, nameIndex := 5, descriptorIndex := 6, attributes := #[] }] 33 0 #[] #[])
  fields := #[]
  methods := #[k0m0]
  instanceTypes := #[]
  staticTypes := #[]
  resolved := Array.replicate 124 none
  statics := none }

def pool1 : Array CpInfo := pool [(2, .class_ 4), (1, u "java/lang/Object"), (0, u "<init>"), (0, u "()V"), (0, .integer 2147483647), (0, .integer 536870912), (0, .methodref 10 11), (0, .class_ 12), (0, .nameAndType 13 14), (0, u "com/example/queenside/queenside/SquareAttacksPinLaw"), (0, u "coord"), (0, u "(I)I"), (0, .class_ 16), (0, u "com/example/queenside/queenside/Square"), (0, .methodref 15 18), (0, .nameAndType 5 19), (0, u "(II)V"), (0, .methodref 15 21), (0, .nameAndType 22 23), (0, u "attacks"), (0, u "(Lcom/example/queenside/queenside/Square;)Z"), (2, u "law"), (0, u "(IIIII)Z")] 3

def k1m0 : Method := { name := "<init>", desc := "()V", sig := { parameters := [], returnType := none }, accessFlags := 1, code := none }
def k1c1 : Code := { maxStack := 2, maxLocals := 1, code := method_2_code, exceptionTable := #[], attributes := #[] }
def k1m1 : Method := { name := "coord", desc := "(I)I", sig := { parameters := [.int], returnType := some .int }, accessFlags := 10, code := some k1c1 }
def k1c2 : Code := { maxStack := 4, maxLocals := 22, code := code, exceptionTable := #[], attributes := #[] }
def k1m2 : Method := { name := "law", desc := "(IIIII)Z", sig := { parameters := [.int, .int, .int, .int, .int], returnType := some .boolean }, accessFlags := 9, code := some k1c2 }
/-- com/example/queenside/queenside/SquareAttacksPinLaw -/
def k1 : Class := { plain "com/example/queenside/queenside/SquareAttacksPinLaw" (some 0) with
  accessFlags := 49
  interfaces := #[]
  cf := some (fileOf pool1 10 #[] #[{ accessFlags := 1, nameIndex := 5, descriptorIndex := 6, attributes := #[] }, { accessFlags := 10, nameIndex := 13, descriptorIndex := 14, attributes := #[] }, { accessFlags := 9, nameIndex := 26, descriptorIndex := 27, attributes := #[] }] 49 2 #[] #[])
  fields := #[]
  methods := #[k1m0, k1m1, k1m2]
  instanceTypes := #[]
  staticTypes := #[]
  resolved := Array.replicate 31 none
  statics := none }

def pool2 : Array CpInfo := pool [(1, .methodref 2 3), (0, .class_ 4), (0, .nameAndType 5 6), (0, u "java/lang/Object"), (0, u "<init>"), (0, u "()V"), (0, .class_ 8), (0, u "java/lang/Record")] 13

def k2c0 : Code := { maxStack := 1, maxLocals := 1, code := jdk_30_method_1_code, exceptionTable := #[], attributes := #[] }
def k2m0 : Method := { name := "<init>", desc := "()V", sig := { parameters := [], returnType := none }, accessFlags := 4, code := some k2c0 }
/-- java/lang/Record -/
def k2 : Class := { plain "java/lang/Record" (some 0) with
  accessFlags := 1057
  interfaces := #[]
  cf := some (fileOf pool2 7 #[] #[{ accessFlags := 4, nameIndex := 5, descriptorIndex := 6, attributes := #[] }] 1057 2 #[] #[])
  fields := #[]
  methods := #[k2m0]
  instanceTypes := #[]
  staticTypes := #[]
  resolved := Array.replicate 22 none
  statics := none }

def pool3 : Array CpInfo := pool [(1, .methodref 2 3), (0, .class_ 4), (0, .nameAndType 5 6), (0, u "java/lang/Record"), (0, u "<init>"), (0, u "()V"), (0, .fieldref 8 9), (0, .class_ 10), (0, .nameAndType 11 12), (0, u "com/example/queenside/queenside/Square"), (0, u "row"), (0, u "I"), (0, .fieldref 8 14), (0, .nameAndType 15 12), (0, u "column"), (0, .methodref 8 17), (0, .nameAndType 18 19), (0, u "down"), (0, u "()I"), (0, .methodref 8 21), (0, .nameAndType 22 19), (0, u "up"), (12, u "(II)V"), (3, u "attacks"), (0, u "(Lcom/example/queenside/queenside/Square;)Z")] 33

def k3c0 : Code := { maxStack := 2, maxLocals := 3, code := prog_14_method_1_code, exceptionTable := #[], attributes := #[] }
def k3m0 : Method := { name := "<init>", desc := "(II)V", sig := { parameters := [.int, .int], returnType := none }, accessFlags := 0, code := some k3c0 }
def k3c1 : Code := { maxStack := 2, maxLocals := 2, code := prog_14_method_2_code, exceptionTable := #[], attributes := #[] }
def k3m1 : Method := { name := "attacks", desc := "(Lcom/example/queenside/queenside/Square;)Z", sig := { parameters := [(.object "com/example/queenside/queenside/Square")], returnType := some .boolean }, accessFlags := 0, code := some k3c1 }
def k3c2 : Code := { maxStack := 2, maxLocals := 1, code := prog_14_method_3_code, exceptionTable := #[], attributes := #[] }
def k3m2 : Method := { name := "down", desc := "()I", sig := { parameters := [], returnType := some .int }, accessFlags := 0, code := some k3c2 }
def k3c3 : Code := { maxStack := 2, maxLocals := 1, code := prog_14_method_4_code, exceptionTable := #[], attributes := #[] }
def k3m3 : Method := { name := "up", desc := "()I", sig := { parameters := [], returnType := some .int }, accessFlags := 0, code := some k3c3 }
/-- com/example/queenside/queenside/Square -/
def k3 : Class := { plain "com/example/queenside/queenside/Square" (some 2) with
  accessFlags := 48
  interfaces := #[]
  cf := some (fileOf pool3 8 #[] #[{ accessFlags := 0, nameIndex := 5, descriptorIndex := 35, attributes := #[] }, { accessFlags := 0, nameIndex := 39, descriptorIndex := 40, attributes := #[] }, { accessFlags := 0, nameIndex := 18, descriptorIndex := 19, attributes := #[] }, { accessFlags := 0, nameIndex := 22, descriptorIndex := 19, attributes := #[] }] 48 2 #[] #[{ accessFlags := 18, nameIndex := 11, descriptorIndex := 12, attributes := #[] }, { accessFlags := 18, nameIndex := 15, descriptorIndex := 12, attributes := #[] }])
  fields := #[{ name := "row", type := .int, accessFlags := 18, slot := 0, constantValue := 0 }, { name := "column", type := .int, accessFlags := 18, slot := 1, constantValue := 0 }]
  methods := #[k3m0, k3m1, k3m2, k3m3]
  instanceTypes := #[.int, .int]
  staticTypes := #[]
  resolved := Array.replicate 74 none
  statics := none }

def pool4 : Array CpInfo := pool [(1, u "java/lang/Cloneable"), (0, .class_ 1), (0, u "java/lang/Object"), (0, .class_ 3)] 3

/-- java/lang/Cloneable -/
def k4 : Class := { plain "java/lang/Cloneable" (some 0) with
  accessFlags := 1537
  interfaces := #[]
  cf := some (fileOf pool4 2 #[] #[] 1537 4 #[] #[])
  fields := #[]
  methods := #[]
  instanceTypes := #[]
  staticTypes := #[]
  resolved := Array.replicate 8 none
  statics := none }

def pool5 : Array CpInfo := pool [(1, u "java/io/Serializable"), (0, .class_ 1), (0, u "java/lang/Object"), (0, .class_ 3)] 3

/-- java/io/Serializable -/
def k5 : Class := { plain "java/io/Serializable" (some 0) with
  accessFlags := 1537
  interfaces := #[]
  cf := some (fileOf pool5 2 #[] #[] 1537 4 #[] #[])
  fields := #[]
  methods := #[]
  instanceTypes := #[]
  staticTypes := #[]
  resolved := Array.replicate 8 none
  statics := none }

/-- the primitive byte -/
def k6 : Class := { plain "byte" none with kind := .primitive 'B', accessFlags := 0x411 }
/-- [B -/
def k7 : Class := { plain "[B" (some 0) with kind := .array 6 .byte, interfaces := #[4, 5], accessFlags := 1041 }

/-- the primitive int -/
def k8 : Class := { plain "int" none with kind := .primitive 'I', accessFlags := 0x411 }
/-- [I -/
def k9 : Class := { plain "[I" (some 0) with kind := .array 8 .int, interfaces := #[4, 5], accessFlags := 1041 }

def heap : Heap := #[]
def classes : Array Class := #[k0, k1, k2, k3, k4, k5, k6, k7, k8, k9]
def interned : List (Array UInt16 × Addr) := []
def slotsUsed : Nat := 0
def theMethod : MethodId := ⟨1, 2⟩
def args0 : Array Value := #[.int 5, .int 65, .int 1, .int 2, .int 3]
def aboutOver (below : List Frame) : State where
  vm := { classes := classes, interned := interned.toArray }
  heap := heap
  slotsUsed := slotsUsed
  threads := #[{ frames := .invoking theMethod args0 :: below }]
def below0 : List Frame := [.native { method := ⟨0, 0⟩, args := #[] }]
def about1 : State := aboutOver below0
def p0 : Program := .bare "" "" ""
def e0 : Env := launch0.env 0 0 0
theorem w_frames : about1.frames = Frame.invoking theMethod args0 :: below0 := rfl
set_option maxRecDepth 65536 in
theorem w_args : argsFit about1.vm theMethod args0 = true := by decide +kernel
set_option maxRecDepth 65536 in
theorem w_heap : heapFits about1 = true := by decide +kernel
set_option maxRecDepth 65536 in
theorem w_runnable : about1.curStatus? = some .runnable := by decide +kernel
set_option maxRecDepth 65536 in
theorem w_alone : about1.alone = true := by decide +kernel
set_option maxRecDepth 65536 in
theorem w_named : about1.methodNamed? x = some theMethod := by decide +kernel
set_option maxRecDepth 65536 in
theorem w_hears : about1.hears theMethod below0 = true := by decide +kernel
set_option maxRecDepth 65536 in
theorem w_ripe : about1.ripe theMethod args0 below0 = true := by decide +kernel
theorem w_running : about1.status = .running := rfl
set_option maxRecDepth 65536 in
theorem w_room : about1.hasRoom e0.platform room_1 = true :=
  launch0.hasRoom_least _ room_1 (by decide +kernel) (by decide +kernel) (by decide +kernel) (by decide +kernel) (by decide +kernel) (by decide +kernel)
theorem allAtoms_all (ts : List Jvm.Cond) (a : Array Jvm.Value) (st : Jvm.State) : (allAtoms ts).before a st = ts.all (fun c => c.before a st) := by
  induction ts with
  | nil => rfl
  | cons c t ih =>
    show (Jvm.Cond.and c (allAtoms t)).before a st = _
    rw [Jvm.Cond.before_and, ih, List.all_cons]
def words1 : List Jvm.Cond := Jvm.Cond.code x code maxLocals ret :: tables_1
/-- a 'code' word, met by the world's own term for the bytes: nothing is compared byte by byte -/
theorem code_word {y : MethodName} {bytes : ByteArray} {mx : Nat} {rt : Option FieldType} {a : Array Value} {s : State} {m : MethodId} {meth : Method} {c : Code} (h1 : s.methodNamed? y = some m) (h2 : s.vm.method? m = some meth) (h3 : meth.code = some c) (h4 : c.code = bytes)
    (h5 : (c.maxLocals == mx && c.exceptionTable.isEmpty && decide (c.maxStack ≤ mostOperands) && decide (meth.sig.returnType = rt) && !meth.locks && decide (parseMethodDescriptor y.desc = some meth.sig)) = true) : (Jvm.Cond.code y bytes mx rt).before a s = true := by
  simp only [Bool.and_eq_true, beq_iff_eq, Bool.not_eq_true', decide_eq_true_eq] at h5
  obtain ⟨⟨⟨⟨⟨g1, g2⟩, g3⟩, g4⟩, g5⟩, g6⟩ := h5
  simp [Cond.before, Cond.holds, Cond.value, h1, h2, h3, h4, g1, g2, g3, g4, g5, g6]
def isCode : Jvm.Cond → Bool
  | .code _ _ _ _ => true
  | _ => false
theorem all_split {L : List Jvm.Cond} {P : Jvm.Cond → Bool} (h1 : L.all (fun c => isCode c || P c) = true) (h2 : ∀ c ∈ L.filter isCode, P c = true) : L.all P = true := by
  refine List.all_eq_true.mpr fun c hc => ?_
  have h := List.all_eq_true.mp h1 c hc
  rcases Bool.eq_false_or_eq_true (isCode c) with hi | hi
  · exact h2 c (List.mem_filter.mpr ⟨hc, hi⟩)
  · simpa [hi] using h
set_option maxRecDepth 65536 in
theorem w_c0 : (Jvm.Cond.code x code maxLocals ret).before args0 about1 = true := code_word (m := ⟨1, 2⟩) (meth := k1m2) (c := k1c2) (by decide +kernel) rfl rfl rfl (by decide +kernel)
set_option maxRecDepth 65536 in
theorem w_c1 : (Jvm.Cond.code ({ cls := "com/example/queenside/queenside/SquareAttacksPinLaw", name := "coord", desc := "(I)I" } : Jvm.MethodName) method_2_code (1 : Nat) (Option.some Jvm.ClassFile.FieldType.int)).before args0 about1 = true := code_word (m := ⟨1, 1⟩) (meth := k1m1) (c := k1c1) (by decide +kernel) rfl rfl rfl (by decide +kernel)
set_option maxRecDepth 65536 in
theorem w_c2 : (Jvm.Cond.code ({ cls := "com/example/queenside/queenside/Square", name := "<init>", desc := "(II)V" } : Jvm.MethodName) prog_14_method_1_code (3 : Nat) (Option.none : Option Jvm.ClassFile.FieldType)).before args0 about1 = true := code_word (m := ⟨3, 0⟩) (meth := k3m0) (c := k3c0) (by decide +kernel) rfl rfl rfl (by decide +kernel)
set_option maxRecDepth 65536 in
theorem w_c3 : (Jvm.Cond.code ({ cls := "java/lang/Record", name := "<init>", desc := "()V" } : Jvm.MethodName) jdk_30_method_1_code (1 : Nat) (Option.none : Option Jvm.ClassFile.FieldType)).before args0 about1 = true := code_word (m := ⟨2, 0⟩) (meth := k2m0) (c := k2c0) (by decide +kernel) rfl rfl rfl (by decide +kernel)
set_option maxRecDepth 65536 in
theorem w_c4 : (Jvm.Cond.code ({ cls := "java/lang/Object", name := "<init>", desc := "()V" } : Jvm.MethodName) object_method_1_code (1 : Nat) (Option.none : Option Jvm.ClassFile.FieldType)).before args0 about1 = true := code_word (m := ⟨0, 0⟩) (meth := k0m0) (c := k0c0) (by decide +kernel) rfl rfl rfl (by decide +kernel)
set_option maxRecDepth 65536 in
theorem w_c5 : (Jvm.Cond.code ({ cls := "com/example/queenside/queenside/Square", name := "attacks", desc := "(Lcom/example/queenside/queenside/Square;)Z" } : Jvm.MethodName) prog_14_method_2_code (2 : Nat) (Option.some Jvm.ClassFile.FieldType.boolean)).before args0 about1 = true := code_word (m := ⟨3, 1⟩) (meth := k3m1) (c := k3c1) (by decide +kernel) rfl rfl rfl (by decide +kernel)
set_option maxRecDepth 65536 in
theorem w_c6 : (Jvm.Cond.code ({ cls := "com/example/queenside/queenside/Square", name := "down", desc := "()I" } : Jvm.MethodName) prog_14_method_3_code (1 : Nat) (Option.some Jvm.ClassFile.FieldType.int)).before args0 about1 = true := code_word (m := ⟨3, 2⟩) (meth := k3m2) (c := k3c2) (by decide +kernel) rfl rfl rfl (by decide +kernel)
set_option maxRecDepth 65536 in
theorem w_c7 : (Jvm.Cond.code ({ cls := "com/example/queenside/queenside/Square", name := "up", desc := "()I" } : Jvm.MethodName) prog_14_method_4_code (1 : Nat) (Option.some Jvm.ClassFile.FieldType.int)).before args0 about1 = true := code_word (m := ⟨3, 3⟩) (meth := k3m3) (c := k3c3) (by decide +kernel) rfl rfl rfl (by decide +kernel)
def codes1 : List Jvm.Cond := [Jvm.Cond.code x code maxLocals ret, Jvm.Cond.code ({ cls := "com/example/queenside/queenside/SquareAttacksPinLaw", name := "coord", desc := "(I)I" } : Jvm.MethodName) method_2_code (1 : Nat) (Option.some Jvm.ClassFile.FieldType.int), Jvm.Cond.code ({ cls := "com/example/queenside/queenside/Square", name := "<init>", desc := "(II)V" } : Jvm.MethodName) prog_14_method_1_code (3 : Nat) (Option.none : Option Jvm.ClassFile.FieldType), Jvm.Cond.code ({ cls := "java/lang/Record", name := "<init>", desc := "()V" } : Jvm.MethodName) jdk_30_method_1_code (1 : Nat) (Option.none : Option Jvm.ClassFile.FieldType), Jvm.Cond.code ({ cls := "java/lang/Object", name := "<init>", desc := "()V" } : Jvm.MethodName) object_method_1_code (1 : Nat) (Option.none : Option Jvm.ClassFile.FieldType), Jvm.Cond.code ({ cls := "com/example/queenside/queenside/Square", name := "attacks", desc := "(Lcom/example/queenside/queenside/Square;)Z" } : Jvm.MethodName) prog_14_method_2_code (2 : Nat) (Option.some Jvm.ClassFile.FieldType.boolean), Jvm.Cond.code ({ cls := "com/example/queenside/queenside/Square", name := "down", desc := "()I" } : Jvm.MethodName) prog_14_method_3_code (1 : Nat) (Option.some Jvm.ClassFile.FieldType.int), Jvm.Cond.code ({ cls := "com/example/queenside/queenside/Square", name := "up", desc := "()I" } : Jvm.MethodName) prog_14_method_4_code (1 : Nat) (Option.some Jvm.ClassFile.FieldType.int)]
set_option maxRecDepth 65536 in
theorem codes_eq : words1.filter isCode = codes1 := rfl
theorem w_codes : ∀ c ∈ words1.filter isCode, c.before args0 about1 = true := by
  rw [codes_eq]
  intro c hc
  simp only [codes1, List.mem_cons, List.not_mem_nil, or_false] at hc
  rcases hc with rfl | rfl | rfl | rfl | rfl | rfl | rfl | rfl
  · exact w_c0
  · exact w_c1
  · exact w_c2
  · exact w_c3
  · exact w_c4
  · exact w_c5
  · exact w_c6
  · exact w_c7
set_option maxRecDepth 65536 in
theorem w_t1 : (words1.take 24).all (fun c => isCode c || c.before args0 about1) = true := by decide +kernel
set_option maxRecDepth 65536 in
theorem w_t2 : (words1.drop 24).all (fun c => isCode c || c.before args0 about1) = true := by decide +kernel
theorem w_tables : (allAtoms (Jvm.Cond.code x code maxLocals ret :: tables_1)).before args0 about1 = true := by
  rw [allAtoms_all]
  show words1.all (fun c => c.before args0 about1) = true
  refine all_split ?_ w_codes
  rw [← List.take_append_drop 24 words1, List.all_append, w_t1, w_t2]
  rfl
set_option maxRecDepth 65536 in
theorem w_case : (Jvm.Cond.and given_1 narrow_1).before args0 about1 = true := by decide +kernel
theorem w_applies : (headSpec (Jvm.Cond.code x code maxLocals ret :: tables_1) room_1).applies x e0.platform about1 = true :=
  (Spec.applies_iff w_frames).mpr ⟨w_running, w_runnable, w_alone, w_named, w_hears, w_ripe, w_room, w_tables⟩
theorem atStart : AtStart classFile x code maxLocals ret World_1 tables_1 room_1 Calls_1 rest_1 Pre_1 launch0 p0 e0 about1 theMethod args0 below0 :=
  ⟨lists_1, trivial, launch0.admits_env _ _ _, launch0.least_env, fairChoices_fair.cas, fairChoices_fair.clock, w_frames, w_args, w_heap, w_applies, trivial, trivial, w_case⟩
end start1
theorem witness_1 : WitnessClaimed_1 := ⟨start1.p0, start1.e0, start1.about1, start1.theMethod, start1.args0, start1.below0, start1.atStart⟩
end Jvm.Pilot.@@N@@
