import JvmDerived
import JvmDerived.Pilot.@@N@@Statement
import JvmDerived.Pilot.@@N@@Code
set_option linter.unusedVariables false
set_option linter.unusedSimpArgs false
namespace Jvm.Pilot.@@N@@
open Jvm Jvm.ClassFile Sem Op Lib Jvm.Free Jvm.Stand Jvm.LawKit Jvm.RoadKit Bundle Jvm.Pilot.@@N@@.Jvm.D
/-! ### own kit: a walk as one chain, from a place of the run to the method's end -/
/-- from A the run comes to an end of which P holds -/
def own_E (p : Program) (e : Env) (below : List Frame) (P : Outcome → State → Prop) (A : State) : Prop :=
  ∃ s₂ o, Steps p.tables e below A s₂ ∧ s₂.status = .running ∧ Ended s₂ below o ∧ P o s₂
/-- what a contract says at the end -/
def own_P (Q : Option Value → Heap → List Loc → Prop) (s : State) (C S : Nat) : Outcome → State → Prop :=
  fun o U => ∃ v L, o = .returned v ∧ Q v U.heap L ∧ FrameEnd s o U L C S
/-- a contract: called with these arguments over the heap h, the body returns, and Q tells what and what is written -/
def own_Con (l : Launch) (Z : State) (y : MethodName) (bytes : ByteArray) (maxL : Nat) (ret : Option FieldType) (ws : List Jvm.Cond) (rm : Room) (as : Array Value) (h : Heap) (Q : Option Value → Heap → List Loc → Prop) : Prop :=
  MetFree l y (head1 (Jvm.Cond.code y bytes maxL ret :: ws) rm) (fun a U => a = as ∧ Z.Warmed39 U.vm ∧ U.heap = h) (fun _ _ _ _ _ => True) (fun _ U o U' => ∃ v L, o = .returned v ∧ Q v U'.heap L ∧ FrameEnd U o U' L rm.cells rm.slots)
theorem own_w {Z : State} {a0 : Array Value} (hw : ∀ d ∈ tables_1, d.before a0 Z = true) (i : Nat) {d : Jvm.Cond} (q : tables_1[i]? = some d) : d.before a0 Z = true := hw d (List.mem_of_getElem? q)
section Own
variable {p : Program} {l : Launch} {e : Env} {R : Room} {s : State} {m : MethodId} {args : Array Value} {below : List Frame} {meth : Method} {c : Code} {T : State} {locs : List Loc} {cells slots : Nat} {Z : State} {a0 : Array Value} {h h' : Heap} {P : Outcome → State → Prop} {A B : State} {Q : Option Value → Heap → List Loc → Prop}
theorem own_s (st : ∀ t, Steps p.tables e below B t → Steps p.tables e below A t) (k : own_E p e below P B) : own_E p e below P A := by
  obtain ⟨s2, o, h1, h2⟩ := k; exact ⟨s2, o, st _ h1, h2⟩
theorem own_g {g : JFrame} (g' : JFrame) (st : ∀ t, Steps p.tables e below (T.setTop g') t → Steps p.tables e below (T.setTop g) t) (k : own_E p e below P (T.setTop g')) : own_E p e below P (T.setTop g) := own_s st k
theorem own_t (st : Steps p.tables e below A B) (k : own_E p e below P B) : own_E p e below P A := by
  obtain ⟨s2, o, h1, h2⟩ := k; exact ⟨s2, o, st.trans h1, h2⟩
theorem own_enter {y : MethodName} {bytes : ByteArray} {maxL : Nat} {ret : Option FieldType} {ws : List Jvm.Cond} {rm : Room} {as : Array Value} (hpl : plainFor y = true)
    (body : ∀ (p : Program) (e : Env) (s : State) (m : MethodId) (below : List Frame) (meth : Method) (c : Code) (s₁ : State), Stand p l e rm s m as below meth c s₁ [] 0 0 → s₁.heap = h → p.tables.exec = Jvm.exec → Z.Warmed39 s.vm → c.code = bytes → c.maxLocals = maxL → s.vm.findClass y.cls = some m.cls → meth.name = y.name → meth.sig.returnType = ret → meth.locks = false →
      own_E p e below (own_P Q s rm.cells rm.slots) (s₁.setTop (entryFrame m as maxL))) : own_Con l Z y bytes maxL ret ws rm as h Q := by
  refine MetFree.of_bodySF hpl hisR ?_
  intro p e s m args below meth c s₁ Bd hml hP hK
  obtain ⟨rfl, hZ, hh⟩ := hP
  have X0 : Stand p l e rm s m args below meth c s₁ [] 0 0 := Stand.of_body Bd
  have e0 : s₁.heap = h := by rw [← hh, Bd.state]; rfl
  exact body p e s m below meth c s₁ X0 e0 Bd.exec hZ Bd.bytes hml (findClass_of_methodNamed Bd.named) (name_of_methodNamed Bd.named Bd.method).1 Bd.returns Bd.notSynchronized
theorem own_cast {g g' : JFrame} (q : g = g') (k : own_E p e below P (T.setTop g')) : own_E p e below P (T.setTop g) := q ▸ k
/-! returns -/
theorem own_retZ (X : Stand p l e R s m args below meth c T locs cells slots) (hx : p.tables.exec = Jvm.exec) (hret : meth.sig.returnType = some .boolean) (hlk : meth.locks = false) {pc : Nat} {Ls : Array Slot} {z : Int32} {C S : Nat} {rest : List Value} (hd : decode c.code pc = .ok (.ireturn, 1)) (hz : nar .boolean z = z) (hc : cells ≤ C) (hs : slots ≤ S) (hQ : Q (some (.int z)) T.heap locs) :
    own_E p e below (own_P Q s C S) (T.setTop (mkF m pc Ls (.int z :: rest))) := by
  obtain ⟨fs, hr, hrun, hended, hW, hsame⟩ := X.leave (v := some (.int z)) (fun q => by rw [hret] at q; cases q) hlk
  exact ⟨_, _, retN X hx (t := .boolean) hret (by simp) hd (by rw [hz]; exact hr), hrun, hended, _, _, rfl, hQ, ⟨_, rfl⟩, hW, hsame.mono hc hs⟩
theorem own_retI (X : Stand p l e R s m args below meth c T locs cells slots) (hx : p.tables.exec = Jvm.exec) (hret : meth.sig.returnType = some .int) (hlk : meth.locks = false) {pc : Nat} {Ls : Array Slot} {z : Int32} {C S : Nat} (hd : decode c.code pc = .ok (.ireturn, 1)) (hc : cells ≤ C) (hs : slots ≤ S) (hQ : Q (some (.int z)) T.heap locs) :
    own_E p e below (own_P Q s C S) (T.setTop (mkF m pc Ls [.int z])) := by
  obtain ⟨fs, hr, hrun, hended, hW, hsame⟩ := X.leave (v := some (.int z)) (fun q => by rw [hret] at q; cases q) hlk
  exact ⟨_, _, X.ireturnOut hx hret rfl (Or.inl rfl) hd hr, hrun, hended, _, _, rfl, hQ, ⟨_, rfl⟩, hW, hsame.mono hc hs⟩
theorem own_retJ (X : Stand p l e R s m args below meth c T locs cells slots) (hx : p.tables.exec = Jvm.exec) (hret : meth.sig.returnType = some .long) (hlk : meth.locks = false) {pc : Nat} {Ls : Array Slot} {z : Int64} {C S : Nat} (hd : decode c.code pc = .ok (.lreturn, 1)) (hc : cells ≤ C) (hs : slots ≤ S) (hQ : Q (some (.long z)) T.heap locs) :
    own_E p e below (own_P Q s C S) (T.setTop (mkF m pc Ls [.long z])) := by
  obtain ⟨fs, hr, hrun, hended, hW, hsame⟩ := X.leave (v := some (.long z)) (fun q => by rw [hret] at q; cases q) hlk
  exact ⟨_, _, X.lreturnOut hx hret hd hr, hrun, hended, _, _, rfl, hQ, ⟨_, rfl⟩, hW, hsame.mono hc hs⟩
theorem own_retA (X : Stand p l e R s m args below meth c T locs cells slots) (hx : p.tables.exec = Jvm.exec) {t : FieldType} (ht : t.isReference = true) (hret : meth.sig.returnType = some t) (hlk : meth.locks = false) {pc : Nat} {Ls : Array Slot} {a : Addr} {C S : Nat} (hd : decode c.code pc = .ok (.areturn, 1)) (hc : cells ≤ C) (hs : slots ≤ S) (hQ : Q (some (.ref a)) T.heap locs) :
    own_E p e below (own_P Q s C S) (T.setTop (mkF m pc Ls [.ref a])) := by
  obtain ⟨fs, hr, hrun, hended, hW, hsame⟩ := X.leave (v := some (.ref a)) (fun q => by rw [hret] at q; cases q) hlk
  exact ⟨_, _, X.areturnOut hx (w := .ref a) rfl hret ht hd hr, hrun, hended, _, _, rfl, hQ, ⟨_, rfl⟩, hW, hsame.mono hc hs⟩
theorem own_retV (X : Stand p l e R s m args below meth c T locs cells slots) (hx : p.tables.exec = Jvm.exec) (hret : meth.sig.returnType = none) (hlk : meth.locks = false) {pc : Nat} {Ls : Array Slot} {C S : Nat} (hd : decode c.code pc = .ok (.return_, 1)) (hc : cells ≤ C) (hs : slots ≤ S) (hQ : Q none T.heap locs) :
    own_E p e below (own_P Q s C S) (T.setTop (mkF m pc Ls [])) := by
  obtain ⟨fs, hr, hrun, hended, hW, hsame⟩ := X.leave (v := none) (fun _ => rfl) hlk
  exact ⟨_, _, X.returnOut hx hret hd hr, hrun, hended, _, _, rfl, hQ, ⟨_, rfl⟩, hW, hsame.mono hc hs⟩
/-! calls by a contract -/
theorem own_callS {y : MethodName} {bytes : ByteArray} {maxL : Nat} {ret : Option FieldType} {rm : Room} {own : String} {index : Nat} {as : List Value} (X : Stand p l e R s m args below meth c T locs cells slots) (hx : p.tables.exec = Jvm.exec) (hZ : Z.Warmed39 s.vm) (hown : s.vm.findClass own = some m.cls) (hT : T.heap = h) (hM : own_Con l Z y bytes maxL ret [] rm as.toArray h Q)
    (w1 : (Jvm.Cond.methodLink own index y).before a0 Z = true) (w2 : (Jvm.Cond.static y).before a0 Z = true) (w3 : (Jvm.Cond.initialized y.cls).before a0 Z = true) (w4 : (Jvm.Cond.code y bytes maxL ret).before a0 Z = true) (hy : y.cls ≠ "java/lang/invoke/MethodHandle" ∧ y.cls ≠ "java/lang/invoke/VarHandle") {ps : List FieldType} {r : Option FieldType} (hpd : parseMethodDescriptor y.desc = some ⟨ps, r⟩) (hlen : as.length = ps.length)
    {pc : Nat} {Ls : Array Slot} {st rest : List Value} (hml : Ls.size = c.maxLocals) (hst : st = as.reverse ++ rest) (hd : decode c.code pc = .ok (.invokestatic index, 3)) (W : Nat) (hW : 2 * 0 + (rest.map fun v => v.category).sum ≤ W) (hf : rm.frames + 1 ≤ R.frames) (hl : W + (maxL + 11) + rm.locals ≤ R.locals) (hc : cells + rm.cells ≤ R.cells) (hs : slots + rm.slots ≤ R.slots)
    (k : ∀ (v : Option Value) (T' : State) (L : List Loc), Stand p l e R s m args below meth c T' (locs ++ L) (cells + rm.cells) (slots + rm.slots) → Q v T'.heap L → own_E p e below P (T'.setTop (mkF m (pc + 3) Ls (v.toList ++ rest)))) :
    own_E p e below P (T.setTop (mkF m pc Ls st)) := by
  obtain ⟨v, _, ⟨T', L', k', n'⟩, -, X', ⟨L, hQ, h1, h2, h3⟩, stp⟩ := Jvm.LawKit.callS X hx hown (mvT hZ w1) (mvT hZ w2) (mvT hZ w3) (mvT hZ w4) hy (backOf (W := W) hM hZ w4 w3 hf hl) (g := mkF m pc Ls st) rfl hml (argsL := as) (rest := rest) (lenOf hpd hlen) hst hW hd (fun _ _ => ⟨rfl, hT, hc, hs⟩)
  dsimp only [Pt.U, Pt.locs, Pt.cells, Pt.slots] at X' h1 h2 h3 stp hQ
  subst h1 h2 h3
  exact own_s stp (k v T' L X' hQ)
theorem own_callI {y : MethodName} {bytes : ByteArray} {maxL : Nat} {rm : Room} {own : String} {index : Nat} {a : Addr} {as : List Value} (X : Stand p l e R s m args below meth c T locs cells slots) (hx : p.tables.exec = Jvm.exec) (hZ : Z.Warmed39 s.vm) (hown : s.vm.findClass own = some m.cls) (hT : T.heap = h) (hM : own_Con l Z y bytes maxL none [] rm (.ref a :: as).toArray h Q) (hy1 : y.name = "<init>")
    (w1 : (Jvm.Cond.methodLink own index y).before a0 Z = true) (w2 : (Jvm.Cond.instanceMethod y).before a0 Z = true) (w3 : (Jvm.Cond.initialized y.cls).before a0 Z = true) (w4 : (Jvm.Cond.code y bytes maxL none).before a0 Z = true) (hy : y.cls ≠ "java/lang/invoke/MethodHandle" ∧ y.cls ≠ "java/lang/invoke/VarHandle") {ps : List FieldType} {r : Option FieldType} (hpd : parseMethodDescriptor y.desc = some ⟨ps, r⟩) (hlen : as.length = ps.length)
    {pc : Nat} {Ls : Array Slot} {st rest : List Value} (hml : Ls.size = c.maxLocals) (hst : st = as.reverse ++ .ref a :: rest) (hd : decode c.code pc = .ok (.invokespecial index, 3)) (W : Nat) (hW : 2 * 0 + (rest.map fun v => v.category).sum ≤ W) (hf : rm.frames + 1 ≤ R.frames) (hl : W + (maxL + 11) + rm.locals ≤ R.locals) (hc : cells + rm.cells ≤ R.cells) (hs : slots + rm.slots ≤ R.slots)
    (k : ∀ (v : Option Value) (T' : State) (L : List Loc), Stand p l e R s m args below meth c T' (locs ++ L) (cells + rm.cells) (slots + rm.slots) → Q v T'.heap L → own_E p e below P (T'.setTop (mkF m (pc + 3) Ls (v.toList ++ rest)))) :
    own_E p e below P (T.setTop (mkF m pc Ls st)) := by
  obtain ⟨v, _, ⟨T', L', k', n'⟩, -, X', ⟨L, hQ, h1, h2, h3⟩, stp⟩ := X.specialBack hx hy1 hown (mvT hZ w1) (mvT hZ w2) (mvT hZ w4) hy (backOf (W := W) hM hZ w4 w3 hf hl) (g := mkF m pc Ls st) rfl hml (Steps.refl _) (a := a) (argsL := as) (rest := rest) (lenOf hpd hlen) hst hW hd (fun _ _ => ⟨rfl, hT, hc, hs⟩)
  dsimp only [Pt.U, Pt.locs, Pt.cells, Pt.slots] at X' h1 h2 h3 stp hQ
  subst h1 h2 h3
  exact own_t stp (k v T' L X' hQ)
theorem own_callV {y : MethodName} {bytes : ByteArray} {maxL : Nat} {ret : Option FieldType} {rm : Room} {own : String} {index : Nat} {a : Addr} {as : List Value} (X : Stand p l e R s m args below meth c T locs cells slots) (hx : p.tables.exec = Jvm.exec) (hZ : Z.Warmed39 s.vm) (hown : s.vm.findClass own = some m.cls) (hT : T.heap = h) (hM : own_Con l Z y bytes maxL ret [] rm (.ref a :: as).toArray h Q) (hE : Exa Z h a y.cls)
    (w1 : (Jvm.Cond.methodLink own index y).before a0 Z = true) (w2 : (Jvm.Cond.declares y).before a0 Z = true) (w5 : (Jvm.Cond.selects y.cls y y).before a0 Z = true) (w6 : (Jvm.Cond.instanceMethod y).before a0 Z = true) (w3 : (Jvm.Cond.initialized y.cls).before a0 Z = true) (w4 : (Jvm.Cond.code y bytes maxL ret).before a0 Z = true) (hy : y.cls ≠ "java/lang/invoke/MethodHandle" ∧ y.cls ≠ "java/lang/invoke/VarHandle") {ps : List FieldType} {r : Option FieldType} (hpd : parseMethodDescriptor y.desc = some ⟨ps, r⟩) (hlen : as.length = ps.length)
    {pc : Nat} {Ls : Array Slot} {st rest : List Value} (hml : Ls.size = c.maxLocals) (hst : st = as.reverse ++ .ref a :: rest) (hd : decode c.code pc = .ok (.invokevirtual index, 3)) (W : Nat) (hW : 2 * 0 + (rest.map fun v => v.category).sum ≤ W) (hf : rm.frames + 1 ≤ R.frames) (hl : W + (maxL + 11) + rm.locals ≤ R.locals) (hc : cells + rm.cells ≤ R.cells) (hs : slots + rm.slots ≤ R.slots)
    (k : ∀ (v : Option Value) (T' : State) (L : List Loc), Stand p l e R s m args below meth c T' (locs ++ L) (cells + rm.cells) (slots + rm.slots) → Q v T'.heap L → own_E p e below P (T'.setTop (mkF m (pc + 3) Ls (v.toList ++ rest)))) :
    own_E p e below P (T.setTop (mkF m pc Ls st)) := by
  obtain ⟨cq, kq, qa, qb, qc⟩ := isOf hZ hT hE
  obtain ⟨v, _, ⟨T', L', k', n'⟩, -, X', ⟨L, hQ, h1, h2, h3⟩, stp⟩ := X.virtualBack hx hown (mvT hZ w1) (mvT hZ w2) (notFace_of_selects (args := #[]) (mvT hZ w5)) (mvT hZ w5) (mvT hZ w6) hy (backOf (W := W) hM hZ w4 w3 hf hl) qa qc (g := mkF m pc Ls st) rfl hml (Steps.refl _) (argsL := as) (rest := rest) (lenOf hpd hlen) hst hW hd (fun _ _ => ⟨rfl, hT, hc, hs⟩)
  dsimp only [Pt.U, Pt.locs, Pt.cells, Pt.slots] at X' h1 h2 h3 stp hQ
  subst h1 h2 h3
  exact own_t stp (k v T' L X' hQ)
theorem own_callP {y : MethodName} {bytes : ByteArray} {maxL : Nat} {ret : Option FieldType} {rm : Room} {own : String} {index kn : Nat} {a : Addr} {as : List Value} (X : Stand p l e R s m args below meth c T locs cells slots) (hx : p.tables.exec = Jvm.exec) (hZ : Z.Warmed39 s.vm) (hown : s.vm.findClass own = some m.cls) (hT : T.heap = h) (hM : own_Con l Z y bytes maxL ret [] rm (.ref a :: as).toArray h Q) (hE : Exa Z h a y.cls)
    (w1 : (Jvm.Cond.methodLink own index y).before a0 Z = true) (w2 : (Jvm.Cond.instantiable y.cls kn).before a0 Z = true) (w5 : (Jvm.Cond.privateMethod y).before a0 Z = true) (w6 : (Jvm.Cond.instanceMethod y).before a0 Z = true) (w3 : (Jvm.Cond.initialized y.cls).before a0 Z = true) (w4 : (Jvm.Cond.code y bytes maxL ret).before a0 Z = true) (hy : y.cls ≠ "java/lang/invoke/MethodHandle" ∧ y.cls ≠ "java/lang/invoke/VarHandle") {ps : List FieldType} {r : Option FieldType} (hpd : parseMethodDescriptor y.desc = some ⟨ps, r⟩) (hlen : as.length = ps.length)
    {pc : Nat} {Ls : Array Slot} {st rest : List Value} (hml : Ls.size = c.maxLocals) (hst : st = as.reverse ++ .ref a :: rest) (hd : decode c.code pc = .ok (.invokevirtual index, 3)) (W : Nat) (hW : 2 * 0 + (rest.map fun v => v.category).sum ≤ W) (hf : rm.frames + 1 ≤ R.frames) (hl : W + (maxL + 11) + rm.locals ≤ R.locals) (hc : cells + rm.cells ≤ R.cells) (hs : slots + rm.slots ≤ R.slots)
    (k : ∀ (v : Option Value) (T' : State) (L : List Loc), Stand p l e R s m args below meth c T' (locs ++ L) (cells + rm.cells) (slots + rm.slots) → Q v T'.heap L → own_E p e below P (T'.setTop (mkF m (pc + 3) Ls (v.toList ++ rest)))) :
    own_E p e below P (T.setTop (mkF m pc Ls st)) := by
  obtain ⟨cq, hq, hq'⟩ := hE.cell
  have hi : (Jvm.Cond.instantiable y.cls kn).before args s = true := mvT hZ w2
  obtain ⟨ck, kk, hck, hkk, -, hniab, -, -⟩ := Cond.instantiable_spec hi
  have hpriv : s.PrivateAt y := Cond.privateMethod_at (mvP hZ w5 (args := #[]))
  have hins : (Jvm.Cond.instanceMethod y).before args s = true := mvT hZ w6
  have hsel : (Jvm.Cond.selects y.cls y y).before args s = true := selects_self_of_private hck hkk (Bool.or_eq_false_iff.mp hniab).1 hpriv hins hy
  obtain ⟨v, _, ⟨T', L', k', n'⟩, -, X', ⟨L, hQ, h1, h2, h3⟩, stp⟩ := X.privateBack hx hown (mvT hZ w1) hins hsel hpriv (mvT hZ w4) hy (backOf (W := W) hM hZ w4 w3 hf hl) (g := mkF m pc Ls st) rfl hml (Steps.refl _) (a := a) (cell := cq) (by rw [hT]; exact hq) hq' (argsL := as) (rest := rest) (lenOf hpd hlen) hst hW hd (fun _ _ => ⟨rfl, hT, hc, hs⟩)
  dsimp only [Pt.U, Pt.locs, Pt.cells, Pt.slots] at X' h1 h2 h3 stp hQ
  subst h1 h2 h3
  exact own_t stp (k v T' L X' hQ)
/-! arrays: a length and a function from places to values -/
def own_IA (Z : State) (h : Heap) (a : Addr) (ty : FieldType) (n : Nat) (f : Nat → Int32) : Prop := ∃ cl : Cell, Arr Z h a cl ty ∧ cl.slots.size = n ∧ ∀ i, i < n → cl.slots[i]? = some (.int (f i))
def own_JA (Z : State) (h : Heap) (a : Addr) (n : Nat) (f : Nat → Int64) : Prop := ∃ cl : Cell, Arr Z h a cl .long ∧ cl.slots.size = n ∧ ∀ i, i < n → cl.slots[i]? = some (.long (f i))
def own_set {α : Type} (f : Nat → α) (i : Nat) (v : α) : Nat → α := fun q => if q = i then v else f q
theorem own_set_same {α : Type} (f : Nat → α) (i : Nat) (v : α) : own_set f i v i = v := by simp [own_set]
theorem own_set_other {α : Type} (f : Nat → α) {i q : Nat} (v : α) (hq : q ≠ i) : own_set f i v q = f q := by simp [own_set, hq]
variable {a b : Addr} {ty : FieldType} {n : Nat} {f : Nat → Int32} {fJ : Nat → Int64} {ws : List Addr} {sl : Nat} {v : Value}
theorem own_IA.lt (F : own_IA Z h a ty n f) : a < h.size := by obtain ⟨cl, A, -⟩ := F; exact A.lt
theorem own_JA.lt (F : own_JA Z h a n fJ) : a < h.size := by obtain ⟨cl, A, -⟩ := F; exact A.lt
theorem own_IA.ext (F : own_IA Z h a ty n f) (E : Ext h h') : own_IA Z h' a ty n f := by obtain ⟨cl, A, r⟩ := F; exact ⟨cl, A.ext E, r⟩
theorem own_JA.ext (F : own_JA Z h a n fJ) (E : Ext h h') : own_JA Z h' a n fJ := by obtain ⟨cl, A, r⟩ := F; exact ⟨cl, A.ext E, r⟩
theorem own_IA.other (F : own_IA Z h b ty n f) (W : Wr h h' a sl v) (q : b ≠ a) : own_IA Z h' b ty n f := by obtain ⟨cl, A, r⟩ := F; exact ⟨cl, A.other W q, r⟩
theorem own_JA.other (F : own_JA Z h b n fJ) (W : Wr h h' a sl v) (q : b ≠ a) : own_JA Z h' b n fJ := by obtain ⟨cl, A, r⟩ := F; exact ⟨cl, A.other W q, r⟩
theorem own_IA.keep (F : own_IA Z h a ty n f) (K : Keep h h' ws) (q : a ∉ ws) : own_IA Z h' a ty n f := by obtain ⟨cl, A, r⟩ := F; exact ⟨cl, ⟨K.2.1 a cl A.1 q, A.2⟩, r⟩
theorem own_JA.keep (F : own_JA Z h a n fJ) (K : Keep h h' ws) (q : a ∉ ws) : own_JA Z h' a n fJ := by obtain ⟨cl, A, r⟩ := F; exact ⟨cl, ⟨K.2.1 a cl A.1 q, A.2⟩, r⟩
theorem own_IA.congr {f' : Nat → Int32} (F : own_IA Z h a ty n f) (q : ∀ i, i < n → f i = f' i) : own_IA Z h a ty n f' := by obtain ⟨cl, A, S, H⟩ := F; exact ⟨cl, A, S, fun i hi => by rw [← q i hi]; exact H i hi⟩
theorem own_JA.congr {f' : Nat → Int64} (F : own_JA Z h a n fJ) (q : ∀ i, i < n → fJ i = f' i) : own_JA Z h a n f' := by obtain ⟨cl, A, S, H⟩ := F; exact ⟨cl, A, S, fun i hi => by rw [← q i hi]; exact H i hi⟩
theorem own_ins {cl : Cell} {j : Int32} {i : Nat} (S : cl.slots.size = n) (hj : ¬ j < 0) (hi : j.toNatClampNeg = i) (hin : i < n) : ¬ (j < 0 ∨ cl.slots.size ≤ j.toNatClampNeg) := by
  rintro (q | q)
  · exact hj q
  · rw [S, hi] at q; omega
theorem own_setI {cl : Cell} {i : Nat} {x : Int32} (W : Wr h h' a i (.int x)) (A : Arr Z h a cl ty) (S : cl.slots.size = n) (H : ∀ q, q < n → cl.slots[q]? = some (.int (f q))) : own_IA Z h' a ty n (own_set f i x) := by
  refine ⟨_, A.same W, by rw [sz_set]; exact S, fun q hq => ?_⟩
  by_cases u : q = i
  · subst u; simp [Cell.setSlot, own_set, S, hq]
  · rw [own_set_other _ _ u, ← H q hq]; exact Array.getElem?_setIfInBounds_ne (Ne.symm u)
theorem own_setJ {cl : Cell} {i : Nat} {x : Int64} (W : Wr h h' a i (.long x)) (A : Arr Z h a cl .long) (S : cl.slots.size = n) (H : ∀ q, q < n → cl.slots[q]? = some (.long (fJ q))) : own_JA Z h' a n (own_set fJ i x) := by
  refine ⟨_, A.same W, by rw [sz_set]; exact S, fun q hq => ?_⟩
  by_cases u : q = i
  · subst u; simp [Cell.setSlot, own_set, S, hq]
  · rw [own_set_other _ _ u, ← H q hq]; exact Array.getElem?_setIfInBounds_ne (Ne.symm u)
theorem own_newI (X : Stand p l e R s m args below meth c T locs cells slots) (hx : p.tables.exec = Jvm.exec) (hZ : Z.Warmed39 s.vm) (hT : T.heap = h) {aty : ArrayType} (w : (Jvm.Cond.arrayClass (newarray.typeOf aty)).before a0 Z = true) (hdv : defaultValue (newarray.typeOf aty) = .int 0) {pc : Nat} {Ls : Array Slot} {rest : List Value} {z : Int32} (hd : decode c.code pc = .ok (.newarray aty, 2)) (hz : ¬ z < 0) (hzn : z.toNatClampNeg = n) (cap : Nat) (hcap : n ≤ cap) (hb : cap * 8 ≤ 536870912) (hc : cells + 1 ≤ R.cells) (hl : slots + cap ≤ R.slots)
    (k : ∀ (T' : State) (h' : Heap) (a : Nat), a = h.size → Stand p l e R s m args below meth c T' locs (cells + 1) (slots + cap) → T'.heap = h' → Ext h h' → own_IA Z h' a (newarray.typeOf aty) n (fun _ => 0) → own_E p e below P (T'.setTop (mkF m (pc + 2) Ls (.ref a :: rest)))) :
    own_E p e below P (T.setTop (mkF m pc Ls (.int z :: rest))) := by
  obtain ⟨T', h', cA, X', e', E, A, st⟩ := newP X hx hZ w hT (g := mkF m pc Ls (.int z :: rest)) rfl hd rfl hz (cap := cap) (by rw [hzn]; exact hcap) hb hc hl
  refine own_s st (k T' h' _ rfl X' e' E ⟨_, A, by rw [sz_new, hzn], fun i hi => ?_⟩)
  simp [newA, hzn, hi, hdv]
theorem own_newJ (X : Stand p l e R s m args below meth c T locs cells slots) (hx : p.tables.exec = Jvm.exec) (hZ : Z.Warmed39 s.vm) (hT : T.heap = h) (w : (Jvm.Cond.arrayClass .long).before a0 Z = true) {pc : Nat} {Ls : Array Slot} {rest : List Value} {z : Int32} (hd : decode c.code pc = .ok (.newarray .long, 2)) (hz : ¬ z < 0) (hzn : z.toNatClampNeg = n) (cap : Nat) (hcap : n ≤ cap) (hb : cap * 8 ≤ 536870912) (hc : cells + 1 ≤ R.cells) (hl : slots + cap ≤ R.slots)
    (k : ∀ (T' : State) (h' : Heap) (a : Nat), a = h.size → Stand p l e R s m args below meth c T' locs (cells + 1) (slots + cap) → T'.heap = h' → Ext h h' → own_JA Z h' a n (fun _ => 0) → own_E p e below P (T'.setTop (mkF m (pc + 2) Ls (.ref a :: rest)))) :
    own_E p e below P (T.setTop (mkF m pc Ls (.int z :: rest))) := by
  obtain ⟨T', h', cA, X', e', E, A, st⟩ := newP X hx hZ (aty := .long) w hT (g := mkF m pc Ls (.int z :: rest)) rfl hd rfl hz (cap := cap) (by rw [hzn]; exact hcap) hb hc hl
  refine own_s st (k T' h' _ rfl X' e' E ⟨_, A, by rw [sz_new, hzn], fun i hi => ?_⟩)
  simp [newA, hzn, hi, newarray.typeOf, defaultValue]
theorem own_lenI (X : Stand p l e R s m args below meth c T locs cells slots) (hx : p.tables.exec = Jvm.exec) (hZ : Z.Warmed39 s.vm) (hT : T.heap = h) (F : own_IA Z h a ty n f) {pc : Nat} {Ls : Array Slot} {rest : List Value} (hd : decode c.code pc = .ok (.arraylength, 1)) {z : Int32} (hz : n.toInt32 = z) (k : own_E p e below P (T.setTop (mkF m (pc + 1) Ls (.int z :: rest)))) :
    own_E p e below P (T.setTop (mkF m pc Ls (.ref a :: rest))) := by
  obtain ⟨cl, A, S, H⟩ := F
  exact own_s (X.arraylength hx (cell := cl) (by rw [hT]; exact A.1) (State.isArrayOf_alike hZ.alike A.2.1) (g := mkF m pc Ls (.ref a :: rest)) rfl (rest := rest) rfl hd) (by rw [S, hz]; exact k)
theorem own_lenJ (X : Stand p l e R s m args below meth c T locs cells slots) (hx : p.tables.exec = Jvm.exec) (hZ : Z.Warmed39 s.vm) (hT : T.heap = h) (F : own_JA Z h a n fJ) {pc : Nat} {Ls : Array Slot} {rest : List Value} (hd : decode c.code pc = .ok (.arraylength, 1)) {z : Int32} (hz : n.toInt32 = z) (k : own_E p e below P (T.setTop (mkF m (pc + 1) Ls (.int z :: rest)))) :
    own_E p e below P (T.setTop (mkF m pc Ls (.ref a :: rest))) := by
  obtain ⟨cl, A, S, H⟩ := F
  exact own_s (X.arraylength hx (cell := cl) (by rw [hT]; exact A.1) (State.isArrayOf_alike hZ.alike A.2.1) (g := mkF m pc Ls (.ref a :: rest)) rfl (rest := rest) rfl hd) (by rw [S, hz]; exact k)
theorem own_ildI (X : Stand p l e R s m args below meth c T locs cells slots) (hx : p.tables.exec = Jvm.exec) (hZ : Z.Warmed39 s.vm) (hT : T.heap = h) (F : own_IA Z h a .int n f) {pc i : Nat} {Ls : Array Slot} {rest : List Value} {j x : Int32} (hd : decode c.code pc = .ok (.iaload, 1)) (hj : ¬ j < 0) (hi : j.toNatClampNeg = i) (hin : i < n) (hv : f i = x) (k : own_E p e below P (T.setTop (mkF m (pc + 1) Ls (.int x :: rest)))) :
    own_E p e below P (T.setTop (mkF m pc Ls (.int j :: .ref a :: rest))) := by
  obtain ⟨cl, A, S, H⟩ := F
  subst hv
  exact own_s (X.iaload hx (j := j) (v := .int (f i)) (by rw [hT]; exact A.1) (State.isArrayOf_alike hZ.alike A.2.1) A.2.2 (own_ins S hj hi hin) (by rw [hi]; exact H i hin) (g := mkF m pc Ls (.int j :: .ref a :: rest)) rfl rfl hd) k
theorem own_ildB (X : Stand p l e R s m args below meth c T locs cells slots) (hx : p.tables.exec = Jvm.exec) (hZ : Z.Warmed39 s.vm) (hT : T.heap = h) (F : own_IA Z h a .byte n f) {pc i : Nat} {Ls : Array Slot} {rest : List Value} {j x : Int32} (hd : decode c.code pc = .ok (.baload, 1)) (hj : ¬ j < 0) (hi : j.toNatClampNeg = i) (hin : i < n) (hv : f i = x) (k : own_E p e below P (T.setTop (mkF m (pc + 1) Ls (.int x :: rest)))) :
    own_E p e below P (T.setTop (mkF m pc Ls (.int j :: .ref a :: rest))) := by
  obtain ⟨cl, A, S, H⟩ := F
  subst hv
  exact own_s (X.baloadBytes hx (j := j) (v := .int (f i)) (by rw [hT]; exact A.1) (State.isArrayOf_alike hZ.alike A.2.1) A.2.2 (own_ins S hj hi hin) (by rw [hi]; exact H i hin) (g := mkF m pc Ls (.int j :: .ref a :: rest)) rfl rfl hd) k
theorem own_ildZ (X : Stand p l e R s m args below meth c T locs cells slots) (hx : p.tables.exec = Jvm.exec) (hZ : Z.Warmed39 s.vm) (hT : T.heap = h) (F : own_IA Z h a .boolean n f) {pc i : Nat} {Ls : Array Slot} {rest : List Value} {j x : Int32} (hd : decode c.code pc = .ok (.baload, 1)) (hj : ¬ j < 0) (hi : j.toNatClampNeg = i) (hin : i < n) (hv : f i = x) (k : own_E p e below P (T.setTop (mkF m (pc + 1) Ls (.int x :: rest)))) :
    own_E p e below P (T.setTop (mkF m pc Ls (.int j :: .ref a :: rest))) := by
  obtain ⟨cl, A, S, H⟩ := F
  subst hv
  exact own_s (X.baloadBooleans hx (j := j) (v := .int (f i)) (by rw [hT]; exact A.1) (State.isArrayOf_alike hZ.alike A.2.1) A.2.2 (own_ins S hj hi hin) (by rw [hi]; exact H i hin) (g := mkF m pc Ls (.int j :: .ref a :: rest)) rfl rfl hd) k
theorem own_ildJ (X : Stand p l e R s m args below meth c T locs cells slots) (hx : p.tables.exec = Jvm.exec) (hZ : Z.Warmed39 s.vm) (hT : T.heap = h) (F : own_JA Z h a n fJ) {pc i : Nat} {Ls : Array Slot} {rest : List Value} {j : Int32} {x : Int64} (hd : decode c.code pc = .ok (.laload, 1)) (hj : ¬ j < 0) (hi : j.toNatClampNeg = i) (hin : i < n) (hv : fJ i = x) (k : own_E p e below P (T.setTop (mkF m (pc + 1) Ls (.long x :: rest)))) :
    own_E p e below P (T.setTop (mkF m pc Ls (.int j :: .ref a :: rest))) := by
  obtain ⟨cl, A, S, H⟩ := F
  subst hv
  exact own_s (X.laload hx (j := j) (v := .long (fJ i)) (by rw [hT]; exact A.1) (State.isArrayOf_alike hZ.alike A.2.1) A.2.2 (own_ins S hj hi hin) (by rw [hi]; exact H i hin) (g := mkF m pc Ls (.int j :: .ref a :: rest)) rfl rfl hd) k
theorem own_stI (X : Stand p l e R s m args below meth c T locs cells slots) (hx : p.tables.exec = Jvm.exec) (hZ : Z.Warmed39 s.vm) (hT : T.heap = h) (F : own_IA Z h a .int n f) {pc i : Nat} {Ls : Array Slot} {rest : List Value} {j x : Int32} (hd : decode c.code pc = .ok (.iastore, 1)) (hj : ¬ j < 0) (hi : j.toNatClampNeg = i) (hin : i < n)
    (k : ∀ (T' : State) (h' : Heap), Stand p l e R s m args below meth c T' (locs ++ [⟨a, i⟩]) cells slots → T'.heap = h' → Wr h h' a i (.int x) → own_IA Z h' a .int n (own_set f i x) → own_E p e below P (T'.setTop (mkF m (pc + 1) Ls rest))) :
    own_E p e below P (T.setTop (mkF m pc Ls (.int x :: .int j :: .ref a :: rest))) := by
  obtain ⟨cl, A, S, H⟩ := F
  obtain ⟨T', h', X', e', W, st⟩ := stI X hx hZ hT A (j := j) (own_ins S hj hi hin) (g := mkF m pc Ls (.int x :: .int j :: .ref a :: rest)) rfl rfl hd
  subst hi
  exact own_s st (k T' h' X' e' W (own_setI W A S H))
theorem own_stB (X : Stand p l e R s m args below meth c T locs cells slots) (hx : p.tables.exec = Jvm.exec) (hZ : Z.Warmed39 s.vm) (hT : T.heap = h) (F : own_IA Z h a .byte n f) {pc i : Nat} {Ls : Array Slot} {rest : List Value} {j x : Int32} (hd : decode c.code pc = .ok (.bastore, 1)) (hj : ¬ j < 0) (hi : j.toNatClampNeg = i) (hin : i < n)
    (k : ∀ (T' : State) (h' : Heap), Stand p l e R s m args below meth c T' (locs ++ [⟨a, i⟩]) cells slots → T'.heap = h' → Wr h h' a i (.int (nar .byte x)) → own_IA Z h' a .byte n (own_set f i (nar .byte x)) → own_E p e below P (T'.setTop (mkF m (pc + 1) Ls rest))) :
    own_E p e below P (T.setTop (mkF m pc Ls (.int x :: .int j :: .ref a :: rest))) := by
  obtain ⟨cl, A, S, H⟩ := F
  obtain ⟨T', h', X', e', W, st⟩ := stB X hx hZ hT A (j := j) (own_ins S hj hi hin) (g := mkF m pc Ls (.int x :: .int j :: .ref a :: rest)) rfl rfl hd
  subst hi
  exact own_s st (k T' h' X' e' W (own_setI W A S H))
theorem own_stZ (X : Stand p l e R s m args below meth c T locs cells slots) (hx : p.tables.exec = Jvm.exec) (hZ : Z.Warmed39 s.vm) (hT : T.heap = h) (F : own_IA Z h a .boolean n f) {pc i : Nat} {Ls : Array Slot} {rest : List Value} {j x : Int32} (hd : decode c.code pc = .ok (.bastore, 1)) (hj : ¬ j < 0) (hi : j.toNatClampNeg = i) (hin : i < n)
    (k : ∀ (T' : State) (h' : Heap), Stand p l e R s m args below meth c T' (locs ++ [⟨a, i⟩]) cells slots → T'.heap = h' → Wr h h' a i (.int (nar .boolean x)) → own_IA Z h' a .boolean n (own_set f i (nar .boolean x)) → own_E p e below P (T'.setTop (mkF m (pc + 1) Ls rest))) :
    own_E p e below P (T.setTop (mkF m pc Ls (.int x :: .int j :: .ref a :: rest))) := by
  obtain ⟨cl, A, S, H⟩ := F
  obtain ⟨T', h', X', e', W, st⟩ := stZ X hx hZ hT A (j := j) (own_ins S hj hi hin) (g := mkF m pc Ls (.int x :: .int j :: .ref a :: rest)) rfl rfl hd
  subst hi
  exact own_s st (k T' h' X' e' W (own_setI W A S H))
theorem own_stJ (X : Stand p l e R s m args below meth c T locs cells slots) (hx : p.tables.exec = Jvm.exec) (hZ : Z.Warmed39 s.vm) (hT : T.heap = h) (F : own_JA Z h a n fJ) {pc i : Nat} {Ls : Array Slot} {rest : List Value} {j : Int32} {x : Int64} (hd : decode c.code pc = .ok (.lastore, 1)) (hj : ¬ j < 0) (hi : j.toNatClampNeg = i) (hin : i < n)
    (k : ∀ (T' : State) (h' : Heap), Stand p l e R s m args below meth c T' (locs ++ [⟨a, i⟩]) cells slots → T'.heap = h' → Wr h h' a i (.long x) → own_JA Z h' a n (own_set fJ i x) → own_E p e below P (T'.setTop (mkF m (pc + 1) Ls rest))) :
    own_E p e below P (T.setTop (mkF m pc Ls (.long x :: .int j :: .ref a :: rest))) := by
  obtain ⟨cl, A, S, H⟩ := F
  obtain ⟨T', h', X', e', W, st⟩ := stJ X hx hZ hT A (j := j) (own_ins S hj hi hin) (g := mkF m pc Ls (.long x :: .int j :: .ref a :: rest)) rfl rfl hd
  subst hi
  exact own_s st (k T' h' X' e' W (own_setJ W A S H))
theorem own_fr {k : Nat} {L : List Loc} {i : Nat} (N : Fr k L) (g : k ≤ a) : Fr k (L ++ [⟨a, i⟩]) := N.app fun y hy => by cases List.mem_singleton.mp hy; exact g
/-! longs compared -/
theorem own_lcT {x y : Int64} (q : x = y) : lcmpW x y = 0 := (lw_eq x y).mpr q
theorem own_lcF {x y : Int64} (q : ¬ x = y) : ¬ lcmpW x y = 0 := fun r => q ((lw_eq x y).mp r)
theorem own_llT {x y : Int64} (q : x < y) : lcmpW x y < 0 := (lw_lt x y).mpr q
theorem own_llF {x y : Int64} (q : ¬ x < y) : ¬ lcmpW x y < 0 := fun r => q ((lw_lt x y).mp r)
theorem own_lgT {x y : Int64} (q : y < x) : 0 < lcmpW x y := (lw_gt x y).mpr q
theorem own_lgF {x y : Int64} (q : ¬ y < x) : ¬ 0 < lcmpW x y := fun r => q ((lw_gt x y).mp r)
end Own
/-! ### small numbers -/
theorem own_mask (x : Int32) (M : Nat) (hM : M < 2 ^ 31) : ∃ n : Nat, n ≤ M ∧ (x &&& Int32.ofNat M) = Int32.ofNat n := by
  refine ⟨(x &&& Int32.ofNat M).toBitVec.toNat, ?_, ?_⟩
  · rw [Int32.toBitVec_and, BitVec.toNat_and, show (Int32.ofNat M).toBitVec = BitVec.ofNat 32 M from rfl, BitVec.toNat_ofNat, Nat.mod_eq_of_lt (by omega)]
    exact Nat.and_le_right
  · apply Int32.toBitVec_inj.mp
    show _ = BitVec.ofNat 32 _
    rw [BitVec.ofNat_toNat]; simp
theorem own_mod {n k : Nat} (hn : n < 2 ^ 31) (hk : k < 2 ^ 31) : Int32.ofNat n % Int32.ofNat k = Int32.ofNat (n % k) := by
  apply Int32.toInt_inj.mp
  have h1 : n % k ≤ n := Nat.mod_le _ _
  rw [Int32.toInt_mod, Int32.toInt_ofNat_of_lt (by omega), Int32.toInt_ofNat_of_lt (by omega), Int32.toInt_ofNat_of_lt (by omega)]
  exact (Int.ofNat_tmod n k).symm
theorem own_ushr (x : Int32) (s : UInt32) (hs : 0 < s.toNat % 32) : ∃ n : Nat, n < 2 ^ 31 ∧ (x.toUInt32 >>> s).toInt32 = Int32.ofNat n := by
  refine ⟨(x.toUInt32 >>> s).toNat, ?_, ?_⟩
  · rw [UInt32.toNat_shiftRight, Nat.shiftRight_eq_div_pow]
    have := x.toUInt32.toNat_lt
    have h2 : 2 ^ 1 ≤ 2 ^ (s.toNat % 32) := Nat.pow_le_pow_right (by decide) hs
    exact Nat.div_lt_of_lt_mul (by have := Nat.mul_le_mul_right (2 ^ 31) h2; omega)
  · apply Int32.toBitVec_inj.mp
    show (x.toUInt32 >>> s).toBitVec = BitVec.ofNat 32 _
    rw [show (x.toUInt32 >>> s).toNat = (x.toUInt32 >>> s).toBitVec.toNat from rfl, BitVec.ofNat_toNat]; simp
theorem own_nat32 {i : Nat} (h : i < 2 ^ 31) : ¬ Int32.ofNat i < 0 ∧ (Int32.ofNat i).toNatClampNeg = i := by
  rw [Int32.lt_iff_toInt_lt, Int32.toNatClampNeg, Int32.toInt_ofNat_of_lt (by omega)]
  refine ⟨?_, rfl⟩
  show ¬ ((i : Nat) : Int) < 0
  omega
theorem own_offN (x : Int32) (N : Nat) (h0 : 0 < N) (hN : N < 2 ^ 31) : ∃ i : Nat, i < N ∧ ((x &&& (2147483647 : Int32)) % Int32.ofNat N) = Int32.ofNat i := by
  obtain ⟨n, hn, e⟩ := own_mask x 2147483647 (by decide)
  refine ⟨n % N, Nat.mod_lt _ h0, ?_⟩
  rw [show (2147483647 : Int32) = Int32.ofNat 2147483647 from rfl, e, own_mod (by omega) hN]

theorem own_m64 {i : Nat} (hi : i < 64) : (4294967295#64).getLsbD i = decide (i < 32) := by
  have : ∀ i : Fin 64, (4294967295#64).getLsbD i.1 = decide (i.1 < 32) := by decide
  exact this ⟨i, hi⟩
theorem own_m8 {i : Nat} (hi : i < 64) : (255#64).getLsbD i = decide (i < 8) := by
  have : ∀ i : Fin 64, (255#64).getLsbD i.1 = decide (i.1 < 8) := by decide
  exact this ⟨i, hi⟩
/-- an int as an unsigned long -/
def own_U (x : Int32) : Int64 := x.toInt64 &&& (4294967295 : Int64)
theorem own_Ub (x : Int32) {i : Nat} (hi : i < 64) : (own_U x).toBitVec.getLsbD i = (decide (i < 32) && x.toBitVec.getLsbD i) := by
  unfold own_U
  rw [Int64.toBitVec_and, Int32.toBitVec_toInt64, show (4294967295 : Int64).toBitVec = 4294967295#64 from rfl, BitVec.getLsbD_and, own_m64 hi, BitVec.getLsbD_signExtend]
  by_cases q : i < 32 <;> simp [q, hi]
def own_le (b0 b1 b2 b3 : Int32) : Int64 := ((((b0.toInt64 &&& (255 : Int64)) ||| ((b1.toInt64 &&& (255 : Int64)) <<< ((8 : Int32) &&& 0x3f).toInt64)) ||| ((b2.toInt64 &&& (255 : Int64)) <<< ((16 : Int32) &&& 0x3f).toInt64)) ||| ((b3.toInt64 &&& (255 : Int64)) <<< ((24 : Int32) &&& 0x3f).toInt64))
def own_by (w : Int32) : Int32 := nar .byte w.toInt8.toInt32
theorem own_byb (w : Int32) {i : Nat} (hi : i < 64) : ((own_by w).toInt64 &&& (255 : Int64)).toBitVec.getLsbD i = (decide (i < 8) && w.toBitVec.getLsbD i) := by
  have e : ∀ v : BitVec 8, (v.signExtend 32).signExtend 8 = v := by decide
  rw [Int64.toBitVec_and, Int32.toBitVec_toInt64, show (255 : Int64).toBitVec = 255#64 from rfl, BitVec.getLsbD_and, own_m8 hi, BitVec.getLsbD_signExtend]
  by_cases q : i < 8
  · rw [show own_by w = w.toInt8.toInt32.toInt8.toInt32 from rfl, Int8.toBitVec_toInt32, Int32.toBitVec_toInt8, Int8.toBitVec_toInt32, e, Int32.toBitVec_toInt8]
    simp only [show i < 32 by omega, hi, q, if_true, decide_true, Bool.true_and, Bool.and_true, BitVec.getLsbD_signExtend]
  · simp [q]
theorem own_le_eq (w : Int32) : own_le (own_by w) (own_by ((w.toUInt32 >>> ((8 : Int32) &&& 31).toUInt32).toInt32)) (own_by ((w.toUInt32 >>> ((16 : Int32) &&& 31).toUInt32).toInt32)) (own_by ((w.toUInt32 >>> ((24 : Int32) &&& 31).toUInt32).toInt32)) = w.toInt64 &&& (4294967295 : Int64) := by
  rw [show ((8 : Int32) &&& 31).toUInt32 = 8 from by decide, show ((16 : Int32) &&& 31).toUInt32 = 16 from by decide, show ((24 : Int32) &&& 31).toUInt32 = 24 from by decide]
  show _ = own_U w
  unfold own_le
  rw [show ((8 : Int32) &&& 0x3f).toInt64 = 8 from by decide, show ((16 : Int32) &&& 0x3f).toInt64 = 16 from by decide, show ((24 : Int32) &&& 0x3f).toInt64 = 24 from by decide]
  apply Int64.toBitVec_inj.mp
  apply BitVec.eq_of_getLsbD_eq
  intro i hi
  have s8 : ∀ x : Int64, (x <<< 8).toBitVec = x.toBitVec <<< 8 := fun x => by simp
  have s16 : ∀ x : Int64, (x <<< 16).toBitVec = x.toBitVec <<< 16 := fun x => by simp
  have s24 : ∀ x : Int64, (x <<< 24).toBitVec = x.toBitVec <<< 24 := fun x => by simp
  have u8 : ((w.toUInt32 >>> 8).toInt32).toBitVec = w.toBitVec >>> 8 := by simp
  have u16 : ((w.toUInt32 >>> 16).toInt32).toBitVec = w.toBitVec >>> 16 := by simp
  have u24 : ((w.toUInt32 >>> 24).toInt32).toBitVec = w.toBitVec >>> 24 := by simp
  rw [own_Ub _ hi, Int64.toBitVec_or, Int64.toBitVec_or, Int64.toBitVec_or, s8, s16, s24]
  simp only [BitVec.getLsbD_or, BitVec.getLsbD_shiftLeft]
  rw [own_byb _ hi, own_byb _ (by omega), own_byb _ (by omega), own_byb _ (by omega), u8, u16, u24]
  simp only [BitVec.getLsbD_ushiftRight, hi, decide_true, Bool.true_and]
  by_cases a : i < 8
  · simp [a, show i < 16 by omega, show i < 24 by omega, show i < 32 by omega]
  · by_cases b : i < 16
    · simp [a, b, show i < 24 by omega, show i < 32 by omega, show i - 8 < 8 by omega, show 8 + (i - 8) = i by omega]
    · by_cases c : i < 24
      · simp [a, b, c, show i < 32 by omega, show ¬ i - 8 < 8 by omega, show i - 16 < 8 by omega, show 16 + (i - 16) = i by omega]
      · by_cases d : i < 32
        · simp [a, b, c, d, show ¬ i - 8 < 8 by omega, show ¬ i - 16 < 8 by omega, show i - 24 < 8 by omega, show 24 + (i - 24) = i by omega]
        · simp [a, b, c, d, show ¬ i - 8 < 8 by omega, show ¬ i - 16 < 8 by omega, show ¬ i - 24 < 8 by omega]
theorem own_off (x : Int32) : ∃ i : Nat, i < 5 ∧ ((x &&& (2147483647 : Int32)) % (5 : Int32)) = Int32.ofNat i := own_offN x 5 (by decide) (by decide)
theorem own_ix {i : Nat} (h : i < 5) (k : Nat) (hk : k < 4) : ¬ (Int32.ofNat i + Int32.ofNat k) < 0 ∧ (Int32.ofNat i + Int32.ofNat k).toNatClampNeg = i + k := by
  rw [← Int32.ofNat_add, Int32.lt_iff_toInt_lt, Int32.toNatClampNeg, Int32.toInt_ofNat_of_lt (by omega)]
  refine ⟨?_, rfl⟩
  show ¬ ((i + k : Nat) : Int) < 0
  omega
theorem own_ix0 {i : Nat} (h : i < 5) : ¬ Int32.ofNat i < 0 ∧ (Int32.ofNat i).toNatClampNeg = i := by
  rw [Int32.lt_iff_toInt_lt, Int32.toNatClampNeg, Int32.toInt_ofNat_of_lt (by omega)]
  refine ⟨?_, rfl⟩
  show ¬ ((i : Nat) : Int) < 0
  omega
theorem own_pn0 : plainName "com/example/anchored_ring/anchoredring/Hashes" = true := by first | (simp [plainName, overriddenIn]; done) | decide +kernel
theorem od_18_6_0 : decode prog_18_method_6_code 0 = .ok (.aload_n 0, 1) := by decide +kernel
theorem od_18_6_1 : decode prog_18_method_6_code 1 = .ok (.iload_n 1, 1) := by decide +kernel
theorem od_18_6_2 : decode prog_18_method_6_code 2 = .ok (.baload, 1) := by decide +kernel
theorem od_18_6_3 : decode prog_18_method_6_code 3 = .ok (.i2l, 1) := by decide +kernel
theorem od_18_6_4 : decode prog_18_method_6_code 4 = .ok (.ldc2_w 78, 3) := by decide +kernel
theorem od_18_6_7 : decode prog_18_method_6_code 7 = .ok (.land, 1) := by decide +kernel
theorem od_18_6_8 : decode prog_18_method_6_code 8 = .ok (.aload_n 0, 1) := by decide +kernel
theorem od_18_6_9 : decode prog_18_method_6_code 9 = .ok (.iload_n 1, 1) := by decide +kernel
theorem od_18_6_10 : decode prog_18_method_6_code 10 = .ok (.iconst 1, 1) := by decide +kernel
theorem od_18_6_11 : decode prog_18_method_6_code 11 = .ok (.iadd, 1) := by decide +kernel
theorem od_18_6_12 : decode prog_18_method_6_code 12 = .ok (.baload, 1) := by decide +kernel
theorem od_18_6_13 : decode prog_18_method_6_code 13 = .ok (.i2l, 1) := by decide +kernel
theorem od_18_6_14 : decode prog_18_method_6_code 14 = .ok (.ldc2_w 78, 3) := by decide +kernel
theorem od_18_6_17 : decode prog_18_method_6_code 17 = .ok (.land, 1) := by decide +kernel
theorem od_18_6_18 : decode prog_18_method_6_code 18 = .ok (.bipush 8, 2) := by decide +kernel
theorem od_18_6_20 : decode prog_18_method_6_code 20 = .ok (.lshl, 1) := by decide +kernel
theorem od_18_6_21 : decode prog_18_method_6_code 21 = .ok (.lor, 1) := by decide +kernel
theorem od_18_6_22 : decode prog_18_method_6_code 22 = .ok (.aload_n 0, 1) := by decide +kernel
theorem od_18_6_23 : decode prog_18_method_6_code 23 = .ok (.iload_n 1, 1) := by decide +kernel
theorem od_18_6_24 : decode prog_18_method_6_code 24 = .ok (.iconst 2, 1) := by decide +kernel
theorem od_18_6_25 : decode prog_18_method_6_code 25 = .ok (.iadd, 1) := by decide +kernel
theorem od_18_6_26 : decode prog_18_method_6_code 26 = .ok (.baload, 1) := by decide +kernel
theorem od_18_6_27 : decode prog_18_method_6_code 27 = .ok (.i2l, 1) := by decide +kernel
theorem od_18_6_28 : decode prog_18_method_6_code 28 = .ok (.ldc2_w 78, 3) := by decide +kernel
theorem od_18_6_31 : decode prog_18_method_6_code 31 = .ok (.land, 1) := by decide +kernel
theorem od_18_6_32 : decode prog_18_method_6_code 32 = .ok (.bipush 16, 2) := by decide +kernel
theorem od_18_6_34 : decode prog_18_method_6_code 34 = .ok (.lshl, 1) := by decide +kernel
theorem od_18_6_35 : decode prog_18_method_6_code 35 = .ok (.lor, 1) := by decide +kernel
theorem od_18_6_36 : decode prog_18_method_6_code 36 = .ok (.aload_n 0, 1) := by decide +kernel
theorem od_18_6_37 : decode prog_18_method_6_code 37 = .ok (.iload_n 1, 1) := by decide +kernel
theorem od_18_6_38 : decode prog_18_method_6_code 38 = .ok (.iconst 3, 1) := by decide +kernel
theorem od_18_6_39 : decode prog_18_method_6_code 39 = .ok (.iadd, 1) := by decide +kernel
theorem od_18_6_40 : decode prog_18_method_6_code 40 = .ok (.baload, 1) := by decide +kernel
theorem od_18_6_41 : decode prog_18_method_6_code 41 = .ok (.i2l, 1) := by decide +kernel
theorem od_18_6_42 : decode prog_18_method_6_code 42 = .ok (.ldc2_w 78, 3) := by decide +kernel
theorem od_18_6_45 : decode prog_18_method_6_code 45 = .ok (.land, 1) := by decide +kernel
theorem od_18_6_46 : decode prog_18_method_6_code 46 = .ok (.bipush 24, 2) := by decide +kernel
theorem od_18_6_48 : decode prog_18_method_6_code 48 = .ok (.lshl, 1) := by decide +kernel
theorem od_18_6_49 : decode prog_18_method_6_code 49 = .ok (.lor, 1) := by decide +kernel
theorem od_18_6_50 : decode prog_18_method_6_code 50 = .ok (.lreturn, 1) := by decide +kernel
theorem own_pn1 : plainName "com/example/anchored_ring/anchoredring/HashesLittleEndianPinLaw" = true := by first | (simp [plainName, overriddenIn]; done) | decide +kernel
theorem own_pd0 : parseMethodDescriptor "([BI)J" = some ⟨[(.array .byte), .int], some .long⟩ := by decide +kernel
set_option maxRecDepth 65536 in
set_option maxHeartbeats 40000000 in
theorem own_c_le (l : Launch) (Z : State) (a0 : Array Value) (hw : ∀ d ∈ tables_1, d.before a0 Z = true) (a1 : Addr) (f : Nat → Int32) (i : Nat) (h0 : Heap) (hi : i < 5) (A1 : own_IA Z h0 a1 .byte 8 f) :
    own_Con l Z (⟨"com/example/anchored_ring/anchoredring/Hashes", "littleEndian", "([BI)J"⟩ : MethodName) prog_18_method_6_code 2 (some .long) [] ({ frames := 0, cells := 0, slots := 0, locals := 0 } : Room) #[(.ref a1), (.int (Int32.ofNat i))] h0 (fun v h L => v = some (.long (own_le (f i) (f (i + 1)) (f (i + 2)) (f (i + 3)))) ∧ L = [] ∧ h = h0) := by
  refine own_enter (plainFor_of_name own_pn0) ?_
  intro p e s m below meth c s₁ X0 e0 hx hZ hby hml hown hnm hret hlk
  refine own_cast (g' := (mkF m 0 #[.val (.ref a1), .val (.int (Int32.ofNat i))] [])) (by first | (simp [entryFrame, mkF, argsToLocals, Value.category]; done) | rfl) ?_
  refine own_g (mkF m 1 #[.val (.ref a1), .val (.int (Int32.ofNat i))] [(.ref a1)]) (fun _ kz => XS.aloadN X0.here hx rfl (hb hby od_18_6_0) rfl rfl kz) ?_
  refine own_g (mkF m 2 #[.val (.ref a1), .val (.int (Int32.ofNat i))] [(.int (Int32.ofNat i)), (.ref a1)]) (fun _ kz => XS.iloadN X0.here hx rfl (hb hby od_18_6_1) rfl kz) ?_
  refine own_ildB X0 hx hZ e0 A1 (hb hby od_18_6_2) (own_ix0 hi).1 (i := i) (own_ix0 hi).2 (by omega) (x := (f i)) rfl ?_
  show own_E p e below _ (s₁.setTop (mkF m 3 #[.val (.ref a1), .val (.int (Int32.ofNat i))] [(.int (f i))]))
  refine own_g (mkF m 4 #[.val (.ref a1), .val (.int (Int32.ofNat i))] [(.long (f i).toInt64)]) (fun _ kz => XS.i2l X0.here hx rfl (hb hby od_18_6_3) rfl kz) ?_
  refine own_g (mkF m 7 #[.val (.ref a1), .val (.int (Int32.ofNat i))] [(.long (255 : Int64)), (.long (f i).toInt64)]) (fun _ kz => X0.ldc2Long hx hown (mvT hZ (own_w hw 6 rfl)) (g := (mkF m 4 #[.val (.ref a1), .val (.int (Int32.ofNat i))] [(.long (f i).toInt64)])) rfl (hb hby od_18_6_4) _ kz) ?_
  refine own_g (mkF m 8 #[.val (.ref a1), .val (.int (Int32.ofNat i))] [(.long ((f i).toInt64 &&& (255 : Int64)))]) (fun _ kz => XS.land X0.here hx rfl (hb hby od_18_6_7) rfl kz) ?_
  refine own_g (mkF m 9 #[.val (.ref a1), .val (.int (Int32.ofNat i))] [(.ref a1), (.long ((f i).toInt64 &&& (255 : Int64)))]) (fun _ kz => XS.aloadN X0.here hx rfl (hb hby od_18_6_8) rfl rfl kz) ?_
  refine own_g (mkF m 10 #[.val (.ref a1), .val (.int (Int32.ofNat i))] [(.int (Int32.ofNat i)), (.ref a1), (.long ((f i).toInt64 &&& (255 : Int64)))]) (fun _ kz => XS.iloadN X0.here hx rfl (hb hby od_18_6_9) rfl kz) ?_
  refine own_g (mkF m 11 #[.val (.ref a1), .val (.int (Int32.ofNat i))] [(.int (1 : Int32)), (.int (Int32.ofNat i)), (.ref a1), (.long ((f i).toInt64 &&& (255 : Int64)))]) (fun _ kz => XS.iconst X0.here hx rfl (hb hby od_18_6_10) kz) ?_
  refine own_g (mkF m 12 #[.val (.ref a1), .val (.int (Int32.ofNat i))] [(.int ((Int32.ofNat i) + (1 : Int32))), (.ref a1), (.long ((f i).toInt64 &&& (255 : Int64)))]) (fun _ kz => XS.iadd X0.here hx rfl (hb hby od_18_6_11) rfl kz) ?_
  refine own_ildB X0 hx hZ e0 A1 (hb hby od_18_6_12) (own_ix hi 1 (by decide)).1 (i := (i + 1)) (own_ix hi 1 (by decide)).2 (by omega) (x := (f (i + 1))) rfl ?_
  show own_E p e below _ (s₁.setTop (mkF m 13 #[.val (.ref a1), .val (.int (Int32.ofNat i))] [(.int (f (i + 1))), (.long ((f i).toInt64 &&& (255 : Int64)))]))
  refine own_g (mkF m 14 #[.val (.ref a1), .val (.int (Int32.ofNat i))] [(.long (f (i + 1)).toInt64), (.long ((f i).toInt64 &&& (255 : Int64)))]) (fun _ kz => XS.i2l X0.here hx rfl (hb hby od_18_6_13) rfl kz) ?_
  refine own_g (mkF m 17 #[.val (.ref a1), .val (.int (Int32.ofNat i))] [(.long (255 : Int64)), (.long (f (i + 1)).toInt64), (.long ((f i).toInt64 &&& (255 : Int64)))]) (fun _ kz => X0.ldc2Long hx hown (mvT hZ (own_w hw 6 rfl)) (g := (mkF m 14 #[.val (.ref a1), .val (.int (Int32.ofNat i))] [(.long (f (i + 1)).toInt64), (.long ((f i).toInt64 &&& (255 : Int64)))])) rfl (hb hby od_18_6_14) _ kz) ?_
  refine own_g (mkF m 18 #[.val (.ref a1), .val (.int (Int32.ofNat i))] [(.long ((f (i + 1)).toInt64 &&& (255 : Int64))), (.long ((f i).toInt64 &&& (255 : Int64)))]) (fun _ kz => XS.land X0.here hx rfl (hb hby od_18_6_17) rfl kz) ?_
  refine own_g (mkF m 20 #[.val (.ref a1), .val (.int (Int32.ofNat i))] [(.int (8 : Int32)), (.long ((f (i + 1)).toInt64 &&& (255 : Int64))), (.long ((f i).toInt64 &&& (255 : Int64)))]) (fun _ kz => XS.bipush X0.here hx rfl (hb hby od_18_6_18) kz) ?_
  refine own_g (mkF m 21 #[.val (.ref a1), .val (.int (Int32.ofNat i))] [(.long (((f (i + 1)).toInt64 &&& (255 : Int64)) <<< ((8 : Int32) &&& 0x3f).toInt64)), (.long ((f i).toInt64 &&& (255 : Int64)))]) (fun _ kz => XS.lshl X0.here hx rfl (hb hby od_18_6_20) rfl kz) ?_
  refine own_g (mkF m 22 #[.val (.ref a1), .val (.int (Int32.ofNat i))] [(.long (((f i).toInt64 &&& (255 : Int64)) ||| (((f (i + 1)).toInt64 &&& (255 : Int64)) <<< ((8 : Int32) &&& 0x3f).toInt64)))]) (fun _ kz => XS.lor X0.here hx rfl (hb hby od_18_6_21) rfl kz) ?_
  refine own_g (mkF m 23 #[.val (.ref a1), .val (.int (Int32.ofNat i))] [(.ref a1), (.long (((f i).toInt64 &&& (255 : Int64)) ||| (((f (i + 1)).toInt64 &&& (255 : Int64)) <<< ((8 : Int32) &&& 0x3f).toInt64)))]) (fun _ kz => XS.aloadN X0.here hx rfl (hb hby od_18_6_22) rfl rfl kz) ?_
  refine own_g (mkF m 24 #[.val (.ref a1), .val (.int (Int32.ofNat i))] [(.int (Int32.ofNat i)), (.ref a1), (.long (((f i).toInt64 &&& (255 : Int64)) ||| (((f (i + 1)).toInt64 &&& (255 : Int64)) <<< ((8 : Int32) &&& 0x3f).toInt64)))]) (fun _ kz => XS.iloadN X0.here hx rfl (hb hby od_18_6_23) rfl kz) ?_
  refine own_g (mkF m 25 #[.val (.ref a1), .val (.int (Int32.ofNat i))] [(.int (2 : Int32)), (.int (Int32.ofNat i)), (.ref a1), (.long (((f i).toInt64 &&& (255 : Int64)) ||| (((f (i + 1)).toInt64 &&& (255 : Int64)) <<< ((8 : Int32) &&& 0x3f).toInt64)))]) (fun _ kz => XS.iconst X0.here hx rfl (hb hby od_18_6_24) kz) ?_
  refine own_g (mkF m 26 #[.val (.ref a1), .val (.int (Int32.ofNat i))] [(.int ((Int32.ofNat i) + (2 : Int32))), (.ref a1), (.long (((f i).toInt64 &&& (255 : Int64)) ||| (((f (i + 1)).toInt64 &&& (255 : Int64)) <<< ((8 : Int32) &&& 0x3f).toInt64)))]) (fun _ kz => XS.iadd X0.here hx rfl (hb hby od_18_6_25) rfl kz) ?_
  refine own_ildB X0 hx hZ e0 A1 (hb hby od_18_6_26) (own_ix hi 2 (by decide)).1 (i := (i + 2)) (own_ix hi 2 (by decide)).2 (by omega) (x := (f (i + 2))) rfl ?_
  show own_E p e below _ (s₁.setTop (mkF m 27 #[.val (.ref a1), .val (.int (Int32.ofNat i))] [(.int (f (i + 2))), (.long (((f i).toInt64 &&& (255 : Int64)) ||| (((f (i + 1)).toInt64 &&& (255 : Int64)) <<< ((8 : Int32) &&& 0x3f).toInt64)))]))
  refine own_g (mkF m 28 #[.val (.ref a1), .val (.int (Int32.ofNat i))] [(.long (f (i + 2)).toInt64), (.long (((f i).toInt64 &&& (255 : Int64)) ||| (((f (i + 1)).toInt64 &&& (255 : Int64)) <<< ((8 : Int32) &&& 0x3f).toInt64)))]) (fun _ kz => XS.i2l X0.here hx rfl (hb hby od_18_6_27) rfl kz) ?_
  refine own_g (mkF m 31 #[.val (.ref a1), .val (.int (Int32.ofNat i))] [(.long (255 : Int64)), (.long (f (i + 2)).toInt64), (.long (((f i).toInt64 &&& (255 : Int64)) ||| (((f (i + 1)).toInt64 &&& (255 : Int64)) <<< ((8 : Int32) &&& 0x3f).toInt64)))]) (fun _ kz => X0.ldc2Long hx hown (mvT hZ (own_w hw 6 rfl)) (g := (mkF m 28 #[.val (.ref a1), .val (.int (Int32.ofNat i))] [(.long (f (i + 2)).toInt64), (.long (((f i).toInt64 &&& (255 : Int64)) ||| (((f (i + 1)).toInt64 &&& (255 : Int64)) <<< ((8 : Int32) &&& 0x3f).toInt64)))])) rfl (hb hby od_18_6_28) _ kz) ?_
  refine own_g (mkF m 32 #[.val (.ref a1), .val (.int (Int32.ofNat i))] [(.long ((f (i + 2)).toInt64 &&& (255 : Int64))), (.long (((f i).toInt64 &&& (255 : Int64)) ||| (((f (i + 1)).toInt64 &&& (255 : Int64)) <<< ((8 : Int32) &&& 0x3f).toInt64)))]) (fun _ kz => XS.land X0.here hx rfl (hb hby od_18_6_31) rfl kz) ?_
  refine own_g (mkF m 34 #[.val (.ref a1), .val (.int (Int32.ofNat i))] [(.int (16 : Int32)), (.long ((f (i + 2)).toInt64 &&& (255 : Int64))), (.long (((f i).toInt64 &&& (255 : Int64)) ||| (((f (i + 1)).toInt64 &&& (255 : Int64)) <<< ((8 : Int32) &&& 0x3f).toInt64)))]) (fun _ kz => XS.bipush X0.here hx rfl (hb hby od_18_6_32) kz) ?_
  refine own_g (mkF m 35 #[.val (.ref a1), .val (.int (Int32.ofNat i))] [(.long (((f (i + 2)).toInt64 &&& (255 : Int64)) <<< ((16 : Int32) &&& 0x3f).toInt64)), (.long (((f i).toInt64 &&& (255 : Int64)) ||| (((f (i + 1)).toInt64 &&& (255 : Int64)) <<< ((8 : Int32) &&& 0x3f).toInt64)))]) (fun _ kz => XS.lshl X0.here hx rfl (hb hby od_18_6_34) rfl kz) ?_
  refine own_g (mkF m 36 #[.val (.ref a1), .val (.int (Int32.ofNat i))] [(.long ((((f i).toInt64 &&& (255 : Int64)) ||| (((f (i + 1)).toInt64 &&& (255 : Int64)) <<< ((8 : Int32) &&& 0x3f).toInt64)) ||| (((f (i + 2)).toInt64 &&& (255 : Int64)) <<< ((16 : Int32) &&& 0x3f).toInt64)))]) (fun _ kz => XS.lor X0.here hx rfl (hb hby od_18_6_35) rfl kz) ?_
  refine own_g (mkF m 37 #[.val (.ref a1), .val (.int (Int32.ofNat i))] [(.ref a1), (.long ((((f i).toInt64 &&& (255 : Int64)) ||| (((f (i + 1)).toInt64 &&& (255 : Int64)) <<< ((8 : Int32) &&& 0x3f).toInt64)) ||| (((f (i + 2)).toInt64 &&& (255 : Int64)) <<< ((16 : Int32) &&& 0x3f).toInt64)))]) (fun _ kz => XS.aloadN X0.here hx rfl (hb hby od_18_6_36) rfl rfl kz) ?_
  refine own_g (mkF m 38 #[.val (.ref a1), .val (.int (Int32.ofNat i))] [(.int (Int32.ofNat i)), (.ref a1), (.long ((((f i).toInt64 &&& (255 : Int64)) ||| (((f (i + 1)).toInt64 &&& (255 : Int64)) <<< ((8 : Int32) &&& 0x3f).toInt64)) ||| (((f (i + 2)).toInt64 &&& (255 : Int64)) <<< ((16 : Int32) &&& 0x3f).toInt64)))]) (fun _ kz => XS.iloadN X0.here hx rfl (hb hby od_18_6_37) rfl kz) ?_
  refine own_g (mkF m 39 #[.val (.ref a1), .val (.int (Int32.ofNat i))] [(.int (3 : Int32)), (.int (Int32.ofNat i)), (.ref a1), (.long ((((f i).toInt64 &&& (255 : Int64)) ||| (((f (i + 1)).toInt64 &&& (255 : Int64)) <<< ((8 : Int32) &&& 0x3f).toInt64)) ||| (((f (i + 2)).toInt64 &&& (255 : Int64)) <<< ((16 : Int32) &&& 0x3f).toInt64)))]) (fun _ kz => XS.iconst X0.here hx rfl (hb hby od_18_6_38) kz) ?_
  refine own_g (mkF m 40 #[.val (.ref a1), .val (.int (Int32.ofNat i))] [(.int ((Int32.ofNat i) + (3 : Int32))), (.ref a1), (.long ((((f i).toInt64 &&& (255 : Int64)) ||| (((f (i + 1)).toInt64 &&& (255 : Int64)) <<< ((8 : Int32) &&& 0x3f).toInt64)) ||| (((f (i + 2)).toInt64 &&& (255 : Int64)) <<< ((16 : Int32) &&& 0x3f).toInt64)))]) (fun _ kz => XS.iadd X0.here hx rfl (hb hby od_18_6_39) rfl kz) ?_
  refine own_ildB X0 hx hZ e0 A1 (hb hby od_18_6_40) (own_ix hi 3 (by decide)).1 (i := (i + 3)) (own_ix hi 3 (by decide)).2 (by omega) (x := (f (i + 3))) rfl ?_
  show own_E p e below _ (s₁.setTop (mkF m 41 #[.val (.ref a1), .val (.int (Int32.ofNat i))] [(.int (f (i + 3))), (.long ((((f i).toInt64 &&& (255 : Int64)) ||| (((f (i + 1)).toInt64 &&& (255 : Int64)) <<< ((8 : Int32) &&& 0x3f).toInt64)) ||| (((f (i + 2)).toInt64 &&& (255 : Int64)) <<< ((16 : Int32) &&& 0x3f).toInt64)))]))
  refine own_g (mkF m 42 #[.val (.ref a1), .val (.int (Int32.ofNat i))] [(.long (f (i + 3)).toInt64), (.long ((((f i).toInt64 &&& (255 : Int64)) ||| (((f (i + 1)).toInt64 &&& (255 : Int64)) <<< ((8 : Int32) &&& 0x3f).toInt64)) ||| (((f (i + 2)).toInt64 &&& (255 : Int64)) <<< ((16 : Int32) &&& 0x3f).toInt64)))]) (fun _ kz => XS.i2l X0.here hx rfl (hb hby od_18_6_41) rfl kz) ?_
  refine own_g (mkF m 45 #[.val (.ref a1), .val (.int (Int32.ofNat i))] [(.long (255 : Int64)), (.long (f (i + 3)).toInt64), (.long ((((f i).toInt64 &&& (255 : Int64)) ||| (((f (i + 1)).toInt64 &&& (255 : Int64)) <<< ((8 : Int32) &&& 0x3f).toInt64)) ||| (((f (i + 2)).toInt64 &&& (255 : Int64)) <<< ((16 : Int32) &&& 0x3f).toInt64)))]) (fun _ kz => X0.ldc2Long hx hown (mvT hZ (own_w hw 6 rfl)) (g := (mkF m 42 #[.val (.ref a1), .val (.int (Int32.ofNat i))] [(.long (f (i + 3)).toInt64), (.long ((((f i).toInt64 &&& (255 : Int64)) ||| (((f (i + 1)).toInt64 &&& (255 : Int64)) <<< ((8 : Int32) &&& 0x3f).toInt64)) ||| (((f (i + 2)).toInt64 &&& (255 : Int64)) <<< ((16 : Int32) &&& 0x3f).toInt64)))])) rfl (hb hby od_18_6_42) _ kz) ?_
  refine own_g (mkF m 46 #[.val (.ref a1), .val (.int (Int32.ofNat i))] [(.long ((f (i + 3)).toInt64 &&& (255 : Int64))), (.long ((((f i).toInt64 &&& (255 : Int64)) ||| (((f (i + 1)).toInt64 &&& (255 : Int64)) <<< ((8 : Int32) &&& 0x3f).toInt64)) ||| (((f (i + 2)).toInt64 &&& (255 : Int64)) <<< ((16 : Int32) &&& 0x3f).toInt64)))]) (fun _ kz => XS.land X0.here hx rfl (hb hby od_18_6_45) rfl kz) ?_
  refine own_g (mkF m 48 #[.val (.ref a1), .val (.int (Int32.ofNat i))] [(.int (24 : Int32)), (.long ((f (i + 3)).toInt64 &&& (255 : Int64))), (.long ((((f i).toInt64 &&& (255 : Int64)) ||| (((f (i + 1)).toInt64 &&& (255 : Int64)) <<< ((8 : Int32) &&& 0x3f).toInt64)) ||| (((f (i + 2)).toInt64 &&& (255 : Int64)) <<< ((16 : Int32) &&& 0x3f).toInt64)))]) (fun _ kz => XS.bipush X0.here hx rfl (hb hby od_18_6_46) kz) ?_
  refine own_g (mkF m 49 #[.val (.ref a1), .val (.int (Int32.ofNat i))] [(.long (((f (i + 3)).toInt64 &&& (255 : Int64)) <<< ((24 : Int32) &&& 0x3f).toInt64)), (.long ((((f i).toInt64 &&& (255 : Int64)) ||| (((f (i + 1)).toInt64 &&& (255 : Int64)) <<< ((8 : Int32) &&& 0x3f).toInt64)) ||| (((f (i + 2)).toInt64 &&& (255 : Int64)) <<< ((16 : Int32) &&& 0x3f).toInt64)))]) (fun _ kz => XS.lshl X0.here hx rfl (hb hby od_18_6_48) rfl kz) ?_
  refine own_g (mkF m 50 #[.val (.ref a1), .val (.int (Int32.ofNat i))] [(.long (((((f i).toInt64 &&& (255 : Int64)) ||| (((f (i + 1)).toInt64 &&& (255 : Int64)) <<< ((8 : Int32) &&& 0x3f).toInt64)) ||| (((f (i + 2)).toInt64 &&& (255 : Int64)) <<< ((16 : Int32) &&& 0x3f).toInt64)) ||| (((f (i + 3)).toInt64 &&& (255 : Int64)) <<< ((24 : Int32) &&& 0x3f).toInt64)))]) (fun _ kz => XS.lor X0.here hx rfl (hb hby od_18_6_49) rfl kz) ?_
  exact own_retJ X0 hx hret hlk (hb hby od_18_6_50) (by decide) (by decide) (by first | exact ⟨rfl, rfl, rfl⟩ | (rw [e0]; exact ⟨rfl, rfl, rfl⟩))
set_option maxRecDepth 65536 in
set_option maxHeartbeats 40000000 in
theorem own_c_law (l : Launch) (Z : State) (a0 : Array Value) (hw : ∀ d ∈ tables_1, d.before a0 Z = true) (x0 : Int32) (x1 : Int32) (x2 : Int64) (h0 : Heap) (n0 : Nat) (Z0 : n0 ≤ h0.size) :
    own_Con l Z x code maxLocals ret tables_1 room_1 #[(.int x0), (.int x1), (.long x2)] h0 (fun v h L => v = some (.int 1) ∧ Fr n0 L) := by
  refine own_enter (plainFor_of_name own_pn1) ?_
  intro p e s m below meth c s₁ X0 e0 hx hZ hby hml hown hnm hret hlk
  refine own_cast (g' := (mkF m 0 #[.val (.int x0), .val (.int x1), .val (.long x2), .second, .unset, .unset, .unset, .unset] [])) (by first | (simp [entryFrame, mkF, argsToLocals, Value.category, maxLocals]; done) | rfl) ?_
  have N0 := Fr.nil n0
  refine own_g (mkF m 1 #[.val (.int x0), .val (.int x1), .val (.long x2), .second, .unset, .unset, .unset, .unset] [(.int x1)]) (fun _ kz => XS.iloadN X0.here hx rfl (hb hby at_0) rfl kz) ?_
  refine own_g (mkF m 3 #[.val (.int x0), .val (.int x1), .val (.long x2), .second, .unset, .unset, .unset, .unset] [(.int (2147483647 : Int32)), (.int x1)]) (fun _ kz => X0.ldcInt hx hown (mvT hZ (own_w hw 0 rfl)) (g := (mkF m 1 #[.val (.int x0), .val (.int x1), .val (.long x2), .second, .unset, .unset, .unset, .unset] [(.int x1)])) rfl (hb hby at_1) _ kz) ?_
  refine own_g (mkF m 4 #[.val (.int x0), .val (.int x1), .val (.long x2), .second, .unset, .unset, .unset, .unset] [(.int (x1 &&& (2147483647 : Int32)))]) (fun _ kz => XS.iand X0.here hx rfl (hb hby at_3) rfl kz) ?_
  refine own_g (mkF m 5 #[.val (.int x0), .val (.int x1), .val (.long x2), .second, .unset, .unset, .unset, .unset] [(.int (5 : Int32)), (.int (x1 &&& (2147483647 : Int32)))]) (fun _ kz => XS.iconst X0.here hx rfl (hb hby at_4) kz) ?_
  refine own_g (mkF m 6 #[.val (.int x0), .val (.int x1), .val (.long x2), .second, .unset, .unset, .unset, .unset] [(.int ((x1 &&& (2147483647 : Int32)) % (5 : Int32)))]) (fun _ kz => iremM X0 hx rfl (hb hby at_5) rfl (by decide) kz) ?_
  obtain ⟨i, hi, hoff⟩ := own_off x1
  rw [hoff]
  show own_E p e below _ (s₁.setTop (mkF m 6 #[.val (.int x0), .val (.int x1), .val (.long x2), .second, .unset, .unset, .unset, .unset] [(.int (Int32.ofNat i))]))
  refine own_g (mkF m 8 #[.val (.int x0), .val (.int x1), .val (.long x2), .second, .val (.int (Int32.ofNat i)), .unset, .unset, .unset] []) (fun _ kz => XS.istore X0.here hx rfl (hb hby at_6) rfl (l' := #[.val (.int x0), .val (.int x1), .val (.long x2), .second, .val (.int (Int32.ofNat i)), .unset, .unset, .unset]) rfl kz) ?_
  refine own_g (mkF m 10 #[.val (.int x0), .val (.int x1), .val (.long x2), .second, .val (.int (Int32.ofNat i)), .unset, .unset, .unset] [(.int (8 : Int32))]) (fun _ kz => XS.bipush X0.here hx rfl (hb hby at_8) kz) ?_
  refine own_newI X0 hx hZ e0 (own_w hw 1 rfl) rfl (hb hby at_10) (by decide) (n := 8) rfl 8 (by decide) (by decide) (by decide) (by decide) ?_
  intro T1 h1 o1 g1 X1 e1 E1 A1
  have b2 : n0 ≤ o1 := Nat.le_trans Z0 (Nat.le_of_eq g1.symm)
  have s3 : n0 ≤ h1.size := Nat.le_trans Z0 E1.1
  show own_E p e below _ (T1.setTop (mkF m 12 #[.val (.int x0), .val (.int x1), .val (.long x2), .second, .val (.int (Int32.ofNat i)), .unset, .unset, .unset] [(.ref o1)]))
  refine own_g (mkF m 14 #[.val (.int x0), .val (.int x1), .val (.long x2), .second, .val (.int (Int32.ofNat i)), .val (.ref o1), .unset, .unset] []) (fun _ kz => XS.astore X1.here hx rfl (hb hby at_12) rfl rfl (l' := #[.val (.int x0), .val (.int x1), .val (.long x2), .second, .val (.int (Int32.ofNat i)), .val (.ref o1), .unset, .unset]) rfl kz) ?_
  refine own_g (mkF m 16 #[.val (.int x0), .val (.int x1), .val (.long x2), .second, .val (.int (Int32.ofNat i)), .val (.ref o1), .unset, .unset] [(.ref o1)]) (fun _ kz => XS.aload X1.here hx rfl (hb hby at_14) rfl rfl kz) ?_
  refine own_g (mkF m 17 #[.val (.int x0), .val (.int x1), .val (.long x2), .second, .val (.int (Int32.ofNat i)), .val (.ref o1), .unset, .unset] [(.int (0 : Int32)), (.ref o1)]) (fun _ kz => XS.iconst X1.here hx rfl (hb hby at_16) kz) ?_
  refine own_g (mkF m 18 #[.val (.int x0), .val (.int x1), .val (.long x2), .second, .val (.int (Int32.ofNat i)), .val (.ref o1), .unset, .unset] [(.long x2), (.int (0 : Int32)), (.ref o1)]) (fun _ kz => XS.lloadN X1.here hx rfl (hb hby at_17) rfl kz) ?_
  refine own_g (mkF m 19 #[.val (.int x0), .val (.int x1), .val (.long x2), .second, .val (.int (Int32.ofNat i)), .val (.ref o1), .unset, .unset] [(.int x2.toInt32), (.int (0 : Int32)), (.ref o1)]) (fun _ kz => XS.l2i X1.here hx rfl (hb hby at_18) rfl kz) ?_
  refine own_g (mkF m 20 #[.val (.int x0), .val (.int x1), .val (.long x2), .second, .val (.int (Int32.ofNat i)), .val (.ref o1), .unset, .unset] [(.int x2.toInt32.toInt8.toInt32), (.int (0 : Int32)), (.ref o1)]) (fun _ kz => XS.i2b X1.here hx rfl (hb hby at_19) rfl kz) ?_
  refine own_stB X1 hx hZ e1 A1 (hb hby at_20) (by decide) (i := 0) rfl (by decide) ?_
  intro T4 h4 X4 e4 W4 A4
  have N4 := Fr.snoc X4 N0 b2
  have s5 : n0 ≤ h4.size := Nat.le_trans s3 (Keep.of_wr W4).1
  show own_E p e below _ (T4.setTop (mkF m 21 #[.val (.int x0), .val (.int x1), .val (.long x2), .second, .val (.int (Int32.ofNat i)), .val (.ref o1), .unset, .unset] []))
  refine own_g (mkF m 23 #[.val (.int x0), .val (.int x1), .val (.long x2), .second, .val (.int (Int32.ofNat i)), .val (.ref o1), .unset, .unset] [(.ref o1)]) (fun _ kz => XS.aload X4.here hx rfl (hb hby at_21) rfl rfl kz) ?_
  refine own_g (mkF m 24 #[.val (.int x0), .val (.int x1), .val (.long x2), .second, .val (.int (Int32.ofNat i)), .val (.ref o1), .unset, .unset] [(.int (1 : Int32)), (.ref o1)]) (fun _ kz => XS.iconst X4.here hx rfl (hb hby at_23) kz) ?_
  refine own_g (mkF m 25 #[.val (.int x0), .val (.int x1), .val (.long x2), .second, .val (.int (Int32.ofNat i)), .val (.ref o1), .unset, .unset] [(.long x2), (.int (1 : Int32)), (.ref o1)]) (fun _ kz => XS.lloadN X4.here hx rfl (hb hby at_24) rfl kz) ?_
  refine own_g (mkF m 27 #[.val (.int x0), .val (.int x1), .val (.long x2), .second, .val (.int (Int32.ofNat i)), .val (.ref o1), .unset, .unset] [(.int (8 : Int32)), (.long x2), (.int (1 : Int32)), (.ref o1)]) (fun _ kz => XS.bipush X4.here hx rfl (hb hby at_25) kz) ?_
  refine own_g (mkF m 28 #[.val (.int x0), .val (.int x1), .val (.long x2), .second, .val (.int (Int32.ofNat i)), .val (.ref o1), .unset, .unset] [(.long ((x2.toUInt64 >>> ((8 : Int32) &&& 0x3f).toInt64.toUInt64).toInt64)), (.int (1 : Int32)), (.ref o1)]) (fun _ kz => XS.lushr X4.here hx rfl (hb hby at_27) rfl kz) ?_
  refine own_g (mkF m 29 #[.val (.int x0), .val (.int x1), .val (.long x2), .second, .val (.int (Int32.ofNat i)), .val (.ref o1), .unset, .unset] [(.int ((x2.toUInt64 >>> ((8 : Int32) &&& 0x3f).toInt64.toUInt64).toInt64).toInt32), (.int (1 : Int32)), (.ref o1)]) (fun _ kz => XS.l2i X4.here hx rfl (hb hby at_28) rfl kz) ?_
  refine own_g (mkF m 30 #[.val (.int x0), .val (.int x1), .val (.long x2), .second, .val (.int (Int32.ofNat i)), .val (.ref o1), .unset, .unset] [(.int ((x2.toUInt64 >>> ((8 : Int32) &&& 0x3f).toInt64.toUInt64).toInt64).toInt32.toInt8.toInt32), (.int (1 : Int32)), (.ref o1)]) (fun _ kz => XS.i2b X4.here hx rfl (hb hby at_29) rfl kz) ?_
  refine own_stB X4 hx hZ e4 A4 (hb hby at_30) (by decide) (i := 1) rfl (by decide) ?_
  intro T6 h6 X6 e6 W6 A6
  have N6 := Fr.snoc X6 N4 b2
  have s7 : n0 ≤ h6.size := Nat.le_trans s5 (Keep.of_wr W6).1
  show own_E p e below _ (T6.setTop (mkF m 31 #[.val (.int x0), .val (.int x1), .val (.long x2), .second, .val (.int (Int32.ofNat i)), .val (.ref o1), .unset, .unset] []))
  refine own_g (mkF m 33 #[.val (.int x0), .val (.int x1), .val (.long x2), .second, .val (.int (Int32.ofNat i)), .val (.ref o1), .unset, .unset] [(.ref o1)]) (fun _ kz => XS.aload X6.here hx rfl (hb hby at_31) rfl rfl kz) ?_
  refine own_g (mkF m 34 #[.val (.int x0), .val (.int x1), .val (.long x2), .second, .val (.int (Int32.ofNat i)), .val (.ref o1), .unset, .unset] [(.int (2 : Int32)), (.ref o1)]) (fun _ kz => XS.iconst X6.here hx rfl (hb hby at_33) kz) ?_
  refine own_g (mkF m 35 #[.val (.int x0), .val (.int x1), .val (.long x2), .second, .val (.int (Int32.ofNat i)), .val (.ref o1), .unset, .unset] [(.long x2), (.int (2 : Int32)), (.ref o1)]) (fun _ kz => XS.lloadN X6.here hx rfl (hb hby at_34) rfl kz) ?_
  refine own_g (mkF m 37 #[.val (.int x0), .val (.int x1), .val (.long x2), .second, .val (.int (Int32.ofNat i)), .val (.ref o1), .unset, .unset] [(.int (16 : Int32)), (.long x2), (.int (2 : Int32)), (.ref o1)]) (fun _ kz => XS.bipush X6.here hx rfl (hb hby at_35) kz) ?_
  refine own_g (mkF m 38 #[.val (.int x0), .val (.int x1), .val (.long x2), .second, .val (.int (Int32.ofNat i)), .val (.ref o1), .unset, .unset] [(.long ((x2.toUInt64 >>> ((16 : Int32) &&& 0x3f).toInt64.toUInt64).toInt64)), (.int (2 : Int32)), (.ref o1)]) (fun _ kz => XS.lushr X6.here hx rfl (hb hby at_37) rfl kz) ?_
  refine own_g (mkF m 39 #[.val (.int x0), .val (.int x1), .val (.long x2), .second, .val (.int (Int32.ofNat i)), .val (.ref o1), .unset, .unset] [(.int ((x2.toUInt64 >>> ((16 : Int32) &&& 0x3f).toInt64.toUInt64).toInt64).toInt32), (.int (2 : Int32)), (.ref o1)]) (fun _ kz => XS.l2i X6.here hx rfl (hb hby at_38) rfl kz) ?_
  refine own_g (mkF m 40 #[.val (.int x0), .val (.int x1), .val (.long x2), .second, .val (.int (Int32.ofNat i)), .val (.ref o1), .unset, .unset] [(.int ((x2.toUInt64 >>> ((16 : Int32) &&& 0x3f).toInt64.toUInt64).toInt64).toInt32.toInt8.toInt32), (.int (2 : Int32)), (.ref o1)]) (fun _ kz => XS.i2b X6.here hx rfl (hb hby at_39) rfl kz) ?_
  refine own_stB X6 hx hZ e6 A6 (hb hby at_40) (by decide) (i := 2) rfl (by decide) ?_
  intro T8 h8 X8 e8 W8 A8
  have N8 := Fr.snoc X8 N6 b2
  have s9 : n0 ≤ h8.size := Nat.le_trans s7 (Keep.of_wr W8).1
  show own_E p e below _ (T8.setTop (mkF m 41 #[.val (.int x0), .val (.int x1), .val (.long x2), .second, .val (.int (Int32.ofNat i)), .val (.ref o1), .unset, .unset] []))
  refine own_g (mkF m 43 #[.val (.int x0), .val (.int x1), .val (.long x2), .second, .val (.int (Int32.ofNat i)), .val (.ref o1), .unset, .unset] [(.ref o1)]) (fun _ kz => XS.aload X8.here hx rfl (hb hby at_41) rfl rfl kz) ?_
  refine own_g (mkF m 44 #[.val (.int x0), .val (.int x1), .val (.long x2), .second, .val (.int (Int32.ofNat i)), .val (.ref o1), .unset, .unset] [(.int (3 : Int32)), (.ref o1)]) (fun _ kz => XS.iconst X8.here hx rfl (hb hby at_43) kz) ?_
  refine own_g (mkF m 45 #[.val (.int x0), .val (.int x1), .val (.long x2), .second, .val (.int (Int32.ofNat i)), .val (.ref o1), .unset, .unset] [(.long x2), (.int (3 : Int32)), (.ref o1)]) (fun _ kz => XS.lloadN X8.here hx rfl (hb hby at_44) rfl kz) ?_
  refine own_g (mkF m 47 #[.val (.int x0), .val (.int x1), .val (.long x2), .second, .val (.int (Int32.ofNat i)), .val (.ref o1), .unset, .unset] [(.int (24 : Int32)), (.long x2), (.int (3 : Int32)), (.ref o1)]) (fun _ kz => XS.bipush X8.here hx rfl (hb hby at_45) kz) ?_
  refine own_g (mkF m 48 #[.val (.int x0), .val (.int x1), .val (.long x2), .second, .val (.int (Int32.ofNat i)), .val (.ref o1), .unset, .unset] [(.long ((x2.toUInt64 >>> ((24 : Int32) &&& 0x3f).toInt64.toUInt64).toInt64)), (.int (3 : Int32)), (.ref o1)]) (fun _ kz => XS.lushr X8.here hx rfl (hb hby at_47) rfl kz) ?_
  refine own_g (mkF m 49 #[.val (.int x0), .val (.int x1), .val (.long x2), .second, .val (.int (Int32.ofNat i)), .val (.ref o1), .unset, .unset] [(.int ((x2.toUInt64 >>> ((24 : Int32) &&& 0x3f).toInt64.toUInt64).toInt64).toInt32), (.int (3 : Int32)), (.ref o1)]) (fun _ kz => XS.l2i X8.here hx rfl (hb hby at_48) rfl kz) ?_
  refine own_g (mkF m 50 #[.val (.int x0), .val (.int x1), .val (.long x2), .second, .val (.int (Int32.ofNat i)), .val (.ref o1), .unset, .unset] [(.int ((x2.toUInt64 >>> ((24 : Int32) &&& 0x3f).toInt64.toUInt64).toInt64).toInt32.toInt8.toInt32), (.int (3 : Int32)), (.ref o1)]) (fun _ kz => XS.i2b X8.here hx rfl (hb hby at_49) rfl kz) ?_
  refine own_stB X8 hx hZ e8 A8 (hb hby at_50) (by decide) (i := 3) rfl (by decide) ?_
  intro T10 h10 X10 e10 W10 A10
  have N10 := Fr.snoc X10 N8 b2
  have s11 : n0 ≤ h10.size := Nat.le_trans s9 (Keep.of_wr W10).1
  show own_E p e below _ (T10.setTop (mkF m 51 #[.val (.int x0), .val (.int x1), .val (.long x2), .second, .val (.int (Int32.ofNat i)), .val (.ref o1), .unset, .unset] []))
  refine own_g (mkF m 53 #[.val (.int x0), .val (.int x1), .val (.long x2), .second, .val (.int (Int32.ofNat i)), .val (.ref o1), .unset, .unset] [(.ref o1)]) (fun _ kz => XS.aload X10.here hx rfl (hb hby at_51) rfl rfl kz) ?_
  refine own_g (mkF m 54 #[.val (.int x0), .val (.int x1), .val (.long x2), .second, .val (.int (Int32.ofNat i)), .val (.ref o1), .unset, .unset] [(.int (4 : Int32)), (.ref o1)]) (fun _ kz => XS.iconst X10.here hx rfl (hb hby at_53) kz) ?_
  refine own_g (mkF m 55 #[.val (.int x0), .val (.int x1), .val (.long x2), .second, .val (.int (Int32.ofNat i)), .val (.ref o1), .unset, .unset] [(.long x2), (.int (4 : Int32)), (.ref o1)]) (fun _ kz => XS.lloadN X10.here hx rfl (hb hby at_54) rfl kz) ?_
  refine own_g (mkF m 57 #[.val (.int x0), .val (.int x1), .val (.long x2), .second, .val (.int (Int32.ofNat i)), .val (.ref o1), .unset, .unset] [(.int (32 : Int32)), (.long x2), (.int (4 : Int32)), (.ref o1)]) (fun _ kz => XS.bipush X10.here hx rfl (hb hby at_55) kz) ?_
  refine own_g (mkF m 58 #[.val (.int x0), .val (.int x1), .val (.long x2), .second, .val (.int (Int32.ofNat i)), .val (.ref o1), .unset, .unset] [(.long ((x2.toUInt64 >>> ((32 : Int32) &&& 0x3f).toInt64.toUInt64).toInt64)), (.int (4 : Int32)), (.ref o1)]) (fun _ kz => XS.lushr X10.here hx rfl (hb hby at_57) rfl kz) ?_
  refine own_g (mkF m 59 #[.val (.int x0), .val (.int x1), .val (.long x2), .second, .val (.int (Int32.ofNat i)), .val (.ref o1), .unset, .unset] [(.int ((x2.toUInt64 >>> ((32 : Int32) &&& 0x3f).toInt64.toUInt64).toInt64).toInt32), (.int (4 : Int32)), (.ref o1)]) (fun _ kz => XS.l2i X10.here hx rfl (hb hby at_58) rfl kz) ?_
  refine own_g (mkF m 60 #[.val (.int x0), .val (.int x1), .val (.long x2), .second, .val (.int (Int32.ofNat i)), .val (.ref o1), .unset, .unset] [(.int ((x2.toUInt64 >>> ((32 : Int32) &&& 0x3f).toInt64.toUInt64).toInt64).toInt32.toInt8.toInt32), (.int (4 : Int32)), (.ref o1)]) (fun _ kz => XS.i2b X10.here hx rfl (hb hby at_59) rfl kz) ?_
  refine own_stB X10 hx hZ e10 A10 (hb hby at_60) (by decide) (i := 4) rfl (by decide) ?_
  intro T12 h12 X12 e12 W12 A12
  have N12 := Fr.snoc X12 N10 b2
  have s13 : n0 ≤ h12.size := Nat.le_trans s11 (Keep.of_wr W12).1
  show own_E p e below _ (T12.setTop (mkF m 61 #[.val (.int x0), .val (.int x1), .val (.long x2), .second, .val (.int (Int32.ofNat i)), .val (.ref o1), .unset, .unset] []))
  refine own_g (mkF m 63 #[.val (.int x0), .val (.int x1), .val (.long x2), .second, .val (.int (Int32.ofNat i)), .val (.ref o1), .unset, .unset] [(.ref o1)]) (fun _ kz => XS.aload X12.here hx rfl (hb hby at_61) rfl rfl kz) ?_
  refine own_g (mkF m 64 #[.val (.int x0), .val (.int x1), .val (.long x2), .second, .val (.int (Int32.ofNat i)), .val (.ref o1), .unset, .unset] [(.int (5 : Int32)), (.ref o1)]) (fun _ kz => XS.iconst X12.here hx rfl (hb hby at_63) kz) ?_
  refine own_g (mkF m 65 #[.val (.int x0), .val (.int x1), .val (.long x2), .second, .val (.int (Int32.ofNat i)), .val (.ref o1), .unset, .unset] [(.long x2), (.int (5 : Int32)), (.ref o1)]) (fun _ kz => XS.lloadN X12.here hx rfl (hb hby at_64) rfl kz) ?_
  refine own_g (mkF m 67 #[.val (.int x0), .val (.int x1), .val (.long x2), .second, .val (.int (Int32.ofNat i)), .val (.ref o1), .unset, .unset] [(.int (40 : Int32)), (.long x2), (.int (5 : Int32)), (.ref o1)]) (fun _ kz => XS.bipush X12.here hx rfl (hb hby at_65) kz) ?_
  refine own_g (mkF m 68 #[.val (.int x0), .val (.int x1), .val (.long x2), .second, .val (.int (Int32.ofNat i)), .val (.ref o1), .unset, .unset] [(.long ((x2.toUInt64 >>> ((40 : Int32) &&& 0x3f).toInt64.toUInt64).toInt64)), (.int (5 : Int32)), (.ref o1)]) (fun _ kz => XS.lushr X12.here hx rfl (hb hby at_67) rfl kz) ?_
  refine own_g (mkF m 69 #[.val (.int x0), .val (.int x1), .val (.long x2), .second, .val (.int (Int32.ofNat i)), .val (.ref o1), .unset, .unset] [(.int ((x2.toUInt64 >>> ((40 : Int32) &&& 0x3f).toInt64.toUInt64).toInt64).toInt32), (.int (5 : Int32)), (.ref o1)]) (fun _ kz => XS.l2i X12.here hx rfl (hb hby at_68) rfl kz) ?_
  refine own_g (mkF m 70 #[.val (.int x0), .val (.int x1), .val (.long x2), .second, .val (.int (Int32.ofNat i)), .val (.ref o1), .unset, .unset] [(.int ((x2.toUInt64 >>> ((40 : Int32) &&& 0x3f).toInt64.toUInt64).toInt64).toInt32.toInt8.toInt32), (.int (5 : Int32)), (.ref o1)]) (fun _ kz => XS.i2b X12.here hx rfl (hb hby at_69) rfl kz) ?_
  refine own_stB X12 hx hZ e12 A12 (hb hby at_70) (by decide) (i := 5) rfl (by decide) ?_
  intro T14 h14 X14 e14 W14 A14
  have N14 := Fr.snoc X14 N12 b2
  have s15 : n0 ≤ h14.size := Nat.le_trans s13 (Keep.of_wr W14).1
  show own_E p e below _ (T14.setTop (mkF m 71 #[.val (.int x0), .val (.int x1), .val (.long x2), .second, .val (.int (Int32.ofNat i)), .val (.ref o1), .unset, .unset] []))
  refine own_g (mkF m 73 #[.val (.int x0), .val (.int x1), .val (.long x2), .second, .val (.int (Int32.ofNat i)), .val (.ref o1), .unset, .unset] [(.ref o1)]) (fun _ kz => XS.aload X14.here hx rfl (hb hby at_71) rfl rfl kz) ?_
  refine own_g (mkF m 75 #[.val (.int x0), .val (.int x1), .val (.long x2), .second, .val (.int (Int32.ofNat i)), .val (.ref o1), .unset, .unset] [(.int (6 : Int32)), (.ref o1)]) (fun _ kz => XS.bipush X14.here hx rfl (hb hby at_73) kz) ?_
  refine own_g (mkF m 76 #[.val (.int x0), .val (.int x1), .val (.long x2), .second, .val (.int (Int32.ofNat i)), .val (.ref o1), .unset, .unset] [(.long x2), (.int (6 : Int32)), (.ref o1)]) (fun _ kz => XS.lloadN X14.here hx rfl (hb hby at_75) rfl kz) ?_
  refine own_g (mkF m 78 #[.val (.int x0), .val (.int x1), .val (.long x2), .second, .val (.int (Int32.ofNat i)), .val (.ref o1), .unset, .unset] [(.int (48 : Int32)), (.long x2), (.int (6 : Int32)), (.ref o1)]) (fun _ kz => XS.bipush X14.here hx rfl (hb hby at_76) kz) ?_
  refine own_g (mkF m 79 #[.val (.int x0), .val (.int x1), .val (.long x2), .second, .val (.int (Int32.ofNat i)), .val (.ref o1), .unset, .unset] [(.long ((x2.toUInt64 >>> ((48 : Int32) &&& 0x3f).toInt64.toUInt64).toInt64)), (.int (6 : Int32)), (.ref o1)]) (fun _ kz => XS.lushr X14.here hx rfl (hb hby at_78) rfl kz) ?_
  refine own_g (mkF m 80 #[.val (.int x0), .val (.int x1), .val (.long x2), .second, .val (.int (Int32.ofNat i)), .val (.ref o1), .unset, .unset] [(.int ((x2.toUInt64 >>> ((48 : Int32) &&& 0x3f).toInt64.toUInt64).toInt64).toInt32), (.int (6 : Int32)), (.ref o1)]) (fun _ kz => XS.l2i X14.here hx rfl (hb hby at_79) rfl kz) ?_
  refine own_g (mkF m 81 #[.val (.int x0), .val (.int x1), .val (.long x2), .second, .val (.int (Int32.ofNat i)), .val (.ref o1), .unset, .unset] [(.int ((x2.toUInt64 >>> ((48 : Int32) &&& 0x3f).toInt64.toUInt64).toInt64).toInt32.toInt8.toInt32), (.int (6 : Int32)), (.ref o1)]) (fun _ kz => XS.i2b X14.here hx rfl (hb hby at_80) rfl kz) ?_
  refine own_stB X14 hx hZ e14 A14 (hb hby at_81) (by decide) (i := 6) rfl (by decide) ?_
  intro T16 h16 X16 e16 W16 A16
  have N16 := Fr.snoc X16 N14 b2
  have s17 : n0 ≤ h16.size := Nat.le_trans s15 (Keep.of_wr W16).1
  show own_E p e below _ (T16.setTop (mkF m 82 #[.val (.int x0), .val (.int x1), .val (.long x2), .second, .val (.int (Int32.ofNat i)), .val (.ref o1), .unset, .unset] []))
  refine own_g (mkF m 84 #[.val (.int x0), .val (.int x1), .val (.long x2), .second, .val (.int (Int32.ofNat i)), .val (.ref o1), .unset, .unset] [(.ref o1)]) (fun _ kz => XS.aload X16.here hx rfl (hb hby at_82) rfl rfl kz) ?_
  refine own_g (mkF m 86 #[.val (.int x0), .val (.int x1), .val (.long x2), .second, .val (.int (Int32.ofNat i)), .val (.ref o1), .unset, .unset] [(.int (7 : Int32)), (.ref o1)]) (fun _ kz => XS.bipush X16.here hx rfl (hb hby at_84) kz) ?_
  refine own_g (mkF m 87 #[.val (.int x0), .val (.int x1), .val (.long x2), .second, .val (.int (Int32.ofNat i)), .val (.ref o1), .unset, .unset] [(.long x2), (.int (7 : Int32)), (.ref o1)]) (fun _ kz => XS.lloadN X16.here hx rfl (hb hby at_86) rfl kz) ?_
  refine own_g (mkF m 89 #[.val (.int x0), .val (.int x1), .val (.long x2), .second, .val (.int (Int32.ofNat i)), .val (.ref o1), .unset, .unset] [(.int (56 : Int32)), (.long x2), (.int (7 : Int32)), (.ref o1)]) (fun _ kz => XS.bipush X16.here hx rfl (hb hby at_87) kz) ?_
  refine own_g (mkF m 90 #[.val (.int x0), .val (.int x1), .val (.long x2), .second, .val (.int (Int32.ofNat i)), .val (.ref o1), .unset, .unset] [(.long ((x2.toUInt64 >>> ((56 : Int32) &&& 0x3f).toInt64.toUInt64).toInt64)), (.int (7 : Int32)), (.ref o1)]) (fun _ kz => XS.lushr X16.here hx rfl (hb hby at_89) rfl kz) ?_
  refine own_g (mkF m 91 #[.val (.int x0), .val (.int x1), .val (.long x2), .second, .val (.int (Int32.ofNat i)), .val (.ref o1), .unset, .unset] [(.int ((x2.toUInt64 >>> ((56 : Int32) &&& 0x3f).toInt64.toUInt64).toInt64).toInt32), (.int (7 : Int32)), (.ref o1)]) (fun _ kz => XS.l2i X16.here hx rfl (hb hby at_90) rfl kz) ?_
  refine own_g (mkF m 92 #[.val (.int x0), .val (.int x1), .val (.long x2), .second, .val (.int (Int32.ofNat i)), .val (.ref o1), .unset, .unset] [(.int ((x2.toUInt64 >>> ((56 : Int32) &&& 0x3f).toInt64.toUInt64).toInt64).toInt32.toInt8.toInt32), (.int (7 : Int32)), (.ref o1)]) (fun _ kz => XS.i2b X16.here hx rfl (hb hby at_91) rfl kz) ?_
  refine own_stB X16 hx hZ e16 A16 (hb hby at_92) (by decide) (i := 7) rfl (by decide) ?_
  intro T18 h18 X18 e18 W18 A18
  have N18 := Fr.snoc X18 N16 b2
  have s19 : n0 ≤ h18.size := Nat.le_trans s17 (Keep.of_wr W18).1
  show own_E p e below _ (T18.setTop (mkF m 93 #[.val (.int x0), .val (.int x1), .val (.long x2), .second, .val (.int (Int32.ofNat i)), .val (.ref o1), .unset, .unset] []))
  refine own_g (mkF m 95 #[.val (.int x0), .val (.int x1), .val (.long x2), .second, .val (.int (Int32.ofNat i)), .val (.ref o1), .unset, .unset] [(.ref o1)]) (fun _ kz => XS.aload X18.here hx rfl (hb hby at_93) rfl rfl kz) ?_
  refine own_g (mkF m 97 #[.val (.int x0), .val (.int x1), .val (.long x2), .second, .val (.int (Int32.ofNat i)), .val (.ref o1), .unset, .unset] [(.int (Int32.ofNat i)), (.ref o1)]) (fun _ kz => XS.iload X18.here hx rfl (hb hby at_95) rfl kz) ?_
  refine own_g (mkF m 98 #[.val (.int x0), .val (.int x1), .val (.long x2), .second, .val (.int (Int32.ofNat i)), .val (.ref o1), .unset, .unset] [(.int x0), (.int (Int32.ofNat i)), (.ref o1)]) (fun _ kz => XS.iloadN X18.here hx rfl (hb hby at_97) rfl kz) ?_
  refine own_g (mkF m 99 #[.val (.int x0), .val (.int x1), .val (.long x2), .second, .val (.int (Int32.ofNat i)), .val (.ref o1), .unset, .unset] [(.int x0.toInt8.toInt32), (.int (Int32.ofNat i)), (.ref o1)]) (fun _ kz => XS.i2b X18.here hx rfl (hb hby at_98) rfl kz) ?_
  refine own_stB X18 hx hZ e18 A18 (hb hby at_99) (own_ix0 hi).1 (i := i) (own_ix0 hi).2 (by omega) ?_
  intro T20 h20 X20 e20 W20 A20
  have N20 := Fr.snoc X20 N18 b2
  have s21 : n0 ≤ h20.size := Nat.le_trans s19 (Keep.of_wr W20).1
  show own_E p e below _ (T20.setTop (mkF m 100 #[.val (.int x0), .val (.int x1), .val (.long x2), .second, .val (.int (Int32.ofNat i)), .val (.ref o1), .unset, .unset] []))
  refine own_g (mkF m 102 #[.val (.int x0), .val (.int x1), .val (.long x2), .second, .val (.int (Int32.ofNat i)), .val (.ref o1), .unset, .unset] [(.ref o1)]) (fun _ kz => XS.aload X20.here hx rfl (hb hby at_100) rfl rfl kz) ?_
  refine own_g (mkF m 104 #[.val (.int x0), .val (.int x1), .val (.long x2), .second, .val (.int (Int32.ofNat i)), .val (.ref o1), .unset, .unset] [(.int (Int32.ofNat i)), (.ref o1)]) (fun _ kz => XS.iload X20.here hx rfl (hb hby at_102) rfl kz) ?_
  refine own_g (mkF m 105 #[.val (.int x0), .val (.int x1), .val (.long x2), .second, .val (.int (Int32.ofNat i)), .val (.ref o1), .unset, .unset] [(.int (1 : Int32)), (.int (Int32.ofNat i)), (.ref o1)]) (fun _ kz => XS.iconst X20.here hx rfl (hb hby at_104) kz) ?_
  refine own_g (mkF m 106 #[.val (.int x0), .val (.int x1), .val (.long x2), .second, .val (.int (Int32.ofNat i)), .val (.ref o1), .unset, .unset] [(.int ((Int32.ofNat i) + (1 : Int32))), (.ref o1)]) (fun _ kz => XS.iadd X20.here hx rfl (hb hby at_105) rfl kz) ?_
  refine own_g (mkF m 107 #[.val (.int x0), .val (.int x1), .val (.long x2), .second, .val (.int (Int32.ofNat i)), .val (.ref o1), .unset, .unset] [(.int x0), (.int ((Int32.ofNat i) + (1 : Int32))), (.ref o1)]) (fun _ kz => XS.iloadN X20.here hx rfl (hb hby at_106) rfl kz) ?_
  refine own_g (mkF m 109 #[.val (.int x0), .val (.int x1), .val (.long x2), .second, .val (.int (Int32.ofNat i)), .val (.ref o1), .unset, .unset] [(.int (8 : Int32)), (.int x0), (.int ((Int32.ofNat i) + (1 : Int32))), (.ref o1)]) (fun _ kz => XS.bipush X20.here hx rfl (hb hby at_107) kz) ?_
  refine own_g (mkF m 110 #[.val (.int x0), .val (.int x1), .val (.long x2), .second, .val (.int (Int32.ofNat i)), .val (.ref o1), .unset, .unset] [(.int ((x0.toUInt32 >>> ((8 : Int32) &&& 31).toUInt32).toInt32)), (.int ((Int32.ofNat i) + (1 : Int32))), (.ref o1)]) (fun _ kz => XS.iushr X20.here hx rfl (hb hby at_109) rfl kz) ?_
  refine own_g (mkF m 111 #[.val (.int x0), .val (.int x1), .val (.long x2), .second, .val (.int (Int32.ofNat i)), .val (.ref o1), .unset, .unset] [(.int ((x0.toUInt32 >>> ((8 : Int32) &&& 31).toUInt32).toInt32).toInt8.toInt32), (.int ((Int32.ofNat i) + (1 : Int32))), (.ref o1)]) (fun _ kz => XS.i2b X20.here hx rfl (hb hby at_110) rfl kz) ?_
  refine own_stB X20 hx hZ e20 A20 (hb hby at_111) (own_ix hi 1 (by decide)).1 (i := (i + 1)) (own_ix hi 1 (by decide)).2 (by omega) ?_
  intro T22 h22 X22 e22 W22 A22
  have N22 := Fr.snoc X22 N20 b2
  have s23 : n0 ≤ h22.size := Nat.le_trans s21 (Keep.of_wr W22).1
  show own_E p e below _ (T22.setTop (mkF m 112 #[.val (.int x0), .val (.int x1), .val (.long x2), .second, .val (.int (Int32.ofNat i)), .val (.ref o1), .unset, .unset] []))
  refine own_g (mkF m 114 #[.val (.int x0), .val (.int x1), .val (.long x2), .second, .val (.int (Int32.ofNat i)), .val (.ref o1), .unset, .unset] [(.ref o1)]) (fun _ kz => XS.aload X22.here hx rfl (hb hby at_112) rfl rfl kz) ?_
  refine own_g (mkF m 116 #[.val (.int x0), .val (.int x1), .val (.long x2), .second, .val (.int (Int32.ofNat i)), .val (.ref o1), .unset, .unset] [(.int (Int32.ofNat i)), (.ref o1)]) (fun _ kz => XS.iload X22.here hx rfl (hb hby at_114) rfl kz) ?_
  refine own_g (mkF m 117 #[.val (.int x0), .val (.int x1), .val (.long x2), .second, .val (.int (Int32.ofNat i)), .val (.ref o1), .unset, .unset] [(.int (2 : Int32)), (.int (Int32.ofNat i)), (.ref o1)]) (fun _ kz => XS.iconst X22.here hx rfl (hb hby at_116) kz) ?_
  refine own_g (mkF m 118 #[.val (.int x0), .val (.int x1), .val (.long x2), .second, .val (.int (Int32.ofNat i)), .val (.ref o1), .unset, .unset] [(.int ((Int32.ofNat i) + (2 : Int32))), (.ref o1)]) (fun _ kz => XS.iadd X22.here hx rfl (hb hby at_117) rfl kz) ?_
  refine own_g (mkF m 119 #[.val (.int x0), .val (.int x1), .val (.long x2), .second, .val (.int (Int32.ofNat i)), .val (.ref o1), .unset, .unset] [(.int x0), (.int ((Int32.ofNat i) + (2 : Int32))), (.ref o1)]) (fun _ kz => XS.iloadN X22.here hx rfl (hb hby at_118) rfl kz) ?_
  refine own_g (mkF m 121 #[.val (.int x0), .val (.int x1), .val (.long x2), .second, .val (.int (Int32.ofNat i)), .val (.ref o1), .unset, .unset] [(.int (16 : Int32)), (.int x0), (.int ((Int32.ofNat i) + (2 : Int32))), (.ref o1)]) (fun _ kz => XS.bipush X22.here hx rfl (hb hby at_119) kz) ?_
  refine own_g (mkF m 122 #[.val (.int x0), .val (.int x1), .val (.long x2), .second, .val (.int (Int32.ofNat i)), .val (.ref o1), .unset, .unset] [(.int ((x0.toUInt32 >>> ((16 : Int32) &&& 31).toUInt32).toInt32)), (.int ((Int32.ofNat i) + (2 : Int32))), (.ref o1)]) (fun _ kz => XS.iushr X22.here hx rfl (hb hby at_121) rfl kz) ?_
  refine own_g (mkF m 123 #[.val (.int x0), .val (.int x1), .val (.long x2), .second, .val (.int (Int32.ofNat i)), .val (.ref o1), .unset, .unset] [(.int ((x0.toUInt32 >>> ((16 : Int32) &&& 31).toUInt32).toInt32).toInt8.toInt32), (.int ((Int32.ofNat i) + (2 : Int32))), (.ref o1)]) (fun _ kz => XS.i2b X22.here hx rfl (hb hby at_122) rfl kz) ?_
  refine own_stB X22 hx hZ e22 A22 (hb hby at_123) (own_ix hi 2 (by decide)).1 (i := (i + 2)) (own_ix hi 2 (by decide)).2 (by omega) ?_
  intro T24 h24 X24 e24 W24 A24
  have N24 := Fr.snoc X24 N22 b2
  have s25 : n0 ≤ h24.size := Nat.le_trans s23 (Keep.of_wr W24).1
  show own_E p e below _ (T24.setTop (mkF m 124 #[.val (.int x0), .val (.int x1), .val (.long x2), .second, .val (.int (Int32.ofNat i)), .val (.ref o1), .unset, .unset] []))
  refine own_g (mkF m 126 #[.val (.int x0), .val (.int x1), .val (.long x2), .second, .val (.int (Int32.ofNat i)), .val (.ref o1), .unset, .unset] [(.ref o1)]) (fun _ kz => XS.aload X24.here hx rfl (hb hby at_124) rfl rfl kz) ?_
  refine own_g (mkF m 128 #[.val (.int x0), .val (.int x1), .val (.long x2), .second, .val (.int (Int32.ofNat i)), .val (.ref o1), .unset, .unset] [(.int (Int32.ofNat i)), (.ref o1)]) (fun _ kz => XS.iload X24.here hx rfl (hb hby at_126) rfl kz) ?_
  refine own_g (mkF m 129 #[.val (.int x0), .val (.int x1), .val (.long x2), .second, .val (.int (Int32.ofNat i)), .val (.ref o1), .unset, .unset] [(.int (3 : Int32)), (.int (Int32.ofNat i)), (.ref o1)]) (fun _ kz => XS.iconst X24.here hx rfl (hb hby at_128) kz) ?_
  refine own_g (mkF m 130 #[.val (.int x0), .val (.int x1), .val (.long x2), .second, .val (.int (Int32.ofNat i)), .val (.ref o1), .unset, .unset] [(.int ((Int32.ofNat i) + (3 : Int32))), (.ref o1)]) (fun _ kz => XS.iadd X24.here hx rfl (hb hby at_129) rfl kz) ?_
  refine own_g (mkF m 131 #[.val (.int x0), .val (.int x1), .val (.long x2), .second, .val (.int (Int32.ofNat i)), .val (.ref o1), .unset, .unset] [(.int x0), (.int ((Int32.ofNat i) + (3 : Int32))), (.ref o1)]) (fun _ kz => XS.iloadN X24.here hx rfl (hb hby at_130) rfl kz) ?_
  refine own_g (mkF m 133 #[.val (.int x0), .val (.int x1), .val (.long x2), .second, .val (.int (Int32.ofNat i)), .val (.ref o1), .unset, .unset] [(.int (24 : Int32)), (.int x0), (.int ((Int32.ofNat i) + (3 : Int32))), (.ref o1)]) (fun _ kz => XS.bipush X24.here hx rfl (hb hby at_131) kz) ?_
  refine own_g (mkF m 134 #[.val (.int x0), .val (.int x1), .val (.long x2), .second, .val (.int (Int32.ofNat i)), .val (.ref o1), .unset, .unset] [(.int ((x0.toUInt32 >>> ((24 : Int32) &&& 31).toUInt32).toInt32)), (.int ((Int32.ofNat i) + (3 : Int32))), (.ref o1)]) (fun _ kz => XS.iushr X24.here hx rfl (hb hby at_133) rfl kz) ?_
  refine own_g (mkF m 135 #[.val (.int x0), .val (.int x1), .val (.long x2), .second, .val (.int (Int32.ofNat i)), .val (.ref o1), .unset, .unset] [(.int ((x0.toUInt32 >>> ((24 : Int32) &&& 31).toUInt32).toInt32).toInt8.toInt32), (.int ((Int32.ofNat i) + (3 : Int32))), (.ref o1)]) (fun _ kz => XS.i2b X24.here hx rfl (hb hby at_134) rfl kz) ?_
  refine own_stB X24 hx hZ e24 A24 (hb hby at_135) (own_ix hi 3 (by decide)).1 (i := (i + 3)) (own_ix hi 3 (by decide)).2 (by omega) ?_
  intro T26 h26 X26 e26 W26 A26
  have N26 := Fr.snoc X26 N24 b2
  have s27 : n0 ≤ h26.size := Nat.le_trans s25 (Keep.of_wr W26).1
  show own_E p e below _ (T26.setTop (mkF m 136 #[.val (.int x0), .val (.int x1), .val (.long x2), .second, .val (.int (Int32.ofNat i)), .val (.ref o1), .unset, .unset] []))
  refine own_g (mkF m 138 #[.val (.int x0), .val (.int x1), .val (.long x2), .second, .val (.int (Int32.ofNat i)), .val (.ref o1), .unset, .unset] [(.ref o1)]) (fun _ kz => XS.aload X26.here hx rfl (hb hby at_136) rfl rfl kz) ?_
  refine own_g (mkF m 140 #[.val (.int x0), .val (.int x1), .val (.long x2), .second, .val (.int (Int32.ofNat i)), .val (.ref o1), .unset, .unset] [(.int (Int32.ofNat i)), (.ref o1)]) (fun _ kz => XS.iload X26.here hx rfl (hb hby at_138) rfl kz) ?_
  obtain ⟨F, hF, AF⟩ : ∃ F, F = (own_set (own_set (own_set (own_set (own_set (own_set (own_set (own_set (own_set (own_set (own_set (own_set (fun _ => (0 : Int32)) 0 (nar .byte x2.toInt32.toInt8.toInt32)) 1 (nar .byte ((x2.toUInt64 >>> ((8 : Int32) &&& 0x3f).toInt64.toUInt64).toInt64).toInt32.toInt8.toInt32)) 2 (nar .byte ((x2.toUInt64 >>> ((16 : Int32) &&& 0x3f).toInt64.toUInt64).toInt64).toInt32.toInt8.toInt32)) 3 (nar .byte ((x2.toUInt64 >>> ((24 : Int32) &&& 0x3f).toInt64.toUInt64).toInt64).toInt32.toInt8.toInt32)) 4 (nar .byte ((x2.toUInt64 >>> ((32 : Int32) &&& 0x3f).toInt64.toUInt64).toInt64).toInt32.toInt8.toInt32)) 5 (nar .byte ((x2.toUInt64 >>> ((40 : Int32) &&& 0x3f).toInt64.toUInt64).toInt64).toInt32.toInt8.toInt32)) 6 (nar .byte ((x2.toUInt64 >>> ((48 : Int32) &&& 0x3f).toInt64.toUInt64).toInt64).toInt32.toInt8.toInt32)) 7 (nar .byte ((x2.toUInt64 >>> ((56 : Int32) &&& 0x3f).toInt64.toUInt64).toInt64).toInt32.toInt8.toInt32)) i (nar .byte x0.toInt8.toInt32)) (i + 1) (nar .byte ((x0.toUInt32 >>> ((8 : Int32) &&& 31).toUInt32).toInt32).toInt8.toInt32)) (i + 2) (nar .byte ((x0.toUInt32 >>> ((16 : Int32) &&& 31).toUInt32).toInt32).toInt8.toInt32)) (i + 3) (nar .byte ((x0.toUInt32 >>> ((24 : Int32) &&& 31).toUInt32).toInt32).toInt8.toInt32)) ∧ own_IA Z h26 o1 .byte 8 F := ⟨_, rfl, A26⟩
  have hb0 : F (i) = own_by x0 := by rw [hF]; simp [own_set, own_by]
  have hb1 : F (i + 1) = own_by ((x0.toUInt32 >>> ((8 : Int32) &&& 31).toUInt32).toInt32) := by rw [hF]; simp [own_set, own_by]
  have hb2 : F (i + 2) = own_by ((x0.toUInt32 >>> ((16 : Int32) &&& 31).toUInt32).toInt32) := by rw [hF]; simp [own_set, own_by]
  have hb3 : F (i + 3) = own_by ((x0.toUInt32 >>> ((24 : Int32) &&& 31).toUInt32).toInt32) := by rw [hF]; simp [own_set, own_by]
  refine own_callS (rest := []) (as := [(.ref o1), (.int (Int32.ofNat i))]) X26 hx hZ hown e26 (own_c_le l Z a0 hw o1 F i h26 hi AF) (own_w hw 2 rfl) (own_w hw 3 rfl) (own_w hw 4 rfl) (own_w hw 5 rfl) (by decide) own_pd0 rfl (by rw [hml]; rfl) rfl (hb hby at_140) 0 (by show 2 * 0 + _ ≤ _; exact Nat.le_of_eq rfl) (by decide) (by decide) (by decide) (by decide) ?_
  rintro _ T28 L28 X28 ⟨rfl, rfl, e28⟩
  have N28 := Fr.app N26 (Fr.nil n0)
  show own_E p e below _ (T28.setTop (mkF m 143 #[.val (.int x0), .val (.int x1), .val (.long x2), .second, .val (.int (Int32.ofNat i)), .val (.ref o1), .unset, .unset] [(.long (own_le (F i) (F (i + 1)) (F (i + 2)) (F (i + 3))))]))
  refine own_g (mkF m 145 #[.val (.int x0), .val (.int x1), .val (.long x2), .second, .val (.int (Int32.ofNat i)), .val (.ref o1), .val (.long (own_le (F i) (F (i + 1)) (F (i + 2)) (F (i + 3)))), .second] []) (fun _ kz => XS.lstore X28.here hx rfl (hb hby at_143) rfl (l' := #[.val (.int x0), .val (.int x1), .val (.long x2), .second, .val (.int (Int32.ofNat i)), .val (.ref o1), .val (.long (own_le (F i) (F (i + 1)) (F (i + 2)) (F (i + 3)))), .second]) rfl kz) ?_
  refine own_g (mkF m 147 #[.val (.int x0), .val (.int x1), .val (.long x2), .second, .val (.int (Int32.ofNat i)), .val (.ref o1), .val (.long (own_le (F i) (F (i + 1)) (F (i + 2)) (F (i + 3)))), .second] [(.long (own_le (F i) (F (i + 1)) (F (i + 2)) (F (i + 3))))]) (fun _ kz => XS.lload X28.here hx rfl (hb hby at_145) rfl kz) ?_
  refine own_g (mkF m 148 #[.val (.int x0), .val (.int x1), .val (.long x2), .second, .val (.int (Int32.ofNat i)), .val (.ref o1), .val (.long (own_le (F i) (F (i + 1)) (F (i + 2)) (F (i + 3)))), .second] [(.int x0), (.long (own_le (F i) (F (i + 1)) (F (i + 2)) (F (i + 3))))]) (fun _ kz => XS.iloadN X28.here hx rfl (hb hby at_147) rfl kz) ?_
  refine own_g (mkF m 149 #[.val (.int x0), .val (.int x1), .val (.long x2), .second, .val (.int (Int32.ofNat i)), .val (.ref o1), .val (.long (own_le (F i) (F (i + 1)) (F (i + 2)) (F (i + 3)))), .second] [(.long x0.toInt64), (.long (own_le (F i) (F (i + 1)) (F (i + 2)) (F (i + 3))))]) (fun _ kz => XS.i2l X28.here hx rfl (hb hby at_148) rfl kz) ?_
  refine own_g (mkF m 152 #[.val (.int x0), .val (.int x1), .val (.long x2), .second, .val (.int (Int32.ofNat i)), .val (.ref o1), .val (.long (own_le (F i) (F (i + 1)) (F (i + 2)) (F (i + 3)))), .second] [(.long (4294967295 : Int64)), (.long x0.toInt64), (.long (own_le (F i) (F (i + 1)) (F (i + 2)) (F (i + 3))))]) (fun _ kz => X28.ldc2Long hx hown (mvT hZ (own_w hw 7 rfl)) (g := (mkF m 149 #[.val (.int x0), .val (.int x1), .val (.long x2), .second, .val (.int (Int32.ofNat i)), .val (.ref o1), .val (.long (own_le (F i) (F (i + 1)) (F (i + 2)) (F (i + 3)))), .second] [(.long x0.toInt64), (.long (own_le (F i) (F (i + 1)) (F (i + 2)) (F (i + 3))))])) rfl (hb hby at_149) _ kz) ?_
  refine own_g (mkF m 153 #[.val (.int x0), .val (.int x1), .val (.long x2), .second, .val (.int (Int32.ofNat i)), .val (.ref o1), .val (.long (own_le (F i) (F (i + 1)) (F (i + 2)) (F (i + 3)))), .second] [(.long (x0.toInt64 &&& (4294967295 : Int64))), (.long (own_le (F i) (F (i + 1)) (F (i + 2)) (F (i + 3))))]) (fun _ kz => XS.land X28.here hx rfl (hb hby at_152) rfl kz) ?_
  refine own_g (mkF m 154 #[.val (.int x0), .val (.int x1), .val (.long x2), .second, .val (.int (Int32.ofNat i)), .val (.ref o1), .val (.long (own_le (F i) (F (i + 1)) (F (i + 2)) (F (i + 3)))), .second] [(.int (lcmpW (own_le (F i) (F (i + 1)) (F (i + 2)) (F (i + 3))) (x0.toInt64 &&& (4294967295 : Int64))))]) (fun _ kz => XS.lcmp X28.here hx rfl (hb hby at_153) rfl kz) ?_
  refine own_g (mkF m 157 #[.val (.int x0), .val (.int x1), .val (.long x2), .second, .val (.int (Int32.ofNat i)), .val (.ref o1), .val (.long (own_le (F i) (F (i + 1)) (F (i + 2)) (F (i + 3)))), .second] []) (fun _ kz => XS.ifNo X28.here hx rfl (hb hby at_154) rfl ((if0 _ _).trans (teq (own_lcT (by rw [hb0, hb1, hb2, hb3]; exact own_le_eq x0))).2) kz) ?_
  refine own_g (mkF m 158 #[.val (.int x0), .val (.int x1), .val (.long x2), .second, .val (.int (Int32.ofNat i)), .val (.ref o1), .val (.long (own_le (F i) (F (i + 1)) (F (i + 2)) (F (i + 3)))), .second] [(.int (1 : Int32))]) (fun _ kz => XS.iconst X28.here hx rfl (hb hby at_157) kz) ?_
  refine own_g (mkF m 162 #[.val (.int x0), .val (.int x1), .val (.long x2), .second, .val (.int (Int32.ofNat i)), .val (.ref o1), .val (.long (own_le (F i) (F (i + 1)) (F (i + 2)) (F (i + 3)))), .second] [(.int (1 : Int32))]) (fun _ kz => XS.goto X28.here hx rfl (pc0 := 158) (pc' := 162) rfl (hb hby at_158) (by decide) (by decide) kz) ?_
  exact own_retZ X28 hx hret hlk (hb hby at_162) rfl (by decide) (by decide) (by first | exact ⟨rfl, N28⟩ | (rw [e28]; exact ⟨rfl, N28⟩))
theorem own_comes {Post : Tables → Env → Array Value → State → Outcome → State → Prop} (hpost : ∀ tb e args s v u, (limb_1_1.after args s (.returned v) u = true ∧ limb_1_2.after args s (.returned v) u = true ∧ True) → FrameEnd s (.returned v) u (Jvm.fieldLocs frame_1_writes args s ++ Jvm.arrayLocs frame_1_arrays args s ++ Jvm.staticLocs frame_1_statics s) 16 128 → Post tb e args s (.returned v) u) :
    ArmFor flags0 classFile x code maxLocals ret World_1 tables_1 room_1 Calls_1 rest_1 Pre_1 Post := by
  intro l hfl _ _ p e ha hc hk s m args below hf hA hF happ hP
  obtain ⟨hcalls, hrest, hpre⟩ := hP
  obtain ⟨-, -, -, hnamed, -, -, -, hat⟩ := (Spec.applies_iff hf).mp happ
  obtain ⟨hg, hn⟩ := and_e (Cond.before_iff.mp (show (Jvm.Cond.and given_1 narrow_1).before args s = true from hpre))
  obtain ⟨hcount, r0⟩ := and_e hg
  obtain ⟨q0, r1⟩ := and_e r0
  obtain ⟨q1, r2⟩ := and_e r1
  obtain ⟨w0, w1, w2, rfl⟩ : ∃ w0 w1 w2 : Value, args = #[w0, w1, w2] := by
    have hs : args.size = 3 := by simpa [Cond.value, given_1] using hcount
    obtain ⟨L⟩ := args
    match L, hs with
    | [w0, w1, w2], _ => exact ⟨w0, w1, w2, rfl⟩
  have hw := fun d (hd : d ∈ tables_1) => atoms_spec (ws := Jvm.Cond.code x code maxLocals ret :: tables_1) hat d (List.mem_cons_of_mem _ hd)
  obtain ⟨i0, e0⟩ := is_v q0
  obtain rfl : w0 = (.int i0) := Option.some.inj e0
  obtain ⟨i1, e1⟩ := is_v q1
  obtain rfl : w1 = (.int i1) := Option.some.inj e1
  obtain ⟨i2, e2⟩ := isL_v r2
  obtain rfl : w2 = (.long i2) := Option.some.inj e2
  obtain ⟨n, o, h1, h2, h3, _, L, rfl, ⟨rfl, N⟩, hq⟩ := own_c_law l s _ hw i0 i1 i2 s.heap s.heap.size (Nat.le_refl _) p e ha hc hk s m _ below hf ((Spec.applies_iff_loose hf).mp happ).1 ⟨rfl, State.Warmed39.refl s, rfl⟩ trivial
  refine ⟨n, _, h1, h2, h3, hpost _ _ _ _ _ _ ⟨Cond.after_iff.mpr rfl, Cond.after_iff.mpr (eq_i res_at (Term.int_eval (1)) rfl), trivial⟩ ⟨hq.1, hq.2.1, (hq.2.2.sift fun y hy => Or.inr (N y hy)).mono (by decide) (by decide)⟩⟩
theorem main_1_1 : Claimed_1_1 := own_comes fun _ _ _ _ _ _ h hF => ⟨h.1, hF⟩
theorem main_1_2 : Claimed_1_2 := own_comes fun _ _ _ _ _ _ h hF => ⟨h.2.1, hF⟩
end Jvm.Pilot.@@N@@
namespace Jvm.Pilot.@@N@@
open Jvm Jvm.ClassFile Sem Op Lib Jvm.Free Jvm.Stand Jvm.Pilot.@@N@@.Jvm.D
/-! MADE BY PROGRAM (witnessworld.py) out of the Statement's table words and the real class files: 9 classes; the members and pool entries that the words name. The judged class is class 1, her method 1. -/
namespace start1
open Jvm.ClassFile
def u (s : String) : CpInfo := .utf8 (stringToUtf16 s)
/-- a pool by its gaps: so many unusable entries, then the entry; so many at the end -/
def gap : Nat → List CpInfo → List CpInfo
  | 0, r => r
  | n + 1, r => .unusable :: gap n r
def poolList (es : List (Nat × CpInfo)) (last : Nat) : List CpInfo := es.foldr (fun e r => gap e.1 (e.2 :: r)) (gap last [])
def pool (es : List (Nat × CpInfo)) (last : Nat) : Array CpInfo := ⟨poolList es last⟩
def fileOf (pool : Array CpInfo) (this : Nat) (attrs : Array Attribute := #[]) (ms : Array MethodInfo := #[]) (fl : Nat := 33) (sup : Nat := 0) (ifs : Array Nat := #[]) (fds : Array FieldInfo := #[]) : ClassFile where
  minorVersion := 0
  majorVersion := 65
  constantPool := pool
  accessFlags := fl
  thisClass := this
  superClass := sup
  interfaces := ifs
  fields := fds
  methods := ms
  attributes := attrs
def plain (name : String) (sup : Option ClassId) : Class where
  name := name
  kind := .ordinary
  loader := none
  accessFlags := 33
  super := sup
  interfaces := #[]
  cf := none
  fields := #[]
  methods := #[]
  instanceTypes := #[]
  staticTypes := #[]
  resolved := #[]
  callSites := []
  init := .initialized
  statics := none
  mirror := none

def pool0 : Array CpInfo := pool [(5, u "<init>"), (0, u "()V"), (1, .class_ 10), (1, u "java/lang/Object")] 113

def k0m0 : Method := { name := "<init>", desc := "()V", sig := { parameters := [], returnType := none }, accessFlags := 1, code := none }
/-- java/lang/Object -/
def k0 : Class := { plain "java/lang/Object" none with
  accessFlags := 33
  interfaces := #[]
  cf := some (fileOf pool0 8 #[] #[{ accessFlags := 1, nameIndex := 5, descriptorIndex := 6, attributes := #[] }] 33 0 #[] #[])
  fields := #[]
  methods := #[k0m0]
  instanceTypes := #[]
  staticTypes := #[]
  resolved := Array.replicate 124 none
  statics := none }

def pool1 : Array CpInfo := pool [(2, .class_ 4), (1, u "java/lang/Object"), (0, u "<init>"), (0, u "()V"), (0, .integer 2147483647), (0, .methodref 9 10), (0, .class_ 11), (0, .nameAndType 12 13), (0, u "com/example/anchored_ring/anchoredring/Hashes"), (0, u "littleEndian"), (0, u "([BI)J"), (0, .long 4294967295), (1, .class_ 17), (0, u "com/example/anchored_ring/anchoredring/HashesLittleEndianPinLaw"), (2, u "law"), (0, u "(IIJ)Z")] 5

def k1m0 : Method := { name := "<init>", desc := "()V", sig := { parameters := [], returnType := none }, accessFlags := 2, code := none }
def k1c1 : Code := { maxStack := 6, maxLocals := 8, code := code, exceptionTable := #[], attributes := #[] }
def k1m1 : Method := { name := "law", desc := "(IIJ)Z", sig := { parameters := [.int, .int, .long], returnType := some .boolean }, accessFlags := 9, code := some k1c1 }
/-- com/example/anchored_ring/anchoredring/HashesLittleEndianPinLaw -/
def k1 : Class := { plain "com/example/anchored_ring/anchoredring/HashesLittleEndianPinLaw" (some 0) with
  accessFlags := 49
  interfaces := #[]
  cf := some (fileOf pool1 16 #[] #[{ accessFlags := 2, nameIndex := 5, descriptorIndex := 6, attributes := #[] }, { accessFlags := 9, nameIndex := 20, descriptorIndex := 21, attributes := #[] }] 49 2 #[] #[])
  fields := #[]
  methods := #[k1m0, k1m1]
  instanceTypes := #[]
  staticTypes := #[]
  resolved := Array.replicate 27 none
  statics := none }

def pool2 : Array CpInfo := pool [(2, .class_ 4), (1, u "java/lang/Object"), (0, u "<init>"), (0, u "()V"), (1, .class_ 10), (1, u "com/example/anchored_ring/anchoredring/Hashes"), (15, u "([BI)J"), (2, u "CHECKSUM"), (0, u "Ljava/lang/ThreadLocal;"), (25, u "MD5"), (4, u "MD5_OUTPUT"), (16, .long 255), (59, u "UTF8"), (31, u "WORD"), (0, u "Ljava/lang/invoke/VarHandle;"), (28, u "MAX_KEPT"), (0, u "I"), (2, u "MD5_LENGTH"), (1, u "MULTIPLIER"), (0, u "J"), (0, u "SHIFT"), (11, u "littleEndian"), (12, .class_ 234), (0, u "com/example/anchored_ring/anchoredring/Hashes$NumberedMurmurHash64A")] 30

def k2m0 : Method := { name := "<init>", desc := "()V", sig := { parameters := [], returnType := none }, accessFlags := 2, code := none }
def k2c1 : Code := { maxStack := 6, maxLocals := 2, code := prog_18_method_6_code, exceptionTable := #[], attributes := #[] }
def k2m1 : Method := { name := "littleEndian", desc := "([BI)J", sig := { parameters := [(.array .byte), .int], returnType := some .long }, accessFlags := 8, code := some k2c1 }
/-- com/example/anchored_ring/anchoredring/Hashes -/
def k2 : Class := { plain "com/example/anchored_ring/anchoredring/Hashes" (some 0) with
  accessFlags := 48
  interfaces := #[]
  cf := some (fileOf pool2 8 #[.nestMembers #[233]] #[{ accessFlags := 2, nameIndex := 5, descriptorIndex := 6, attributes := #[] }, { accessFlags := 8, nameIndex := 220, descriptorIndex := 26, attributes := #[] }] 48 2 #[] #[{ accessFlags := 24, nameIndex := 200, descriptorIndex := 201, attributes := #[] }, { accessFlags := 26, nameIndex := 204, descriptorIndex := 201, attributes := #[] }, { accessFlags := 26, nameIndex := 206, descriptorIndex := 207, attributes := #[] }, { accessFlags := 26, nameIndex := 208, descriptorIndex := 201, attributes := #[] }, { accessFlags := 26, nameIndex := 170, descriptorIndex := 171, attributes := #[] }, { accessFlags := 26, nameIndex := 138, descriptorIndex := 30, attributes := #[] }, { accessFlags := 26, nameIndex := 56, descriptorIndex := 30, attributes := #[] }, { accessFlags := 26, nameIndex := 61, descriptorIndex := 30, attributes := #[] }, { accessFlags := 26, nameIndex := 29, descriptorIndex := 30, attributes := #[] }])
  fields := #[{ name := "MAX_KEPT", type := .int, accessFlags := 24, slot := 0, constantValue := 0 }, { name := "MD5_LENGTH", type := .int, accessFlags := 26, slot := 1, constantValue := 0 }, { name := "MULTIPLIER", type := .long, accessFlags := 26, slot := 2, constantValue := 0 }, { name := "SHIFT", type := .int, accessFlags := 26, slot := 3, constantValue := 0 }, { name := "WORD", type := (.object "java/lang/invoke/VarHandle"), accessFlags := 26, slot := 4, constantValue := 0 }, { name := "UTF8", type := (.object "java/lang/ThreadLocal"), accessFlags := 26, slot := 5, constantValue := 0 }, { name := "MD5", type := (.object "java/lang/ThreadLocal"), accessFlags := 26, slot := 6, constantValue := 0 }, { name := "MD5_OUTPUT", type := (.object "java/lang/ThreadLocal"), accessFlags := 26, slot := 7, constantValue := 0 }, { name := "CHECKSUM", type := (.object "java/lang/ThreadLocal"), accessFlags := 26, slot := 8, constantValue := 0 }]
  methods := #[k2m0, k2m1]
  instanceTypes := #[]
  staticTypes := #[.int, .int, .long, .int, (.object "java/lang/invoke/VarHandle"), (.object "java/lang/ThreadLocal"), (.object "java/lang/ThreadLocal"), (.object "java/lang/ThreadLocal"), (.object "java/lang/ThreadLocal")]
  resolved := Array.replicate 265 none
  statics := none }

def pool3 : Array CpInfo := pool [(1, u "java/lang/Cloneable"), (0, .class_ 1), (0, u "java/lang/Object"), (0, .class_ 3)] 3

/-- java/lang/Cloneable -/
def k3 : Class := { plain "java/lang/Cloneable" (some 0) with
  accessFlags := 1537
  interfaces := #[]
  cf := some (fileOf pool3 2 #[] #[] 1537 4 #[] #[])
  fields := #[]
  methods := #[]
  instanceTypes := #[]
  staticTypes := #[]
  resolved := Array.replicate 8 none
  statics := none }

def pool4 : Array CpInfo := pool [(1, u "java/io/Serializable"), (0, .class_ 1), (0, u "java/lang/Object"), (0, .class_ 3)] 3

/-- java/io/Serializable -/
def k4 : Class := { plain "java/io/Serializable" (some 0) with
  accessFlags := 1537
  interfaces := #[]
  cf := some (fileOf pool4 2 #[] #[] 1537 4 #[] #[])
  fields := #[]
  methods := #[]
  instanceTypes := #[]
  staticTypes := #[]
  resolved := Array.replicate 8 none
  statics := none }

/-- the primitive byte -/
def k5 : Class := { plain "byte" none with kind := .primitive 'B', accessFlags := 0x411 }
/-- [B -/
def k6 : Class := { plain "[B" (some 0) with kind := .array 5 .byte, interfaces := #[3, 4], accessFlags := 1041 }

/-- the primitive int -/
def k7 : Class := { plain "int" none with kind := .primitive 'I', accessFlags := 0x411 }
/-- [I -/
def k8 : Class := { plain "[I" (some 0) with kind := .array 7 .int, interfaces := #[3, 4], accessFlags := 1041 }

def heap : Heap := #[]
def classes : Array Class := #[k0, k1, k2, k3, k4, k5, k6, k7, k8]
def interned : List (Array UInt16 × Addr) := []
def slotsUsed : Nat := 0
def theMethod : MethodId := ⟨1, 1⟩
def args0 : Array Value := #[.int 5, .int 7, .long 3]
def aboutOver (below : List Frame) : State where
  vm := { classes := classes, interned := interned.toArray }
  heap := heap
  slotsUsed := slotsUsed
  threads := #[{ frames := .invoking theMethod args0 :: below }]
def below0 : List Frame := [.native { method := ⟨0, 0⟩, args := #[] }]
def about1 : State := aboutOver below0
def p0 : Program := .bare "" "" ""
def e0 : Env := launch0.env 0 0 0
theorem w_frames : about1.frames = Frame.invoking theMethod args0 :: below0 := rfl
set_option maxRecDepth 65536 in
theorem w_args : argsFit about1.vm theMethod args0 = true := by decide +kernel
set_option maxRecDepth 65536 in
theorem w_heap : heapFits about1 = true := by decide +kernel
set_option maxRecDepth 65536 in
theorem w_runnable : about1.curStatus? = some .runnable := by decide +kernel
set_option maxRecDepth 65536 in
theorem w_alone : about1.alone = true := by decide +kernel
set_option maxRecDepth 65536 in
theorem w_named : about1.methodNamed? x = some theMethod := by decide +kernel
set_option maxRecDepth 65536 in
theorem w_hears : about1.hears theMethod below0 = true := by decide +kernel
set_option maxRecDepth 65536 in
theorem w_ripe : about1.ripe theMethod args0 below0 = true := by decide +kernel
theorem w_running : about1.status = .running := rfl
set_option maxRecDepth 65536 in
theorem w_room : about1.hasRoom e0.platform room_1 = true :=
  launch0.hasRoom_least _ room_1 (by decide +kernel) (by decide +kernel) (by decide +kernel) (by decide +kernel) (by decide +kernel) (by decide +kernel)
theorem allAtoms_all (ts : List Jvm.Cond) (a : Array Jvm.Value) (st : Jvm.State) : (allAtoms ts).before a st = ts.all (fun c => c.before a st) := by
  induction ts with
  | nil => rfl
  | cons c t ih =>
    show (Jvm.Cond.and c (allAtoms t)).before a st = _
    rw [Jvm.Cond.before_and, ih, List.all_cons]
def words1 : List Jvm.Cond := Jvm.Cond.code x code maxLocals ret :: tables_1
/-- a 'code' word, met by the world's own term for the bytes: nothing is compared byte by byte -/
theorem code_word {y : MethodName} {bytes : ByteArray} {mx : Nat} {rt : Option FieldType} {a : Array Value} {s : State} {m : MethodId} {meth : Method} {c : Code} (h1 : s.methodNamed? y = some m) (h2 : s.vm.method? m = some meth) (h3 : meth.code = some c) (h4 : c.code = bytes)
    (h5 : (c.maxLocals == mx && c.exceptionTable.isEmpty && decide (c.maxStack ≤ mostOperands) && decide (meth.sig.returnType = rt) && !meth.locks && decide (parseMethodDescriptor y.desc = some meth.sig)) = true) : (Jvm.Cond.code y bytes mx rt).before a s = true := by
  simp only [Bool.and_eq_true, beq_iff_eq, Bool.not_eq_true', decide_eq_true_eq] at h5
  obtain ⟨⟨⟨⟨⟨g1, g2⟩, g3⟩, g4⟩, g5⟩, g6⟩ := h5
  simp [Cond.before, Cond.holds, Cond.value, h1, h2, h3, h4, g1, g2, g3, g4, g5, g6]
def isCode : Jvm.Cond → Bool
  | .code _ _ _ _ => true
  | _ => false
theorem all_split {L : List Jvm.Cond} {P : Jvm.Cond → Bool} (h1 : L.all (fun c => isCode c || P c) = true) (h2 : ∀ c ∈ L.filter isCode, P c = true) : L.all P = true := by
  refine List.all_eq_true.mpr fun c hc => ?_
  have h := List.all_eq_true.mp h1 c hc
  rcases Bool.eq_false_or_eq_true (isCode c) with hi | hi
  · exact h2 c (List.mem_filter.mpr ⟨hc, hi⟩)
  · simpa [hi] using h
set_option maxRecDepth 65536 in
theorem w_c0 : (Jvm.Cond.code x code maxLocals ret).before args0 about1 = true := code_word (m := ⟨1, 1⟩) (meth := k1m1) (c := k1c1) (by decide +kernel) rfl rfl rfl (by decide +kernel)
set_option maxRecDepth 65536 in
theorem w_c1 : (Jvm.Cond.code ({ cls := "com/example/anchored_ring/anchoredring/Hashes", name := "littleEndian", desc := "([BI)J" } : Jvm.MethodName) prog_18_method_6_code (2 : Nat) (Option.some Jvm.ClassFile.FieldType.long)).before args0 about1 = true := code_word (m := ⟨2, 1⟩) (meth := k2m1) (c := k2c1) (by decide +kernel) rfl rfl rfl (by decide +kernel)
def codes1 : List Jvm.Cond := [Jvm.Cond.code x code maxLocals ret, Jvm.Cond.code ({ cls := "com/example/anchored_ring/anchoredring/Hashes", name := "littleEndian", desc := "([BI)J" } : Jvm.MethodName) prog_18_method_6_code (2 : Nat) (Option.some Jvm.ClassFile.FieldType.long)]
set_option maxRecDepth 65536 in
theorem codes_eq : words1.filter isCode = codes1 := rfl
theorem w_codes : ∀ c ∈ words1.filter isCode, c.before args0 about1 = true := by
  rw [codes_eq]
  intro c hc
  simp only [codes1, List.mem_cons, List.not_mem_nil, or_false] at hc
  rcases hc with rfl | rfl
  · exact w_c0
  · exact w_c1
set_option maxRecDepth 65536 in
theorem w_t1 : words1.all (fun c => isCode c || c.before args0 about1) = true := by decide +kernel
theorem w_tables : (allAtoms (Jvm.Cond.code x code maxLocals ret :: tables_1)).before args0 about1 = true := by
  rw [allAtoms_all]
  show words1.all (fun c => c.before args0 about1) = true
  refine all_split ?_ w_codes
  rw [w_t1]
set_option maxRecDepth 65536 in
theorem w_case : (Jvm.Cond.and given_1 narrow_1).before args0 about1 = true := by decide +kernel
theorem w_applies : (headSpec (Jvm.Cond.code x code maxLocals ret :: tables_1) room_1).applies x e0.platform about1 = true :=
  (Spec.applies_iff w_frames).mpr ⟨w_running, w_runnable, w_alone, w_named, w_hears, w_ripe, w_room, w_tables⟩
theorem atStart : AtStart classFile x code maxLocals ret World_1 tables_1 room_1 Calls_1 rest_1 Pre_1 launch0 p0 e0 about1 theMethod args0 below0 :=
  ⟨lists_1, trivial, launch0.admits_env _ _ _, launch0.least_env, fairChoices_fair.cas, fairChoices_fair.clock, w_frames, w_args, w_heap, w_applies, trivial, trivial, w_case⟩
end start1
theorem witness_1 : WitnessClaimed_1 := ⟨start1.p0, start1.e0, start1.about1, start1.theMethod, start1.args0, start1.below0, start1.atStart⟩
end Jvm.Pilot.@@N@@
