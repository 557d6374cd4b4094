import JvmDerived
import JvmDerived.Pilot.@@N@@Statement
import JvmDerived.Pilot.@@N@@Code
set_option linter.unusedVariables false
set_option linter.unusedSimpArgs false
namespace Jvm.Pilot.@@N@@
open Jvm Jvm.ClassFile Sem Op Lib Jvm.Free Jvm.Stand Jvm.LawKit Jvm.RoadKit Bundle Jvm.Pilot.@@N@@.Jvm.D
/-! ### own kit: a walk as one chain, from a place of the run to the method's end -/
/-- from A the run comes to an end of which P holds -/
def own_E (p : Program) (e : Env) (below : List Frame) (P : Outcome → State → Prop) (A : State) : Prop :=
  ∃ s₂ o, Steps p.tables e below A s₂ ∧ s₂.status = .running ∧ Ended s₂ below o ∧ P o s₂
/-- what a contract says at the end -/
def own_P (Q : Option Value → Heap → List Loc → Prop) (s : State) (C S : Nat) : Outcome → State → Prop :=
  fun o U => ∃ v L, o = .returned v ∧ Q v U.heap L ∧ FrameEnd s o U L C S
/-- a contract: called with these arguments over the heap h, the body returns, and Q tells what and what is written -/
def own_Con (l : Launch) (Z : State) (y : MethodName) (bytes : ByteArray) (maxL : Nat) (ret : Option FieldType) (ws : List Jvm.Cond) (rm : Room) (as : Array Value) (h : Heap) (Q : Option Value → Heap → List Loc → Prop) : Prop :=
  MetFree l y (head1 (Jvm.Cond.code y bytes maxL ret :: ws) rm) (fun a U => a = as ∧ Z.Warmed39 U.vm ∧ U.heap = h) (fun _ _ _ _ _ => True) (fun _ U o U' => ∃ v L, o = .returned v ∧ Q v U'.heap L ∧ FrameEnd U o U' L rm.cells rm.slots)
theorem own_w {Z : State} {a0 : Array Value} (hw : ∀ d ∈ tables_1, d.before a0 Z = true) (i : Nat) {d : Jvm.Cond} (q : tables_1[i]? = some d) : d.before a0 Z = true := hw d (List.mem_of_getElem? q)
section Own
variable {p : Program} {l : Launch} {e : Env} {R : Room} {s : State} {m : MethodId} {args : Array Value} {below : List Frame} {meth : Method} {c : Code} {T : State} {locs : List Loc} {cells slots : Nat} {Z : State} {a0 : Array Value} {h h' : Heap} {P : Outcome → State → Prop} {A B : State} {Q : Option Value → Heap → List Loc → Prop}
theorem own_s (st : ∀ t, Steps p.tables e below B t → Steps p.tables e below A t) (k : own_E p e below P B) : own_E p e below P A := by
  obtain ⟨s2, o, h1, h2⟩ := k; exact ⟨s2, o, st _ h1, h2⟩
theorem own_g {g : JFrame} (g' : JFrame) (st : ∀ t, Steps p.tables e below (T.setTop g') t → Steps p.tables e below (T.setTop g) t) (k : own_E p e below P (T.setTop g')) : own_E p e below P (T.setTop g) := own_s st k
theorem own_t (st : Steps p.tables e below A B) (k : own_E p e below P B) : own_E p e below P A := by
  obtain ⟨s2, o, h1, h2⟩ := k; exact ⟨s2, o, st.trans h1, h2⟩
theorem own_enter {y : MethodName} {bytes : ByteArray} {maxL : Nat} {ret : Option FieldType} {ws : List Jvm.Cond} {rm : Room} {as : Array Value} (hpl : plainFor y = true)
    (body : ∀ (p : Program) (e : Env) (s : State) (m : MethodId) (below : List Frame) (meth : Method) (c : Code) (s₁ : State), Stand p l e rm s m as below meth c s₁ [] 0 0 → s₁.heap = h → p.tables.exec = Jvm.exec → Z.Warmed39 s.vm → c.code = bytes → c.maxLocals = maxL → s.vm.findClass y.cls = some m.cls → meth.name = y.name → meth.sig.returnType = ret → meth.locks = false →
      own_E p e below (own_P Q s rm.cells rm.slots) (s₁.setTop (entryFrame m as maxL))) : own_Con l Z y bytes maxL ret ws rm as h Q := by
  refine MetFree.of_bodySF hpl hisR ?_
  intro p e s m args below meth c s₁ Bd hml hP hK
  obtain ⟨rfl, hZ, hh⟩ := hP
  have X0 : Stand p l e rm s m args below meth c s₁ [] 0 0 := Stand.of_body Bd
  have e0 : s₁.heap = h := by rw [← hh, Bd.state]; rfl
  exact body p e s m below meth c s₁ X0 e0 Bd.exec hZ Bd.bytes hml (findClass_of_methodNamed Bd.named) (name_of_methodNamed Bd.named Bd.method).1 Bd.returns Bd.notSynchronized
theorem own_cast {g g' : JFrame} (q : g = g') (k : own_E p e below P (T.setTop g')) : own_E p e below P (T.setTop g) := q ▸ k
/-! returns -/
theorem own_retZ (X : Stand p l e R s m args below meth c T locs cells slots) (hx : p.tables.exec = Jvm.exec) (hret : meth.sig.returnType = some .boolean) (hlk : meth.locks = false) {pc : Nat} {Ls : Array Slot} {z : Int32} {C S : Nat} {rest : List Value} (hd : decode c.code pc = .ok (.ireturn, 1)) (hz : nar .boolean z = z) (hc : cells ≤ C) (hs : slots ≤ S) (hQ : Q (some (.int z)) T.heap locs) :
    own_E p e below (own_P Q s C S) (T.setTop (mkF m pc Ls (.int z :: rest))) := by
  obtain ⟨fs, hr, hrun, hended, hW, hsame⟩ := X.leave (v := some (.int z)) (fun q => by rw [hret] at q; cases q) hlk
  exact ⟨_, _, retN X hx (t := .boolean) hret (by simp) hd (by rw [hz]; exact hr), hrun, hended, _, _, rfl, hQ, ⟨_, rfl⟩, hW, hsame.mono hc hs⟩
theorem own_retI (X : Stand p l e R s m args below meth c T locs cells slots) (hx : p.tables.exec = Jvm.exec) (hret : meth.sig.returnType = some .int) (hlk : meth.locks = false) {pc : Nat} {Ls : Array Slot} {z : Int32} {C S : Nat} (hd : decode c.code pc = .ok (.ireturn, 1)) (hc : cells ≤ C) (hs : slots ≤ S) (hQ : Q (some (.int z)) T.heap locs) :
    own_E p e below (own_P Q s C S) (T.setTop (mkF m pc Ls [.int z])) := by
  obtain ⟨fs, hr, hrun, hended, hW, hsame⟩ := X.leave (v := some (.int z)) (fun q => by rw [hret] at q; cases q) hlk
  exact ⟨_, _, X.ireturnOut hx hret rfl (Or.inl rfl) hd hr, hrun, hended, _, _, rfl, hQ, ⟨_, rfl⟩, hW, hsame.mono hc hs⟩
theorem own_retJ (X : Stand p l e R s m args below meth c T locs cells slots) (hx : p.tables.exec = Jvm.exec) (hret : meth.sig.returnType = some .long) (hlk : meth.locks = false) {pc : Nat} {Ls : Array Slot} {z : Int64} {C S : Nat} (hd : decode c.code pc = .ok (.lreturn, 1)) (hc : cells ≤ C) (hs : slots ≤ S) (hQ : Q (some (.long z)) T.heap locs) :
    own_E p e below (own_P Q s C S) (T.setTop (mkF m pc Ls [.long z])) := by
  obtain ⟨fs, hr, hrun, hended, hW, hsame⟩ := X.leave (v := some (.long z)) (fun q => by rw [hret] at q; cases q) hlk
  exact ⟨_, _, X.lreturnOut hx hret hd hr, hrun, hended, _, _, rfl, hQ, ⟨_, rfl⟩, hW, hsame.mono hc hs⟩
theorem own_retA (X : Stand p l e R s m args below meth c T locs cells slots) (hx : p.tables.exec = Jvm.exec) {t : FieldType} (ht : t.isReference = true) (hret : meth.sig.returnType = some t) (hlk : meth.locks = false) {pc : Nat} {Ls : Array Slot} {a : Addr} {C S : Nat} (hd : decode c.code pc = .ok (.areturn, 1)) (hc : cells ≤ C) (hs : slots ≤ S) (hQ : Q (some (.ref a)) T.heap locs) :
    own_E p e below (own_P Q s C S) (T.setTop (mkF m pc Ls [.ref a])) := by
  obtain ⟨fs, hr, hrun, hended, hW, hsame⟩ := X.leave (v := some (.ref a)) (fun q => by rw [hret] at q; cases q) hlk
  exact ⟨_, _, X.areturnOut hx (w := .ref a) rfl hret ht hd hr, hrun, hended, _, _, rfl, hQ, ⟨_, rfl⟩, hW, hsame.mono hc hs⟩
theorem own_retV (X : Stand p l e R s m args below meth c T locs cells slots) (hx : p.tables.exec = Jvm.exec) (hret : meth.sig.returnType = none) (hlk : meth.locks = false) {pc : Nat} {Ls : Array Slot} {C S : Nat} (hd : decode c.code pc = .ok (.return_, 1)) (hc : cells ≤ C) (hs : slots ≤ S) (hQ : Q none T.heap locs) :
    own_E p e below (own_P Q s C S) (T.setTop (mkF m pc Ls [])) := by
  obtain ⟨fs, hr, hrun, hended, hW, hsame⟩ := X.leave (v := none) (fun _ => rfl) hlk
  exact ⟨_, _, X.returnOut hx hret hd hr, hrun, hended, _, _, rfl, hQ, ⟨_, rfl⟩, hW, hsame.mono hc hs⟩
/-! calls by a contract -/
theorem own_callS {y : MethodName} {bytes : ByteArray} {maxL : Nat} {ret : Option FieldType} {rm : Room} {own : String} {index : Nat} {as : List Value} (X : Stand p l e R s m args below meth c T locs cells slots) (hx : p.tables.exec = Jvm.exec) (hZ : Z.Warmed39 s.vm) (hown : s.vm.findClass own = some m.cls) (hT : T.heap = h) (hM : own_Con l Z y bytes maxL ret [] rm as.toArray h Q)
    (w1 : (Jvm.Cond.methodLink own index y).before a0 Z = true) (w2 : (Jvm.Cond.static y).before a0 Z = true) (w3 : (Jvm.Cond.initialized y.cls).before a0 Z = true) (w4 : (Jvm.Cond.code y bytes maxL ret).before a0 Z = true) (hy : y.cls ≠ "java/lang/invoke/MethodHandle" ∧ y.cls ≠ "java/lang/invoke/VarHandle") {ps : List FieldType} {r : Option FieldType} (hpd : parseMethodDescriptor y.desc = some ⟨ps, r⟩) (hlen : as.length = ps.length)
    {pc : Nat} {Ls : Array Slot} {st rest : List Value} (hml : Ls.size = c.maxLocals) (hst : st = as.reverse ++ rest) (hd : decode c.code pc = .ok (.invokestatic index, 3)) (W : Nat) (hW : 2 * 0 + (rest.map fun v => v.category).sum ≤ W) (hf : rm.frames + 1 ≤ R.frames) (hl : W + (maxL + 11) + rm.locals ≤ R.locals) (hc : cells + rm.cells ≤ R.cells) (hs : slots + rm.slots ≤ R.slots)
    (k : ∀ (v : Option Value) (T' : State) (L : List Loc), Stand p l e R s m args below meth c T' (locs ++ L) (cells + rm.cells) (slots + rm.slots) → Q v T'.heap L → own_E p e below P (T'.setTop (mkF m (pc + 3) Ls (v.toList ++ rest)))) :
    own_E p e below P (T.setTop (mkF m pc Ls st)) := by
  obtain ⟨v, _, ⟨T', L', k', n'⟩, -, X', ⟨L, hQ, h1, h2, h3⟩, stp⟩ := Jvm.LawKit.callS X hx hown (mvT hZ w1) (mvT hZ w2) (mvT hZ w3) (mvT hZ w4) hy (backOf (W := W) hM hZ w4 w3 hf hl) (g := mkF m pc Ls st) rfl hml (argsL := as) (rest := rest) (lenOf hpd hlen) hst hW hd (fun _ _ => ⟨rfl, hT, hc, hs⟩)
  dsimp only [Pt.U, Pt.locs, Pt.cells, Pt.slots] at X' h1 h2 h3 stp hQ
  subst h1 h2 h3
  exact own_s stp (k v T' L X' hQ)
theorem own_callI {y : MethodName} {bytes : ByteArray} {maxL : Nat} {rm : Room} {own : String} {index : Nat} {a : Addr} {as : List Value} (X : Stand p l e R s m args below meth c T locs cells slots) (hx : p.tables.exec = Jvm.exec) (hZ : Z.Warmed39 s.vm) (hown : s.vm.findClass own = some m.cls) (hT : T.heap = h) (hM : own_Con l Z y bytes maxL none [] rm (.ref a :: as).toArray h Q) (hy1 : y.name = "<init>")
    (w1 : (Jvm.Cond.methodLink own index y).before a0 Z = true) (w2 : (Jvm.Cond.instanceMethod y).before a0 Z = true) (w3 : (Jvm.Cond.initialized y.cls).before a0 Z = true) (w4 : (Jvm.Cond.code y bytes maxL none).before a0 Z = true) (hy : y.cls ≠ "java/lang/invoke/MethodHandle" ∧ y.cls ≠ "java/lang/invoke/VarHandle") {ps : List FieldType} {r : Option FieldType} (hpd : parseMethodDescriptor y.desc = some ⟨ps, r⟩) (hlen : as.length = ps.length)
    {pc : Nat} {Ls : Array Slot} {st rest : List Value} (hml : Ls.size = c.maxLocals) (hst : st = as.reverse ++ .ref a :: rest) (hd : decode c.code pc = .ok (.invokespecial index, 3)) (W : Nat) (hW : 2 * 0 + (rest.map fun v => v.category).sum ≤ W) (hf : rm.frames + 1 ≤ R.frames) (hl : W + (maxL + 11) + rm.locals ≤ R.locals) (hc : cells + rm.cells ≤ R.cells) (hs : slots + rm.slots ≤ R.slots)
    (k : ∀ (v : Option Value) (T' : State) (L : List Loc), Stand p l e R s m args below meth c T' (locs ++ L) (cells + rm.cells) (slots + rm.slots) → Q v T'.heap L → own_E p e below P (T'.setTop (mkF m (pc + 3) Ls (v.toList ++ rest)))) :
    own_E p e below P (T.setTop (mkF m pc Ls st)) := by
  obtain ⟨v, _, ⟨T', L', k', n'⟩, -, X', ⟨L, hQ, h1, h2, h3⟩, stp⟩ := X.specialBack hx hy1 hown (mvT hZ w1) (mvT hZ w2) (mvT hZ w4) hy (backOf (W := W) hM hZ w4 w3 hf hl) (g := mkF m pc Ls st) rfl hml (Steps.refl _) (a := a) (argsL := as) (rest := rest) (lenOf hpd hlen) hst hW hd (fun _ _ => ⟨rfl, hT, hc, hs⟩)
  dsimp only [Pt.U, Pt.locs, Pt.cells, Pt.slots] at X' h1 h2 h3 stp hQ
  subst h1 h2 h3
  exact own_t stp (k v T' L X' hQ)
theorem own_callV {y : MethodName} {bytes : ByteArray} {maxL : Nat} {ret : Option FieldType} {rm : Room} {own : String} {index : Nat} {a : Addr} {as : List Value} (X : Stand p l e R s m args below meth c T locs cells slots) (hx : p.tables.exec = Jvm.exec) (hZ : Z.Warmed39 s.vm) (hown : s.vm.findClass own = some m.cls) (hT : T.heap = h) (hM : own_Con l Z y bytes maxL ret [] rm (.ref a :: as).toArray h Q) (hE : Exa Z h a y.cls)
    (w1 : (Jvm.Cond.methodLink own index y).before a0 Z = true) (w2 : (Jvm.Cond.declares y).before a0 Z = true) (w5 : (Jvm.Cond.selects y.cls y y).before a0 Z = true) (w6 : (Jvm.Cond.instanceMethod y).before a0 Z = true) (w3 : (Jvm.Cond.initialized y.cls).before a0 Z = true) (w4 : (Jvm.Cond.code y bytes maxL ret).before a0 Z = true) (hy : y.cls ≠ "java/lang/invoke/MethodHandle" ∧ y.cls ≠ "java/lang/invoke/VarHandle") {ps : List FieldType} {r : Option FieldType} (hpd : parseMethodDescriptor y.desc = some ⟨ps, r⟩) (hlen : as.length = ps.length)
    {pc : Nat} {Ls : Array Slot} {st rest : List Value} (hml : Ls.size = c.maxLocals) (hst : st = as.reverse ++ .ref a :: rest) (hd : decode c.code pc = .ok (.invokevirtual index, 3)) (W : Nat) (hW : 2 * 0 + (rest.map fun v => v.category).sum ≤ W) (hf : rm.frames + 1 ≤ R.frames) (hl : W + (maxL + 11) + rm.locals ≤ R.locals) (hc : cells + rm.cells ≤ R.cells) (hs : slots + rm.slots ≤ R.slots)
    (k : ∀ (v : Option Value) (T' : State) (L : List Loc), Stand p l e R s m args below meth c T' (locs ++ L) (cells + rm.cells) (slots + rm.slots) → Q v T'.heap L → own_E p e below P (T'.setTop (mkF m (pc + 3) Ls (v.toList ++ rest)))) :
    own_E p e below P (T.setTop (mkF m pc Ls st)) := by
  obtain ⟨cq, kq, qa, qb, qc⟩ := isOf hZ hT hE
  obtain ⟨v, _, ⟨T', L', k', n'⟩, -, X', ⟨L, hQ, h1, h2, h3⟩, stp⟩ := X.virtualBack hx hown (mvT hZ w1) (mvT hZ w2) (notFace_of_selects (args := #[]) (mvT hZ w5)) (mvT hZ w5) (mvT hZ w6) hy (backOf (W := W) hM hZ w4 w3 hf hl) qa qc (g := mkF m pc Ls st) rfl hml (Steps.refl _) (argsL := as) (rest := rest) (lenOf hpd hlen) hst hW hd (fun _ _ => ⟨rfl, hT, hc, hs⟩)
  dsimp only [Pt.U, Pt.locs, Pt.cells, Pt.slots] at X' h1 h2 h3 stp hQ
  subst h1 h2 h3
  exact own_t stp (k v T' L X' hQ)
theorem own_callP {y : MethodName} {bytes : ByteArray} {maxL : Nat} {ret : Option FieldType} {rm : Room} {own : String} {index kn : Nat} {a : Addr} {as : List Value} (X : Stand p l e R s m args below meth c T locs cells slots) (hx : p.tables.exec = Jvm.exec) (hZ : Z.Warmed39 s.vm) (hown : s.vm.findClass own = some m.cls) (hT : T.heap = h) (hM : own_Con l Z y bytes maxL ret [] rm (.ref a :: as).toArray h Q) (hE : Exa Z h a y.cls)
    (w1 : (Jvm.Cond.methodLink own index y).before a0 Z = true) (w2 : (Jvm.Cond.instantiable y.cls kn).before a0 Z = true) (w5 : (Jvm.Cond.privateMethod y).before a0 Z = true) (w6 : (Jvm.Cond.instanceMethod y).before a0 Z = true) (w3 : (Jvm.Cond.initialized y.cls).before a0 Z = true) (w4 : (Jvm.Cond.code y bytes maxL ret).before a0 Z = true) (hy : y.cls ≠ "java/lang/invoke/MethodHandle" ∧ y.cls ≠ "java/lang/invoke/VarHandle") {ps : List FieldType} {r : Option FieldType} (hpd : parseMethodDescriptor y.desc = some ⟨ps, r⟩) (hlen : as.length = ps.length)
    {pc : Nat} {Ls : Array Slot} {st rest : List Value} (hml : Ls.size = c.maxLocals) (hst : st = as.reverse ++ .ref a :: rest) (hd : decode c.code pc = .ok (.invokevirtual index, 3)) (W : Nat) (hW : 2 * 0 + (rest.map fun v => v.category).sum ≤ W) (hf : rm.frames + 1 ≤ R.frames) (hl : W + (maxL + 11) + rm.locals ≤ R.locals) (hc : cells + rm.cells ≤ R.cells) (hs : slots + rm.slots ≤ R.slots)
    (k : ∀ (v : Option Value) (T' : State) (L : List Loc), Stand p l e R s m args below meth c T' (locs ++ L) (cells + rm.cells) (slots + rm.slots) → Q v T'.heap L → own_E p e below P (T'.setTop (mkF m (pc + 3) Ls (v.toList ++ rest)))) :
    own_E p e below P (T.setTop (mkF m pc Ls st)) := by
  obtain ⟨cq, hq, hq'⟩ := hE.cell
  have hi : (Jvm.Cond.instantiable y.cls kn).before args s = true := mvT hZ w2
  obtain ⟨ck, kk, hck, hkk, -, hniab, -, -⟩ := Cond.instantiable_spec hi
  have hpriv : s.PrivateAt y := Cond.privateMethod_at (mvP hZ w5 (args := #[]))
  have hins : (Jvm.Cond.instanceMethod y).before args s = true := mvT hZ w6
  have hsel : (Jvm.Cond.selects y.cls y y).before args s = true := selects_self_of_private hck hkk (Bool.or_eq_false_iff.mp hniab).1 hpriv hins hy
  obtain ⟨v, _, ⟨T', L', k', n'⟩, -, X', ⟨L, hQ, h1, h2, h3⟩, stp⟩ := X.privateBack hx hown (mvT hZ w1) hins hsel hpriv (mvT hZ w4) hy (backOf (W := W) hM hZ w4 w3 hf hl) (g := mkF m pc Ls st) rfl hml (Steps.refl _) (a := a) (cell := cq) (by rw [hT]; exact hq) hq' (argsL := as) (rest := rest) (lenOf hpd hlen) hst hW hd (fun _ _ => ⟨rfl, hT, hc, hs⟩)
  dsimp only [Pt.U, Pt.locs, Pt.cells, Pt.slots] at X' h1 h2 h3 stp hQ
  subst h1 h2 h3
  exact own_t stp (k v T' L X' hQ)
/-! arrays: a length and a function from places to values -/
def own_IA (Z : State) (h : Heap) (a : Addr) (ty : FieldType) (n : Nat) (f : Nat → Int32) : Prop := ∃ cl : Cell, Arr Z h a cl ty ∧ cl.slots.size = n ∧ ∀ i, i < n → cl.slots[i]? = some (.int (f i))
def own_JA (Z : State) (h : Heap) (a : Addr) (n : Nat) (f : Nat → Int64) : Prop := ∃ cl : Cell, Arr Z h a cl .long ∧ cl.slots.size = n ∧ ∀ i, i < n → cl.slots[i]? = some (.long (f i))
def own_set {α : Type} (f : Nat → α) (i : Nat) (v : α) : Nat → α := fun q => if q = i then v else f q
theorem own_set_same {α : Type} (f : Nat → α) (i : Nat) (v : α) : own_set f i v i = v := by simp [own_set]
theorem own_set_other {α : Type} (f : Nat → α) {i q : Nat} (v : α) (hq : q ≠ i) : own_set f i v q = f q := by simp [own_set, hq]
variable {a b : Addr} {ty : FieldType} {n : Nat} {f : Nat → Int32} {fJ : Nat → Int64} {ws : List Addr} {sl : Nat} {v : Value}
theorem own_IA.lt (F : own_IA Z h a ty n f) : a < h.size := by obtain ⟨cl, A, -⟩ := F; exact A.lt
theorem own_JA.lt (F : own_JA Z h a n fJ) : a < h.size := by obtain ⟨cl, A, -⟩ := F; exact A.lt
theorem own_IA.ext (F : own_IA Z h a ty n f) (E : Ext h h') : own_IA Z h' a ty n f := by obtain ⟨cl, A, r⟩ := F; exact ⟨cl, A.ext E, r⟩
theorem own_JA.ext (F : own_JA Z h a n fJ) (E : Ext h h') : own_JA Z h' a n fJ := by obtain ⟨cl, A, r⟩ := F; exact ⟨cl, A.ext E, r⟩
theorem own_IA.other (F : own_IA Z h b ty n f) (W : Wr h h' a sl v) (q : b ≠ a) : own_IA Z h' b ty n f := by obtain ⟨cl, A, r⟩ := F; exact ⟨cl, A.other W q, r⟩
theorem own_JA.other (F : own_JA Z h b n fJ) (W : Wr h h' a sl v) (q : b ≠ a) : own_JA Z h' b n fJ := by obtain ⟨cl, A, r⟩ := F; exact ⟨cl, A.other W q, r⟩
theorem own_IA.keep (F : own_IA Z h a ty n f) (K : Keep h h' ws) (q : a ∉ ws) : own_IA Z h' a ty n f := by obtain ⟨cl, A, r⟩ := F; exact ⟨cl, ⟨K.2.1 a cl A.1 q, A.2⟩, r⟩
theorem own_JA.keep (F : own_JA Z h a n fJ) (K : Keep h h' ws) (q : a ∉ ws) : own_JA Z h' a n fJ := by obtain ⟨cl, A, r⟩ := F; exact ⟨cl, ⟨K.2.1 a cl A.1 q, A.2⟩, r⟩
theorem own_IA.congr {f' : Nat → Int32} (F : own_IA Z h a ty n f) (q : ∀ i, i < n → f i = f' i) : own_IA Z h a ty n f' := by obtain ⟨cl, A, S, H⟩ := F; exact ⟨cl, A, S, fun i hi => by rw [← q i hi]; exact H i hi⟩
theorem own_JA.congr {f' : Nat → Int64} (F : own_JA Z h a n fJ) (q : ∀ i, i < n → fJ i = f' i) : own_JA Z h a n f' := by obtain ⟨cl, A, S, H⟩ := F; exact ⟨cl, A, S, fun i hi => by rw [← q i hi]; exact H i hi⟩
theorem own_ins {cl : Cell} {j : Int32} {i : Nat} (S : cl.slots.size = n) (hj : ¬ j < 0) (hi : j.toNatClampNeg = i) (hin : i < n) : ¬ (j < 0 ∨ cl.slots.size ≤ j.toNatClampNeg) := by
  rintro (q | q)
  · exact hj q
  · rw [S, hi] at q; omega
theorem own_setI {cl : Cell} {i : Nat} {x : Int32} (W : Wr h h' a i (.int x)) (A : Arr Z h a cl ty) (S : cl.slots.size = n) (H : ∀ q, q < n → cl.slots[q]? = some (.int (f q))) : own_IA Z h' a ty n (own_set f i x) := by
  refine ⟨_, A.same W, by rw [sz_set]; exact S, fun q hq => ?_⟩
  by_cases u : q = i
  · subst u; simp [Cell.setSlot, own_set, S, hq]
  · rw [own_set_other _ _ u, ← H q hq]; exact Array.getElem?_setIfInBounds_ne (Ne.symm u)
theorem own_setJ {cl : Cell} {i : Nat} {x : Int64} (W : Wr h h' a i (.long x)) (A : Arr Z h a cl .long) (S : cl.slots.size = n) (H : ∀ q, q < n → cl.slots[q]? = some (.long (fJ q))) : own_JA Z h' a n (own_set fJ i x) := by
  refine ⟨_, A.same W, by rw [sz_set]; exact S, fun q hq => ?_⟩
  by_cases u : q = i
  · subst u; simp [Cell.setSlot, own_set, S, hq]
  · rw [own_set_other _ _ u, ← H q hq]; exact Array.getElem?_setIfInBounds_ne (Ne.symm u)
theorem own_newI (X : Stand p l e R s m args below meth c T locs cells slots) (hx : p.tables.exec = Jvm.exec) (hZ : Z.Warmed39 s.vm) (hT : T.heap = h) {aty : ArrayType} (w : (Jvm.Cond.arrayClass (newarray.typeOf aty)).before a0 Z = true) (hdv : defaultValue (newarray.typeOf aty) = .int 0) {pc : Nat} {Ls : Array Slot} {rest : List Value} {z : Int32} (hd : decode c.code pc = .ok (.newarray aty, 2)) (hz : ¬ z < 0) (hzn : z.toNatClampNeg = n) (cap : Nat) (hcap : n ≤ cap) (hb : cap * 8 ≤ 536870912) (hc : cells + 1 ≤ R.cells) (hl : slots + cap ≤ R.slots)
    (k : ∀ (T' : State) (h' : Heap) (a : Addr), a = h.size → Stand p l e R s m args below meth c T' locs (cells + 1) (slots + cap) → T'.heap = h' → Ext h h' → own_IA Z h' a (newarray.typeOf aty) n (fun _ => 0) → own_E p e below P (T'.setTop (mkF m (pc + 2) Ls (.ref a :: rest)))) :
    own_E p e below P (T.setTop (mkF m pc Ls (.int z :: rest))) := by
  obtain ⟨T', h', cA, X', e', E, A, st⟩ := newP X hx hZ w hT (g := mkF m pc Ls (.int z :: rest)) rfl hd rfl hz (cap := cap) (by rw [hzn]; exact hcap) hb hc hl
  refine own_s st (k T' h' _ rfl X' e' E ⟨_, A, by rw [sz_new, hzn], fun i hi => ?_⟩)
  simp [newA, hzn, hi, hdv]
theorem own_newJ (X : Stand p l e R s m args below meth c T locs cells slots) (hx : p.tables.exec = Jvm.exec) (hZ : Z.Warmed39 s.vm) (hT : T.heap = h) (w : (Jvm.Cond.arrayClass .long).before a0 Z = true) {pc : Nat} {Ls : Array Slot} {rest : List Value} {z : Int32} (hd : decode c.code pc = .ok (.newarray .long, 2)) (hz : ¬ z < 0) (hzn : z.toNatClampNeg = n) (cap : Nat) (hcap : n ≤ cap) (hb : cap * 8 ≤ 536870912) (hc : cells + 1 ≤ R.cells) (hl : slots + cap ≤ R.slots)
    (k : ∀ (T' : State) (h' : Heap) (a : Addr), a = h.size → Stand p l e R s m args below meth c T' locs (cells + 1) (slots + cap) → T'.heap = h' → Ext h h' → own_JA Z h' a n (fun _ => 0) → own_E p e below P (T'.setTop (mkF m (pc + 2) Ls (.ref a :: rest)))) :
    own_E p e below P (T.setTop (mkF m pc Ls (.int z :: rest))) := by
  obtain ⟨T', h', cA, X', e', E, A, st⟩ := newP X hx hZ (aty := .long) w hT (g := mkF m pc Ls (.int z :: rest)) rfl hd rfl hz (cap := cap) (by rw [hzn]; exact hcap) hb hc hl
  refine own_s st (k T' h' _ rfl X' e' E ⟨_, A, by rw [sz_new, hzn], fun i hi => ?_⟩)
  simp [newA, hzn, hi, newarray.typeOf, defaultValue]
theorem own_lenI (X : Stand p l e R s m args below meth c T locs cells slots) (hx : p.tables.exec = Jvm.exec) (hZ : Z.Warmed39 s.vm) (hT : T.heap = h) (F : own_IA Z h a ty n f) {pc : Nat} {Ls : Array Slot} {rest : List Value} (hd : decode c.code pc = .ok (.arraylength, 1)) {z : Int32} (hz : n.toInt32 = z) (k : own_E p e below P (T.setTop (mkF m (pc + 1) Ls (.int z :: rest)))) :
    own_E p e below P (T.setTop (mkF m pc Ls (.ref a :: rest))) := by
  obtain ⟨cl, A, S, H⟩ := F
  exact own_s (X.arraylength hx (cell := cl) (by rw [hT]; exact A.1) (State.isArrayOf_alike hZ.alike A.2.1) (g := mkF m pc Ls (.ref a :: rest)) rfl (rest := rest) rfl hd) (by rw [S, hz]; exact k)
theorem own_lenJ (X : Stand p l e R s m args below meth c T locs cells slots) (hx : p.tables.exec = Jvm.exec) (hZ : Z.Warmed39 s.vm) (hT : T.heap = h) (F : own_JA Z h a n fJ) {pc : Nat} {Ls : Array Slot} {rest : List Value} (hd : decode c.code pc = .ok (.arraylength, 1)) {z : Int32} (hz : n.toInt32 = z) (k : own_E p e below P (T.setTop (mkF m (pc + 1) Ls (.int z :: rest)))) :
    own_E p e below P (T.setTop (mkF m pc Ls (.ref a :: rest))) := by
  obtain ⟨cl, A, S, H⟩ := F
  exact own_s (X.arraylength hx (cell := cl) (by rw [hT]; exact A.1) (State.isArrayOf_alike hZ.alike A.2.1) (g := mkF m pc Ls (.ref a :: rest)) rfl (rest := rest) rfl hd) (by rw [S, hz]; exact k)
theorem own_ildI (X : Stand p l e R s m args below meth c T locs cells slots) (hx : p.tables.exec = Jvm.exec) (hZ : Z.Warmed39 s.vm) (hT : T.heap = h) (F : own_IA Z h a .int n f) {pc i : Nat} {Ls : Array Slot} {rest : List Value} {j x : Int32} (hd : decode c.code pc = .ok (.iaload, 1)) (hj : ¬ j < 0) (hi : j.toNatClampNeg = i) (hin : i < n) (hv : f i = x) (k : own_E p e below P (T.setTop (mkF m (pc + 1) Ls (.int x :: rest)))) :
    own_E p e below P (T.setTop (mkF m pc Ls (.int j :: .ref a :: rest))) := by
  obtain ⟨cl, A, S, H⟩ := F
  subst hv
  exact own_s (X.iaload hx (j := j) (v := .int (f i)) (by rw [hT]; exact A.1) (State.isArrayOf_alike hZ.alike A.2.1) A.2.2 (own_ins S hj hi hin) (by rw [hi]; exact H i hin) (g := mkF m pc Ls (.int j :: .ref a :: rest)) rfl rfl hd) k
theorem own_ildB (X : Stand p l e R s m args below meth c T locs cells slots) (hx : p.tables.exec = Jvm.exec) (hZ : Z.Warmed39 s.vm) (hT : T.heap = h) (F : own_IA Z h a .byte n f) {pc i : Nat} {Ls : Array Slot} {rest : List Value} {j x : Int32} (hd : decode c.code pc = .ok (.baload, 1)) (hj : ¬ j < 0) (hi : j.toNatClampNeg = i) (hin : i < n) (hv : f i = x) (k : own_E p e below P (T.setTop (mkF m (pc + 1) Ls (.int x :: rest)))) :
    own_E p e below P (T.setTop (mkF m pc Ls (.int j :: .ref a :: rest))) := by
  obtain ⟨cl, A, S, H⟩ := F
  subst hv
  exact own_s (X.baloadBytes hx (j := j) (v := .int (f i)) (by rw [hT]; exact A.1) (State.isArrayOf_alike hZ.alike A.2.1) A.2.2 (own_ins S hj hi hin) (by rw [hi]; exact H i hin) (g := mkF m pc Ls (.int j :: .ref a :: rest)) rfl rfl hd) k
theorem own_ildZ (X : Stand p l e R s m args below meth c T locs cells slots) (hx : p.tables.exec = Jvm.exec) (hZ : Z.Warmed39 s.vm) (hT : T.heap = h) (F : own_IA Z h a .boolean n f) {pc i : Nat} {Ls : Array Slot} {rest : List Value} {j x : Int32} (hd : decode c.code pc = .ok (.baload, 1)) (hj : ¬ j < 0) (hi : j.toNatClampNeg = i) (hin : i < n) (hv : f i = x) (k : own_E p e below P (T.setTop (mkF m (pc + 1) Ls (.int x :: rest)))) :
    own_E p e below P (T.setTop (mkF m pc Ls (.int j :: .ref a :: rest))) := by
  obtain ⟨cl, A, S, H⟩ := F
  subst hv
  exact own_s (X.baloadBooleans hx (j := j) (v := .int (f i)) (by rw [hT]; exact A.1) (State.isArrayOf_alike hZ.alike A.2.1) A.2.2 (own_ins S hj hi hin) (by rw [hi]; exact H i hin) (g := mkF m pc Ls (.int j :: .ref a :: rest)) rfl rfl hd) k
theorem own_ildJ (X : Stand p l e R s m args below meth c T locs cells slots) (hx : p.tables.exec = Jvm.exec) (hZ : Z.Warmed39 s.vm) (hT : T.heap = h) (F : own_JA Z h a n fJ) {pc i : Nat} {Ls : Array Slot} {rest : List Value} {j : Int32} {x : Int64} (hd : decode c.code pc = .ok (.laload, 1)) (hj : ¬ j < 0) (hi : j.toNatClampNeg = i) (hin : i < n) (hv : fJ i = x) (k : own_E p e below P (T.setTop (mkF m (pc + 1) Ls (.long x :: rest)))) :
    own_E p e below P (T.setTop (mkF m pc Ls (.int j :: .ref a :: rest))) := by
  obtain ⟨cl, A, S, H⟩ := F
  subst hv
  exact own_s (X.laload hx (j := j) (v := .long (fJ i)) (by rw [hT]; exact A.1) (State.isArrayOf_alike hZ.alike A.2.1) A.2.2 (own_ins S hj hi hin) (by rw [hi]; exact H i hin) (g := mkF m pc Ls (.int j :: .ref a :: rest)) rfl rfl hd) k
theorem own_stI (X : Stand p l e R s m args below meth c T locs cells slots) (hx : p.tables.exec = Jvm.exec) (hZ : Z.Warmed39 s.vm) (hT : T.heap = h) (F : own_IA Z h a .int n f) {pc i : Nat} {Ls : Array Slot} {rest : List Value} {j x : Int32} (hd : decode c.code pc = .ok (.iastore, 1)) (hj : ¬ j < 0) (hi : j.toNatClampNeg = i) (hin : i < n)
    (k : ∀ (T' : State) (h' : Heap), Stand p l e R s m args below meth c T' (locs ++ [⟨a, i⟩]) cells slots → T'.heap = h' → Wr h h' a i (.int x) → own_IA Z h' a .int n (own_set f i x) → own_E p e below P (T'.setTop (mkF m (pc + 1) Ls rest))) :
    own_E p e below P (T.setTop (mkF m pc Ls (.int x :: .int j :: .ref a :: rest))) := by
  obtain ⟨cl, A, S, H⟩ := F
  obtain ⟨T', h', X', e', W, st⟩ := stI X hx hZ hT A (j := j) (own_ins S hj hi hin) (g := mkF m pc Ls (.int x :: .int j :: .ref a :: rest)) rfl rfl hd
  subst hi
  exact own_s st (k T' h' X' e' W (own_setI W A S H))
theorem own_stB (X : Stand p l e R s m args below meth c T locs cells slots) (hx : p.tables.exec = Jvm.exec) (hZ : Z.Warmed39 s.vm) (hT : T.heap = h) (F : own_IA Z h a .byte n f) {pc i : Nat} {Ls : Array Slot} {rest : List Value} {j x : Int32} (hd : decode c.code pc = .ok (.bastore, 1)) (hj : ¬ j < 0) (hi : j.toNatClampNeg = i) (hin : i < n)
    (k : ∀ (T' : State) (h' : Heap), Stand p l e R s m args below meth c T' (locs ++ [⟨a, i⟩]) cells slots → T'.heap = h' → Wr h h' a i (.int (nar .byte x)) → own_IA Z h' a .byte n (own_set f i (nar .byte x)) → own_E p e below P (T'.setTop (mkF m (pc + 1) Ls rest))) :
    own_E p e below P (T.setTop (mkF m pc Ls (.int x :: .int j :: .ref a :: rest))) := by
  obtain ⟨cl, A, S, H⟩ := F
  obtain ⟨T', h', X', e', W, st⟩ := stB X hx hZ hT A (j := j) (own_ins S hj hi hin) (g := mkF m pc Ls (.int x :: .int j :: .ref a :: rest)) rfl rfl hd
  subst hi
  exact own_s st (k T' h' X' e' W (own_setI W A S H))
theorem own_stZ (X : Stand p l e R s m args below meth c T locs cells slots) (hx : p.tables.exec = Jvm.exec) (hZ : Z.Warmed39 s.vm) (hT : T.heap = h) (F : own_IA Z h a .boolean n f) {pc i : Nat} {Ls : Array Slot} {rest : List Value} {j x : Int32} (hd : decode c.code pc = .ok (.bastore, 1)) (hj : ¬ j < 0) (hi : j.toNatClampNeg = i) (hin : i < n)
    (k : ∀ (T' : State) (h' : Heap), Stand p l e R s m args below meth c T' (locs ++ [⟨a, i⟩]) cells slots → T'.heap = h' → Wr h h' a i (.int (nar .boolean x)) → own_IA Z h' a .boolean n (own_set f i (nar .boolean x)) → own_E p e below P (T'.setTop (mkF m (pc + 1) Ls rest))) :
    own_E p e below P (T.setTop (mkF m pc Ls (.int x :: .int j :: .ref a :: rest))) := by
  obtain ⟨cl, A, S, H⟩ := F
  obtain ⟨T', h', X', e', W, st⟩ := stZ X hx hZ hT A (j := j) (own_ins S hj hi hin) (g := mkF m pc Ls (.int x :: .int j :: .ref a :: rest)) rfl rfl hd
  subst hi
  exact own_s st (k T' h' X' e' W (own_setI W A S H))
theorem own_stJ (X : Stand p l e R s m args below meth c T locs cells slots) (hx : p.tables.exec = Jvm.exec) (hZ : Z.Warmed39 s.vm) (hT : T.heap = h) (F : own_JA Z h a n fJ) {pc i : Nat} {Ls : Array Slot} {rest : List Value} {j : Int32} {x : Int64} (hd : decode c.code pc = .ok (.lastore, 1)) (hj : ¬ j < 0) (hi : j.toNatClampNeg = i) (hin : i < n)
    (k : ∀ (T' : State) (h' : Heap), Stand p l e R s m args below meth c T' (locs ++ [⟨a, i⟩]) cells slots → T'.heap = h' → Wr h h' a i (.long x) → own_JA Z h' a n (own_set fJ i x) → own_E p e below P (T'.setTop (mkF m (pc + 1) Ls rest))) :
    own_E p e below P (T.setTop (mkF m pc Ls (.long x :: .int j :: .ref a :: rest))) := by
  obtain ⟨cl, A, S, H⟩ := F
  obtain ⟨T', h', X', e', W, st⟩ := stJ X hx hZ hT A (j := j) (own_ins S hj hi hin) (g := mkF m pc Ls (.long x :: .int j :: .ref a :: rest)) rfl rfl hd
  subst hi
  exact own_s st (k T' h' X' e' W (own_setJ W A S H))
theorem own_fr {k : Nat} {L : List Loc} {i : Nat} (N : Fr k L) (g : k ≤ a) : Fr k (L ++ [⟨a, i⟩]) := N.app fun y hy => by cases List.mem_singleton.mp hy; exact g
/-! longs compared -/
theorem own_lcT {x y : Int64} (q : x = y) : lcmpW x y = 0 := (lw_eq x y).mpr q
theorem own_lcF {x y : Int64} (q : ¬ x = y) : ¬ lcmpW x y = 0 := fun r => q ((lw_eq x y).mp r)
theorem own_llT {x y : Int64} (q : x < y) : lcmpW x y < 0 := (lw_lt x y).mpr q
theorem own_llF {x y : Int64} (q : ¬ x < y) : ¬ lcmpW x y < 0 := fun r => q ((lw_lt x y).mp r)
theorem own_lgT {x y : Int64} (q : y < x) : 0 < lcmpW x y := (lw_gt x y).mpr q
theorem own_lgF {x y : Int64} (q : ¬ y < x) : ¬ 0 < lcmpW x y := fun r => q ((lw_gt x y).mp r)
end Own
/-! ### small numbers -/
theorem own_mask (x : Int32) (M : Nat) (hM : M < 2 ^ 31) : ∃ n : Nat, n ≤ M ∧ (x &&& Int32.ofNat M) = Int32.ofNat n := by
  refine ⟨(x &&& Int32.ofNat M).toBitVec.toNat, ?_, ?_⟩
  · rw [Int32.toBitVec_and, BitVec.toNat_and, show (Int32.ofNat M).toBitVec = BitVec.ofNat 32 M from rfl, BitVec.toNat_ofNat, Nat.mod_eq_of_lt (by omega)]
    exact Nat.and_le_right
  · apply Int32.toBitVec_inj.mp
    show _ = BitVec.ofNat 32 _
    rw [BitVec.ofNat_toNat]; simp
theorem own_mod {n k : Nat} (hn : n < 2 ^ 31) (hk : k < 2 ^ 31) : Int32.ofNat n % Int32.ofNat k = Int32.ofNat (n % k) := by
  apply Int32.toInt_inj.mp
  have h1 : n % k ≤ n := Nat.mod_le _ _
  rw [Int32.toInt_mod, Int32.toInt_ofNat_of_lt (by omega), Int32.toInt_ofNat_of_lt (by omega), Int32.toInt_ofNat_of_lt (by omega)]
  exact (Int.ofNat_tmod n k).symm
theorem own_ushr (x : Int32) (s : UInt32) (hs : 0 < s.toNat % 32) : ∃ n : Nat, n < 2 ^ 31 ∧ (x.toUInt32 >>> s).toInt32 = Int32.ofNat n := by
  refine ⟨(x.toUInt32 >>> s).toNat, ?_, ?_⟩
  · rw [UInt32.toNat_shiftRight, Nat.shiftRight_eq_div_pow]
    have := x.toUInt32.toNat_lt
    have h2 : 2 ^ 1 ≤ 2 ^ (s.toNat % 32) := Nat.pow_le_pow_right (by decide) hs
    exact Nat.div_lt_of_lt_mul (by have := Nat.mul_le_mul_right (2 ^ 31) h2; omega)
  · apply Int32.toBitVec_inj.mp
    show (x.toUInt32 >>> s).toBitVec = BitVec.ofNat 32 _
    rw [show (x.toUInt32 >>> s).toNat = (x.toUInt32 >>> s).toBitVec.toNat from rfl, BitVec.ofNat_toNat]; simp
theorem own_nat32 {i : Nat} (h : i < 2 ^ 31) : ¬ Int32.ofNat i < 0 ∧ (Int32.ofNat i).toNatClampNeg = i := by
  rw [Int32.lt_iff_toInt_lt, Int32.toNatClampNeg, Int32.toInt_ofNat_of_lt (by omega)]
  refine ⟨?_, rfl⟩
  show ¬ ((i : Nat) : Int) < 0
  omega
theorem own_offN (x : Int32) (N : Nat) (h0 : 0 < N) (hN : N < 2 ^ 31) : ∃ i : Nat, i < N ∧ ((x &&& (2147483647 : Int32)) % Int32.ofNat N) = Int32.ofNat i := by
  obtain ⟨n, hn, e⟩ := own_mask x 2147483647 (by decide)
  refine ⟨n % N, Nat.mod_lt _ h0, ?_⟩
  rw [show (2147483647 : Int32) = Int32.ofNat 2147483647 from rfl, e, own_mod (by omega) hN]

def own_t3 (c : Int32) : Int32 := if c < 65536 then 0 else if 1114111 < c then 0 else 1
def own_t9 (c : Int32) : Int32 := if c = 9 then 1 else if c = 10 then 1 else if c = 13 then 1 else if c < 57344 then own_t3 c else if 65533 < c then own_t3 c else 1
def own_isC (c : Int32) : Int32 := if c < 32 then own_t9 c else if 55295 < c then own_t9 c else 1
def own_te (c : Int32) : Int32 := if c = 65534 then 0 else if c = 65535 then 0 else 1
def own_t2 (c : Int32) : Int32 := if c = 9 then 1 else if c = 10 then 1 else if c = 13 then 1 else 0
def own_all (c : Int32) : Int32 := if c < 0 then 0 else if 1114111 < c then 0 else if c < 32 then own_t2 c else if c < 55296 then own_te c else if 57343 < c then own_te c else 0
set_option maxHeartbeats 4000000 in
theorem own_same (c : Int32) : own_isC c = own_all c := by
  have e0 : (0 : Int32).toInt = 0 := rfl
  have e1 : (32 : Int32).toInt = 32 := rfl
  have e2 : (55295 : Int32).toInt = 55295 := rfl
  have e3 : (9 : Int32).toInt = 9 := rfl
  have e4 : (10 : Int32).toInt = 10 := rfl
  have e5 : (13 : Int32).toInt = 13 := rfl
  have e6 : (57344 : Int32).toInt = 57344 := rfl
  have e7 : (65533 : Int32).toInt = 65533 := rfl
  have e8 : (65536 : Int32).toInt = 65536 := rfl
  have e9 : (1114111 : Int32).toInt = 1114111 := rfl
  have e10 : (65534 : Int32).toInt = 65534 := rfl
  have e11 : (65535 : Int32).toInt = 65535 := rfl
  have e12 : (55296 : Int32).toInt = 55296 := rfl
  have e13 : (57343 : Int32).toInt = 57343 := rfl
  simp only [own_isC, own_t9, own_t3, own_all, own_t2, own_te, Int32.lt_iff_toInt_lt, ← Int32.toInt_inj, e0, e1, e2, e3, e4, e5, e6, e7, e8, e9, e10, e11, e12, e13]
  generalize c.toInt = z
  clear e0 e1 e2 e3 e4 e5 e6 e7 e8 e9 e10 e11 e12 e13
  have hr : z < 0 ∨ z = 9 ∨ z = 10 ∨ z = 13 ∨ (0 ≤ z ∧ z < 32 ∧ z ≠ 9 ∧ z ≠ 10 ∧ z ≠ 13) ∨ (32 ≤ z ∧ z ≤ 55295) ∨ (55296 ≤ z ∧ z ≤ 57343) ∨ (57344 ≤ z ∧ z ≤ 65533) ∨ z = 65534 ∨ z = 65535 ∨ (65536 ≤ z ∧ z ≤ 1114111) ∨ 1114111 < z := by omega
  rcases hr with h | h | h | h | h | h | h | h | h | h | h | h <;> (iterate 16 (try (split <;> try (exfalso; omega)))) <;> first | rfl | (exfalso; omega)
theorem own_idx (s : Int32) : ¬ ((s.toUInt32 >>> ((1 : Int32) &&& 31).toUInt32).toInt32 % (22 : Int32)) < 0 ∧ ((s.toUInt32 >>> ((1 : Int32) &&& 31).toUInt32).toInt32 % (22 : Int32)).toNatClampNeg < 22 := by
  obtain ⟨n, hn, e⟩ := own_ushr s ((1 : Int32) &&& 31).toUInt32 (by decide)
  have h22 : n % 22 < 22 := Nat.mod_lt _ (by decide)
  rw [e, show (22 : Int32) = Int32.ofNat 22 from rfl, own_mod hn (by decide)]
  have := own_nat32 (i := n % 22) (by omega)
  exact ⟨this.1, by rw [this.2]; exact h22⟩
theorem own_pn0 : plainName "com/example/holdfast/holdfast/model/XmlNames" = true := by first | (simp [plainName, overriddenIn]; done) | decide +kernel
theorem od_244_12_0 : decode prog_244_method_12_code 0 = .ok (.iload_n 0, 1) := by decide +kernel
theorem od_244_12_1 : decode prog_244_method_12_code 1 = .ok (.bipush 32, 2) := by decide +kernel
theorem od_244_12_3 : decode prog_244_method_12_code 3 = .ok (.if_icmp .lt 9, 3) := by decide +kernel
theorem od_244_12_12 : decode prog_244_method_12_code 12 = .ok (.iload_n 0, 1) := by decide +kernel
theorem od_244_12_13 : decode prog_244_method_12_code 13 = .ok (.bipush 9, 2) := by decide +kernel
theorem od_244_12_15 : decode prog_244_method_12_code 15 = .ok (.if_icmp .eq 39, 3) := by decide +kernel
theorem od_244_12_54 : decode prog_244_method_12_code 54 = .ok (.iconst 1, 1) := by decide +kernel
theorem od_244_12_55 : decode prog_244_method_12_code 55 = .ok (.goto 4, 3) := by decide +kernel
theorem od_244_12_59 : decode prog_244_method_12_code 59 = .ok (.ireturn, 1) := by decide +kernel
theorem od_244_12_18 : decode prog_244_method_12_code 18 = .ok (.iload_n 0, 1) := by decide +kernel
theorem od_244_12_19 : decode prog_244_method_12_code 19 = .ok (.bipush 10, 2) := by decide +kernel
theorem od_244_12_21 : decode prog_244_method_12_code 21 = .ok (.if_icmp .eq 33, 3) := by decide +kernel
theorem od_244_12_24 : decode prog_244_method_12_code 24 = .ok (.iload_n 0, 1) := by decide +kernel
theorem od_244_12_25 : decode prog_244_method_12_code 25 = .ok (.bipush 13, 2) := by decide +kernel
theorem od_244_12_27 : decode prog_244_method_12_code 27 = .ok (.if_icmp .eq 27, 3) := by decide +kernel
theorem od_244_12_30 : decode prog_244_method_12_code 30 = .ok (.iload_n 0, 1) := by decide +kernel
theorem od_244_12_31 : decode prog_244_method_12_code 31 = .ok (.ldc 129, 2) := by decide +kernel
theorem od_244_12_33 : decode prog_244_method_12_code 33 = .ok (.if_icmp .lt 9, 3) := by decide +kernel
theorem od_244_12_42 : decode prog_244_method_12_code 42 = .ok (.iload_n 0, 1) := by decide +kernel
theorem od_244_12_43 : decode prog_244_method_12_code 43 = .ok (.ldc 131, 2) := by decide +kernel
theorem od_244_12_45 : decode prog_244_method_12_code 45 = .ok (.if_icmp .lt 13, 3) := by decide +kernel
theorem od_244_12_58 : decode prog_244_method_12_code 58 = .ok (.iconst 0, 1) := by decide +kernel
theorem od_244_12_48 : decode prog_244_method_12_code 48 = .ok (.iload_n 0, 1) := by decide +kernel
theorem od_244_12_49 : decode prog_244_method_12_code 49 = .ok (.ldc 134, 2) := by decide +kernel
theorem od_244_12_51 : decode prog_244_method_12_code 51 = .ok (.if_icmp .gt 7, 3) := by decide +kernel
theorem od_244_12_36 : decode prog_244_method_12_code 36 = .ok (.iload_n 0, 1) := by decide +kernel
theorem od_244_12_37 : decode prog_244_method_12_code 37 = .ok (.ldc 130, 2) := by decide +kernel
theorem od_244_12_39 : decode prog_244_method_12_code 39 = .ok (.if_icmp .le 15, 3) := by decide +kernel
theorem od_244_12_6 : decode prog_244_method_12_code 6 = .ok (.iload_n 0, 1) := by decide +kernel
theorem od_244_12_7 : decode prog_244_method_12_code 7 = .ok (.ldc 128, 2) := by decide +kernel
theorem od_244_12_9 : decode prog_244_method_12_code 9 = .ok (.if_icmp .le 45, 3) := by decide +kernel
set_option maxRecDepth 65536 in
set_option maxHeartbeats 40000000 in
theorem own_c_isc (l : Launch) (Z : State) (a0 : Array Value) (hw : ∀ d ∈ tables_1, d.before a0 Z = true) (x0 : Int32) (h0 : Heap) :
    own_Con l Z (⟨"com/example/holdfast/holdfast/model/XmlNames", "isChar", "(I)Z"⟩ : MethodName) prog_244_method_12_code 1 (some .boolean) [] ({ frames := 0, cells := 0, slots := 0, locals := 0 } : Room) #[(.int x0)] h0 (fun v h L => v = some (.int (own_isC x0)) ∧ L = [] ∧ h = h0) := by
  refine own_enter (plainFor_of_name own_pn0) ?_
  intro p e s m below meth c s₁ X0 e0 hx hZ hby hml hown hnm hret hlk
  refine own_cast (g' := (mkF m 0 #[.val (.int x0)] [])) (by first | (simp [entryFrame, mkF, argsToLocals, Value.category]; done) | rfl) ?_
  refine own_g (mkF m 1 #[.val (.int x0)] [(.int x0)]) (fun _ kz => XS.iloadN X0.here hx rfl (hb hby od_244_12_0) rfl kz) ?_
  refine own_g (mkF m 3 #[.val (.int x0)] [(.int (32 : Int32)), (.int x0)]) (fun _ kz => XS.bipush X0.here hx rfl (hb hby od_244_12_1) kz) ?_
  by_cases hc3_1 : x0 < (32 : Int32)
  · refine own_g (mkF m 12 #[.val (.int x0)] []) (fun _ kz => XS.icmpYes X0.here hx rfl (pc0 := 3) (pc' := 12) rfl (hb hby od_244_12_3) rfl (tlt hc3_1).1 (by decide) (by decide) kz) ?_
    refine own_g (mkF m 13 #[.val (.int x0)] [(.int x0)]) (fun _ kz => XS.iloadN X0.here hx rfl (hb hby od_244_12_12) rfl kz) ?_
    refine own_g (mkF m 15 #[.val (.int x0)] [(.int (9 : Int32)), (.int x0)]) (fun _ kz => XS.bipush X0.here hx rfl (hb hby od_244_12_13) kz) ?_
    by_cases hc15_2 : x0 = (9 : Int32)
    · refine own_g (mkF m 54 #[.val (.int x0)] []) (fun _ kz => XS.icmpYes X0.here hx rfl (pc0 := 15) (pc' := 54) rfl (hb hby od_244_12_15) rfl (teq hc15_2).1 (by decide) (by decide) kz) ?_
      refine own_g (mkF m 55 #[.val (.int x0)] [(.int (1 : Int32))]) (fun _ kz => XS.iconst X0.here hx rfl (hb hby od_244_12_54) kz) ?_
      refine own_g (mkF m 59 #[.val (.int x0)] [(.int (1 : Int32))]) (fun _ kz => XS.goto X0.here hx rfl (pc0 := 55) (pc' := 59) rfl (hb hby od_244_12_55) (by decide) (by decide) kz) ?_
      exact own_retZ X0 hx hret hlk (hb hby od_244_12_59) rfl (by decide) (by decide) (by first | exact ⟨by simp [own_isC, own_t9, own_t3, hc3_1, hc15_2], rfl, rfl⟩ | (rw [e0]; exact ⟨by simp [own_isC, own_t9, own_t3, hc3_1, hc15_2], rfl, rfl⟩))
    · refine own_g (mkF m 18 #[.val (.int x0)] []) (fun _ kz => XS.icmpNo X0.here hx rfl (hb hby od_244_12_15) rfl (feq hc15_2).1 kz) ?_
      refine own_g (mkF m 19 #[.val (.int x0)] [(.int x0)]) (fun _ kz => XS.iloadN X0.here hx rfl (hb hby od_244_12_18) rfl kz) ?_
      refine own_g (mkF m 21 #[.val (.int x0)] [(.int (10 : Int32)), (.int x0)]) (fun _ kz => XS.bipush X0.here hx rfl (hb hby od_244_12_19) kz) ?_
      by_cases hc21_3 : x0 = (10 : Int32)
      · refine own_g (mkF m 54 #[.val (.int x0)] []) (fun _ kz => XS.icmpYes X0.here hx rfl (pc0 := 21) (pc' := 54) rfl (hb hby od_244_12_21) rfl (teq hc21_3).1 (by decide) (by decide) kz) ?_
        refine own_g (mkF m 55 #[.val (.int x0)] [(.int (1 : Int32))]) (fun _ kz => XS.iconst X0.here hx rfl (hb hby od_244_12_54) kz) ?_
        refine own_g (mkF m 59 #[.val (.int x0)] [(.int (1 : Int32))]) (fun _ kz => XS.goto X0.here hx rfl (pc0 := 55) (pc' := 59) rfl (hb hby od_244_12_55) (by decide) (by decide) kz) ?_
        exact own_retZ X0 hx hret hlk (hb hby od_244_12_59) rfl (by decide) (by decide) (by first | exact ⟨by simp [own_isC, own_t9, own_t3, hc3_1, hc15_2, hc21_3], rfl, rfl⟩ | (rw [e0]; exact ⟨by simp [own_isC, own_t9, own_t3, hc3_1, hc15_2, hc21_3], rfl, rfl⟩))
      · refine own_g (mkF m 24 #[.val (.int x0)] []) (fun _ kz => XS.icmpNo X0.here hx rfl (hb hby od_244_12_21) rfl (feq hc21_3).1 kz) ?_
        refine own_g (mkF m 25 #[.val (.int x0)] [(.int x0)]) (fun _ kz => XS.iloadN X0.here hx rfl (hb hby od_244_12_24) rfl kz) ?_
        refine own_g (mkF m 27 #[.val (.int x0)] [(.int (13 : Int32)), (.int x0)]) (fun _ kz => XS.bipush X0.here hx rfl (hb hby od_244_12_25) kz) ?_
        by_cases hc27_4 : x0 = (13 : Int32)
        · refine own_g (mkF m 54 #[.val (.int x0)] []) (fun _ kz => XS.icmpYes X0.here hx rfl (pc0 := 27) (pc' := 54) rfl (hb hby od_244_12_27) rfl (teq hc27_4).1 (by decide) (by decide) kz) ?_
          refine own_g (mkF m 55 #[.val (.int x0)] [(.int (1 : Int32))]) (fun _ kz => XS.iconst X0.here hx rfl (hb hby od_244_12_54) kz) ?_
          refine own_g (mkF m 59 #[.val (.int x0)] [(.int (1 : Int32))]) (fun _ kz => XS.goto X0.here hx rfl (pc0 := 55) (pc' := 59) rfl (hb hby od_244_12_55) (by decide) (by decide) kz) ?_
          exact own_retZ X0 hx hret hlk (hb hby od_244_12_59) rfl (by decide) (by decide) (by first | exact ⟨by simp [own_isC, own_t9, own_t3, hc3_1, hc15_2, hc21_3, hc27_4], rfl, rfl⟩ | (rw [e0]; exact ⟨by simp [own_isC, own_t9, own_t3, hc3_1, hc15_2, hc21_3, hc27_4], rfl, rfl⟩))
        · refine own_g (mkF m 30 #[.val (.int x0)] []) (fun _ kz => XS.icmpNo X0.here hx rfl (hb hby od_244_12_27) rfl (feq hc27_4).1 kz) ?_
          refine own_g (mkF m 31 #[.val (.int x0)] [(.int x0)]) (fun _ kz => XS.iloadN X0.here hx rfl (hb hby od_244_12_30) rfl kz) ?_
          refine own_g (mkF m 33 #[.val (.int x0)] [(.int (57344 : Int32)), (.int x0)]) (fun _ kz => X0.ldcInt hx hown (mvT hZ (own_w hw 21 rfl)) (g := (mkF m 31 #[.val (.int x0)] [(.int x0)])) rfl (hb hby od_244_12_31) _ kz) ?_
          by_cases hc33_5 : x0 < (57344 : Int32)
          · refine own_g (mkF m 42 #[.val (.int x0)] []) (fun _ kz => XS.icmpYes X0.here hx rfl (pc0 := 33) (pc' := 42) rfl (hb hby od_244_12_33) rfl (tlt hc33_5).1 (by decide) (by decide) kz) ?_
            refine own_g (mkF m 43 #[.val (.int x0)] [(.int x0)]) (fun _ kz => XS.iloadN X0.here hx rfl (hb hby od_244_12_42) rfl kz) ?_
            refine own_g (mkF m 45 #[.val (.int x0)] [(.int (65536 : Int32)), (.int x0)]) (fun _ kz => X0.ldcInt hx hown (mvT hZ (own_w hw 22 rfl)) (g := (mkF m 43 #[.val (.int x0)] [(.int x0)])) rfl (hb hby od_244_12_43) _ kz) ?_
            by_cases hc45_6 : x0 < (65536 : Int32)
            · refine own_g (mkF m 58 #[.val (.int x0)] []) (fun _ kz => XS.icmpYes X0.here hx rfl (pc0 := 45) (pc' := 58) rfl (hb hby od_244_12_45) rfl (tlt hc45_6).1 (by decide) (by decide) kz) ?_
              refine own_g (mkF m 59 #[.val (.int x0)] [(.int (0 : Int32))]) (fun _ kz => XS.iconst X0.here hx rfl (hb hby od_244_12_58) kz) ?_
              exact own_retZ X0 hx hret hlk (hb hby od_244_12_59) rfl (by decide) (by decide) (by first | exact ⟨by simp [own_isC, own_t9, own_t3, hc3_1, hc15_2, hc21_3, hc27_4, hc33_5, hc45_6], rfl, rfl⟩ | (rw [e0]; exact ⟨by simp [own_isC, own_t9, own_t3, hc3_1, hc15_2, hc21_3, hc27_4, hc33_5, hc45_6], rfl, rfl⟩))
            · refine own_g (mkF m 48 #[.val (.int x0)] []) (fun _ kz => XS.icmpNo X0.here hx rfl (hb hby od_244_12_45) rfl (flt hc45_6).1 kz) ?_
              refine own_g (mkF m 49 #[.val (.int x0)] [(.int x0)]) (fun _ kz => XS.iloadN X0.here hx rfl (hb hby od_244_12_48) rfl kz) ?_
              refine own_g (mkF m 51 #[.val (.int x0)] [(.int (1114111 : Int32)), (.int x0)]) (fun _ kz => X0.ldcInt hx hown (mvT hZ (own_w hw 25 rfl)) (g := (mkF m 49 #[.val (.int x0)] [(.int x0)])) rfl (hb hby od_244_12_49) _ kz) ?_
              by_cases hc51_7 : (1114111 : Int32) < x0
              · refine own_g (mkF m 58 #[.val (.int x0)] []) (fun _ kz => XS.icmpYes X0.here hx rfl (pc0 := 51) (pc' := 58) rfl (hb hby od_244_12_51) rfl (tlt hc51_7).2.2.1 (by decide) (by decide) kz) ?_
                refine own_g (mkF m 59 #[.val (.int x0)] [(.int (0 : Int32))]) (fun _ kz => XS.iconst X0.here hx rfl (hb hby od_244_12_58) kz) ?_
                exact own_retZ X0 hx hret hlk (hb hby od_244_12_59) rfl (by decide) (by decide) (by first | exact ⟨by simp [own_isC, own_t9, own_t3, hc3_1, hc15_2, hc21_3, hc27_4, hc33_5, hc45_6, hc51_7], rfl, rfl⟩ | (rw [e0]; exact ⟨by simp [own_isC, own_t9, own_t3, hc3_1, hc15_2, hc21_3, hc27_4, hc33_5, hc45_6, hc51_7], rfl, rfl⟩))
              · refine own_g (mkF m 54 #[.val (.int x0)] []) (fun _ kz => XS.icmpNo X0.here hx rfl (hb hby od_244_12_51) rfl (flt hc51_7).2.2.1 kz) ?_
                refine own_g (mkF m 55 #[.val (.int x0)] [(.int (1 : Int32))]) (fun _ kz => XS.iconst X0.here hx rfl (hb hby od_244_12_54) kz) ?_
                refine own_g (mkF m 59 #[.val (.int x0)] [(.int (1 : Int32))]) (fun _ kz => XS.goto X0.here hx rfl (pc0 := 55) (pc' := 59) rfl (hb hby od_244_12_55) (by decide) (by decide) kz) ?_
                exact own_retZ X0 hx hret hlk (hb hby od_244_12_59) rfl (by decide) (by decide) (by first | exact ⟨by simp [own_isC, own_t9, own_t3, hc3_1, hc15_2, hc21_3, hc27_4, hc33_5, hc45_6, hc51_7], rfl, rfl⟩ | (rw [e0]; exact ⟨by simp [own_isC, own_t9, own_t3, hc3_1, hc15_2, hc21_3, hc27_4, hc33_5, hc45_6, hc51_7], rfl, rfl⟩))
          · refine own_g (mkF m 36 #[.val (.int x0)] []) (fun _ kz => XS.icmpNo X0.here hx rfl (hb hby od_244_12_33) rfl (flt hc33_5).1 kz) ?_
            refine own_g (mkF m 37 #[.val (.int x0)] [(.int x0)]) (fun _ kz => XS.iloadN X0.here hx rfl (hb hby od_244_12_36) rfl kz) ?_
            refine own_g (mkF m 39 #[.val (.int x0)] [(.int (65533 : Int32)), (.int x0)]) (fun _ kz => X0.ldcInt hx hown (mvT hZ (own_w hw 24 rfl)) (g := (mkF m 37 #[.val (.int x0)] [(.int x0)])) rfl (hb hby od_244_12_37) _ kz) ?_
            by_cases hc39_8 : (65533 : Int32) < x0
            · refine own_g (mkF m 42 #[.val (.int x0)] []) (fun _ kz => XS.icmpNo X0.here hx rfl (hb hby od_244_12_39) rfl (tlt hc39_8).2.2.2 kz) ?_
              refine own_g (mkF m 43 #[.val (.int x0)] [(.int x0)]) (fun _ kz => XS.iloadN X0.here hx rfl (hb hby od_244_12_42) rfl kz) ?_
              refine own_g (mkF m 45 #[.val (.int x0)] [(.int (65536 : Int32)), (.int x0)]) (fun _ kz => X0.ldcInt hx hown (mvT hZ (own_w hw 22 rfl)) (g := (mkF m 43 #[.val (.int x0)] [(.int x0)])) rfl (hb hby od_244_12_43) _ kz) ?_
              by_cases hc45_9 : x0 < (65536 : Int32)
              · refine own_g (mkF m 58 #[.val (.int x0)] []) (fun _ kz => XS.icmpYes X0.here hx rfl (pc0 := 45) (pc' := 58) rfl (hb hby od_244_12_45) rfl (tlt hc45_9).1 (by decide) (by decide) kz) ?_
                refine own_g (mkF m 59 #[.val (.int x0)] [(.int (0 : Int32))]) (fun _ kz => XS.iconst X0.here hx rfl (hb hby od_244_12_58) kz) ?_
                exact own_retZ X0 hx hret hlk (hb hby od_244_12_59) rfl (by decide) (by decide) (by first | exact ⟨by simp [own_isC, own_t9, own_t3, hc3_1, hc15_2, hc21_3, hc27_4, hc33_5, hc39_8, hc45_9], rfl, rfl⟩ | (rw [e0]; exact ⟨by simp [own_isC, own_t9, own_t3, hc3_1, hc15_2, hc21_3, hc27_4, hc33_5, hc39_8, hc45_9], rfl, rfl⟩))
              · refine own_g (mkF m 48 #[.val (.int x0)] []) (fun _ kz => XS.icmpNo X0.here hx rfl (hb hby od_244_12_45) rfl (flt hc45_9).1 kz) ?_
                refine own_g (mkF m 49 #[.val (.int x0)] [(.int x0)]) (fun _ kz => XS.iloadN X0.here hx rfl (hb hby od_244_12_48) rfl kz) ?_
                refine own_g (mkF m 51 #[.val (.int x0)] [(.int (1114111 : Int32)), (.int x0)]) (fun _ kz => X0.ldcInt hx hown (mvT hZ (own_w hw 25 rfl)) (g := (mkF m 49 #[.val (.int x0)] [(.int x0)])) rfl (hb hby od_244_12_49) _ kz) ?_
                by_cases hc51_10 : (1114111 : Int32) < x0
                · refine own_g (mkF m 58 #[.val (.int x0)] []) (fun _ kz => XS.icmpYes X0.here hx rfl (pc0 := 51) (pc' := 58) rfl (hb hby od_244_12_51) rfl (tlt hc51_10).2.2.1 (by decide) (by decide) kz) ?_
                  refine own_g (mkF m 59 #[.val (.int x0)] [(.int (0 : Int32))]) (fun _ kz => XS.iconst X0.here hx rfl (hb hby od_244_12_58) kz) ?_
                  exact own_retZ X0 hx hret hlk (hb hby od_244_12_59) rfl (by decide) (by decide) (by first | exact ⟨by simp [own_isC, own_t9, own_t3, hc3_1, hc15_2, hc21_3, hc27_4, hc33_5, hc39_8, hc45_9, hc51_10], rfl, rfl⟩ | (rw [e0]; exact ⟨by simp [own_isC, own_t9, own_t3, hc3_1, hc15_2, hc21_3, hc27_4, hc33_5, hc39_8, hc45_9, hc51_10], rfl, rfl⟩))
                · refine own_g (mkF m 54 #[.val (.int x0)] []) (fun _ kz => XS.icmpNo X0.here hx rfl (hb hby od_244_12_51) rfl (flt hc51_10).2.2.1 kz) ?_
                  refine own_g (mkF m 55 #[.val (.int x0)] [(.int (1 : Int32))]) (fun _ kz => XS.iconst X0.here hx rfl (hb hby od_244_12_54) kz) ?_
                  refine own_g (mkF m 59 #[.val (.int x0)] [(.int (1 : Int32))]) (fun _ kz => XS.goto X0.here hx rfl (pc0 := 55) (pc' := 59) rfl (hb hby od_244_12_55) (by decide) (by decide) kz) ?_
                  exact own_retZ X0 hx hret hlk (hb hby od_244_12_59) rfl (by decide) (by decide) (by first | exact ⟨by simp [own_isC, own_t9, own_t3, hc3_1, hc15_2, hc21_3, hc27_4, hc33_5, hc39_8, hc45_9, hc51_10], rfl, rfl⟩ | (rw [e0]; exact ⟨by simp [own_isC, own_t9, own_t3, hc3_1, hc15_2, hc21_3, hc27_4, hc33_5, hc39_8, hc45_9, hc51_10], rfl, rfl⟩))
            · refine own_g (mkF m 54 #[.val (.int x0)] []) (fun _ kz => XS.icmpYes X0.here hx rfl (pc0 := 39) (pc' := 54) rfl (hb hby od_244_12_39) rfl (flt hc39_8).2.2.2 (by decide) (by decide) kz) ?_
              refine own_g (mkF m 55 #[.val (.int x0)] [(.int (1 : Int32))]) (fun _ kz => XS.iconst X0.here hx rfl (hb hby od_244_12_54) kz) ?_
              refine own_g (mkF m 59 #[.val (.int x0)] [(.int (1 : Int32))]) (fun _ kz => XS.goto X0.here hx rfl (pc0 := 55) (pc' := 59) rfl (hb hby od_244_12_55) (by decide) (by decide) kz) ?_
              exact own_retZ X0 hx hret hlk (hb hby od_244_12_59) rfl (by decide) (by decide) (by first | exact ⟨by simp [own_isC, own_t9, own_t3, hc3_1, hc15_2, hc21_3, hc27_4, hc33_5, hc39_8], rfl, rfl⟩ | (rw [e0]; exact ⟨by simp [own_isC, own_t9, own_t3, hc3_1, hc15_2, hc21_3, hc27_4, hc33_5, hc39_8], rfl, rfl⟩))
  · refine own_g (mkF m 6 #[.val (.int x0)] []) (fun _ kz => XS.icmpNo X0.here hx rfl (hb hby od_244_12_3) rfl (flt hc3_1).1 kz) ?_
    refine own_g (mkF m 7 #[.val (.int x0)] [(.int x0)]) (fun _ kz => XS.iloadN X0.here hx rfl (hb hby od_244_12_6) rfl kz) ?_
    refine own_g (mkF m 9 #[.val (.int x0)] [(.int (55295 : Int32)), (.int x0)]) (fun _ kz => X0.ldcInt hx hown (mvT hZ (own_w hw 23 rfl)) (g := (mkF m 7 #[.val (.int x0)] [(.int x0)])) rfl (hb hby od_244_12_7) _ kz) ?_
    by_cases hc9_11 : (55295 : Int32) < x0
    · refine own_g (mkF m 12 #[.val (.int x0)] []) (fun _ kz => XS.icmpNo X0.here hx rfl (hb hby od_244_12_9) rfl (tlt hc9_11).2.2.2 kz) ?_
      refine own_g (mkF m 13 #[.val (.int x0)] [(.int x0)]) (fun _ kz => XS.iloadN X0.here hx rfl (hb hby od_244_12_12) rfl kz) ?_
      refine own_g (mkF m 15 #[.val (.int x0)] [(.int (9 : Int32)), (.int x0)]) (fun _ kz => XS.bipush X0.here hx rfl (hb hby od_244_12_13) kz) ?_
      by_cases hc15_12 : x0 = (9 : Int32)
      · refine own_g (mkF m 54 #[.val (.int x0)] []) (fun _ kz => XS.icmpYes X0.here hx rfl (pc0 := 15) (pc' := 54) rfl (hb hby od_244_12_15) rfl (teq hc15_12).1 (by decide) (by decide) kz) ?_
        refine own_g (mkF m 55 #[.val (.int x0)] [(.int (1 : Int32))]) (fun _ kz => XS.iconst X0.here hx rfl (hb hby od_244_12_54) kz) ?_
        refine own_g (mkF m 59 #[.val (.int x0)] [(.int (1 : Int32))]) (fun _ kz => XS.goto X0.here hx rfl (pc0 := 55) (pc' := 59) rfl (hb hby od_244_12_55) (by decide) (by decide) kz) ?_
        exact own_retZ X0 hx hret hlk (hb hby od_244_12_59) rfl (by decide) (by decide) (by first | exact ⟨by simp [own_isC, own_t9, own_t3, hc3_1, hc9_11, hc15_12], rfl, rfl⟩ | (rw [e0]; exact ⟨by simp [own_isC, own_t9, own_t3, hc3_1, hc9_11, hc15_12], rfl, rfl⟩))
      · refine own_g (mkF m 18 #[.val (.int x0)] []) (fun _ kz => XS.icmpNo X0.here hx rfl (hb hby od_244_12_15) rfl (feq hc15_12).1 kz) ?_
        refine own_g (mkF m 19 #[.val (.int x0)] [(.int x0)]) (fun _ kz => XS.iloadN X0.here hx rfl (hb hby od_244_12_18) rfl kz) ?_
        refine own_g (mkF m 21 #[.val (.int x0)] [(.int (10 : Int32)), (.int x0)]) (fun _ kz => XS.bipush X0.here hx rfl (hb hby od_244_12_19) kz) ?_
        by_cases hc21_13 : x0 = (10 : Int32)
        · refine own_g (mkF m 54 #[.val (.int x0)] []) (fun _ kz => XS.icmpYes X0.here hx rfl (pc0 := 21) (pc' := 54) rfl (hb hby od_244_12_21) rfl (teq hc21_13).1 (by decide) (by decide) kz) ?_
          refine own_g (mkF m 55 #[.val (.int x0)] [(.int (1 : Int32))]) (fun _ kz => XS.iconst X0.here hx rfl (hb hby od_244_12_54) kz) ?_
          refine own_g (mkF m 59 #[.val (.int x0)] [(.int (1 : Int32))]) (fun _ kz => XS.goto X0.here hx rfl (pc0 := 55) (pc' := 59) rfl (hb hby od_244_12_55) (by decide) (by decide) kz) ?_
          exact own_retZ X0 hx hret hlk (hb hby od_244_12_59) rfl (by decide) (by decide) (by first | exact ⟨by simp [own_isC, own_t9, own_t3, hc3_1, hc9_11, hc15_12, hc21_13], rfl, rfl⟩ | (rw [e0]; exact ⟨by simp [own_isC, own_t9, own_t3, hc3_1, hc9_11, hc15_12, hc21_13], rfl, rfl⟩))
        · refine own_g (mkF m 24 #[.val (.int x0)] []) (fun _ kz => XS.icmpNo X0.here hx rfl (hb hby od_244_12_21) rfl (feq hc21_13).1 kz) ?_
          refine own_g (mkF m 25 #[.val (.int x0)] [(.int x0)]) (fun _ kz => XS.iloadN X0.here hx rfl (hb hby od_244_12_24) rfl kz) ?_
          refine own_g (mkF m 27 #[.val (.int x0)] [(.int (13 : Int32)), (.int x0)]) (fun _ kz => XS.bipush X0.here hx rfl (hb hby od_244_12_25) kz) ?_
          by_cases hc27_14 : x0 = (13 : Int32)
          · refine own_g (mkF m 54 #[.val (.int x0)] []) (fun _ kz => XS.icmpYes X0.here hx rfl (pc0 := 27) (pc' := 54) rfl (hb hby od_244_12_27) rfl (teq hc27_14).1 (by decide) (by decide) kz) ?_
            refine own_g (mkF m 55 #[.val (.int x0)] [(.int (1 : Int32))]) (fun _ kz => XS.iconst X0.here hx rfl (hb hby od_244_12_54) kz) ?_
            refine own_g (mkF m 59 #[.val (.int x0)] [(.int (1 : Int32))]) (fun _ kz => XS.goto X0.here hx rfl (pc0 := 55) (pc' := 59) rfl (hb hby od_244_12_55) (by decide) (by decide) kz) ?_
            exact own_retZ X0 hx hret hlk (hb hby od_244_12_59) rfl (by decide) (by decide) (by first | exact ⟨by simp [own_isC, own_t9, own_t3, hc3_1, hc9_11, hc15_12, hc21_13, hc27_14], rfl, rfl⟩ | (rw [e0]; exact ⟨by simp [own_isC, own_t9, own_t3, hc3_1, hc9_11, hc15_12, hc21_13, hc27_14], rfl, rfl⟩))
          · refine own_g (mkF m 30 #[.val (.int x0)] []) (fun _ kz => XS.icmpNo X0.here hx rfl (hb hby od_244_12_27) rfl (feq hc27_14).1 kz) ?_
            refine own_g (mkF m 31 #[.val (.int x0)] [(.int x0)]) (fun _ kz => XS.iloadN X0.here hx rfl (hb hby od_244_12_30) rfl kz) ?_
            refine own_g (mkF m 33 #[.val (.int x0)] [(.int (57344 : Int32)), (.int x0)]) (fun _ kz => X0.ldcInt hx hown (mvT hZ (own_w hw 21 rfl)) (g := (mkF m 31 #[.val (.int x0)] [(.int x0)])) rfl (hb hby od_244_12_31) _ kz) ?_
            by_cases hc33_15 : x0 < (57344 : Int32)
            · refine own_g (mkF m 42 #[.val (.int x0)] []) (fun _ kz => XS.icmpYes X0.here hx rfl (pc0 := 33) (pc' := 42) rfl (hb hby od_244_12_33) rfl (tlt hc33_15).1 (by decide) (by decide) kz) ?_
              refine own_g (mkF m 43 #[.val (.int x0)] [(.int x0)]) (fun _ kz => XS.iloadN X0.here hx rfl (hb hby od_244_12_42) rfl kz) ?_
              refine own_g (mkF m 45 #[.val (.int x0)] [(.int (65536 : Int32)), (.int x0)]) (fun _ kz => X0.ldcInt hx hown (mvT hZ (own_w hw 22 rfl)) (g := (mkF m 43 #[.val (.int x0)] [(.int x0)])) rfl (hb hby od_244_12_43) _ kz) ?_
              by_cases hc45_16 : x0 < (65536 : Int32)
              · refine own_g (mkF m 58 #[.val (.int x0)] []) (fun _ kz => XS.icmpYes X0.here hx rfl (pc0 := 45) (pc' := 58) rfl (hb hby od_244_12_45) rfl (tlt hc45_16).1 (by decide) (by decide) kz) ?_
                refine own_g (mkF m 59 #[.val (.int x0)] [(.int (0 : Int32))]) (fun _ kz => XS.iconst X0.here hx rfl (hb hby od_244_12_58) kz) ?_
                exact own_retZ X0 hx hret hlk (hb hby od_244_12_59) rfl (by decide) (by decide) (by first | exact ⟨by simp [own_isC, own_t9, own_t3, hc3_1, hc9_11, hc15_12, hc21_13, hc27_14, hc33_15, hc45_16], rfl, rfl⟩ | (rw [e0]; exact ⟨by simp [own_isC, own_t9, own_t3, hc3_1, hc9_11, hc15_12, hc21_13, hc27_14, hc33_15, hc45_16], rfl, rfl⟩))
              · refine own_g (mkF m 48 #[.val (.int x0)] []) (fun _ kz => XS.icmpNo X0.here hx rfl (hb hby od_244_12_45) rfl (flt hc45_16).1 kz) ?_
                refine own_g (mkF m 49 #[.val (.int x0)] [(.int x0)]) (fun _ kz => XS.iloadN X0.here hx rfl (hb hby od_244_12_48) rfl kz) ?_
                refine own_g (mkF m 51 #[.val (.int x0)] [(.int (1114111 : Int32)), (.int x0)]) (fun _ kz => X0.ldcInt hx hown (mvT hZ (own_w hw 25 rfl)) (g := (mkF m 49 #[.val (.int x0)] [(.int x0)])) rfl (hb hby od_244_12_49) _ kz) ?_
                by_cases hc51_17 : (1114111 : Int32) < x0
                · refine own_g (mkF m 58 #[.val (.int x0)] []) (fun _ kz => XS.icmpYes X0.here hx rfl (pc0 := 51) (pc' := 58) rfl (hb hby od_244_12_51) rfl (tlt hc51_17).2.2.1 (by decide) (by decide) kz) ?_
                  refine own_g (mkF m 59 #[.val (.int x0)] [(.int (0 : Int32))]) (fun _ kz => XS.iconst X0.here hx rfl (hb hby od_244_12_58) kz) ?_
                  exact own_retZ X0 hx hret hlk (hb hby od_244_12_59) rfl (by decide) (by decide) (by first | exact ⟨by simp [own_isC, own_t9, own_t3, hc3_1, hc9_11, hc15_12, hc21_13, hc27_14, hc33_15, hc45_16, hc51_17], rfl, rfl⟩ | (rw [e0]; exact ⟨by simp [own_isC, own_t9, own_t3, hc3_1, hc9_11, hc15_12, hc21_13, hc27_14, hc33_15, hc45_16, hc51_17], rfl, rfl⟩))
                · refine own_g (mkF m 54 #[.val (.int x0)] []) (fun _ kz => XS.icmpNo X0.here hx rfl (hb hby od_244_12_51) rfl (flt hc51_17).2.2.1 kz) ?_
                  refine own_g (mkF m 55 #[.val (.int x0)] [(.int (1 : Int32))]) (fun _ kz => XS.iconst X0.here hx rfl (hb hby od_244_12_54) kz) ?_
                  refine own_g (mkF m 59 #[.val (.int x0)] [(.int (1 : Int32))]) (fun _ kz => XS.goto X0.here hx rfl (pc0 := 55) (pc' := 59) rfl (hb hby od_244_12_55) (by decide) (by decide) kz) ?_
                  exact own_retZ X0 hx hret hlk (hb hby od_244_12_59) rfl (by decide) (by decide) (by first | exact ⟨by simp [own_isC, own_t9, own_t3, hc3_1, hc9_11, hc15_12, hc21_13, hc27_14, hc33_15, hc45_16, hc51_17], rfl, rfl⟩ | (rw [e0]; exact ⟨by simp [own_isC, own_t9, own_t3, hc3_1, hc9_11, hc15_12, hc21_13, hc27_14, hc33_15, hc45_16, hc51_17], rfl, rfl⟩))
            · refine own_g (mkF m 36 #[.val (.int x0)] []) (fun _ kz => XS.icmpNo X0.here hx rfl (hb hby od_244_12_33) rfl (flt hc33_15).1 kz) ?_
              refine own_g (mkF m 37 #[.val (.int x0)] [(.int x0)]) (fun _ kz => XS.iloadN X0.here hx rfl (hb hby od_244_12_36) rfl kz) ?_
              refine own_g (mkF m 39 #[.val (.int x0)] [(.int (65533 : Int32)), (.int x0)]) (fun _ kz => X0.ldcInt hx hown (mvT hZ (own_w hw 24 rfl)) (g := (mkF m 37 #[.val (.int x0)] [(.int x0)])) rfl (hb hby od_244_12_37) _ kz) ?_
              by_cases hc39_18 : (65533 : Int32) < x0
              · refine own_g (mkF m 42 #[.val (.int x0)] []) (fun _ kz => XS.icmpNo X0.here hx rfl (hb hby od_244_12_39) rfl (tlt hc39_18).2.2.2 kz) ?_
                refine own_g (mkF m 43 #[.val (.int x0)] [(.int x0)]) (fun _ kz => XS.iloadN X0.here hx rfl (hb hby od_244_12_42) rfl kz) ?_
                refine own_g (mkF m 45 #[.val (.int x0)] [(.int (65536 : Int32)), (.int x0)]) (fun _ kz => X0.ldcInt hx hown (mvT hZ (own_w hw 22 rfl)) (g := (mkF m 43 #[.val (.int x0)] [(.int x0)])) rfl (hb hby od_244_12_43) _ kz) ?_
                by_cases hc45_19 : x0 < (65536 : Int32)
                · refine own_g (mkF m 58 #[.val (.int x0)] []) (fun _ kz => XS.icmpYes X0.here hx rfl (pc0 := 45) (pc' := 58) rfl (hb hby od_244_12_45) rfl (tlt hc45_19).1 (by decide) (by decide) kz) ?_
                  refine own_g (mkF m 59 #[.val (.int x0)] [(.int (0 : Int32))]) (fun _ kz => XS.iconst X0.here hx rfl (hb hby od_244_12_58) kz) ?_
                  exact own_retZ X0 hx hret hlk (hb hby od_244_12_59) rfl (by decide) (by decide) (by first | exact ⟨by simp [own_isC, own_t9, own_t3, hc3_1, hc9_11, hc15_12, hc21_13, hc27_14, hc33_15, hc39_18, hc45_19], rfl, rfl⟩ | (rw [e0]; exact ⟨by simp [own_isC, own_t9, own_t3, hc3_1, hc9_11, hc15_12, hc21_13, hc27_14, hc33_15, hc39_18, hc45_19], rfl, rfl⟩))
                · refine own_g (mkF m 48 #[.val (.int x0)] []) (fun _ kz => XS.icmpNo X0.here hx rfl (hb hby od_244_12_45) rfl (flt hc45_19).1 kz) ?_
                  refine own_g (mkF m 49 #[.val (.int x0)] [(.int x0)]) (fun _ kz => XS.iloadN X0.here hx rfl (hb hby od_244_12_48) rfl kz) ?_
                  refine own_g (mkF m 51 #[.val (.int x0)] [(.int (1114111 : Int32)), (.int x0)]) (fun _ kz => X0.ldcInt hx hown (mvT hZ (own_w hw 25 rfl)) (g := (mkF m 49 #[.val (.int x0)] [(.int x0)])) rfl (hb hby od_244_12_49) _ kz) ?_
                  by_cases hc51_20 : (1114111 : Int32) < x0
                  · refine own_g (mkF m 58 #[.val (.int x0)] []) (fun _ kz => XS.icmpYes X0.here hx rfl (pc0 := 51) (pc' := 58) rfl (hb hby od_244_12_51) rfl (tlt hc51_20).2.2.1 (by decide) (by decide) kz) ?_
                    refine own_g (mkF m 59 #[.val (.int x0)] [(.int (0 : Int32))]) (fun _ kz => XS.iconst X0.here hx rfl (hb hby od_244_12_58) kz) ?_
                    exact own_retZ X0 hx hret hlk (hb hby od_244_12_59) rfl (by decide) (by decide) (by first | exact ⟨by simp [own_isC, own_t9, own_t3, hc3_1, hc9_11, hc15_12, hc21_13, hc27_14, hc33_15, hc39_18, hc45_19, hc51_20], rfl, rfl⟩ | (rw [e0]; exact ⟨by simp [own_isC, own_t9, own_t3, hc3_1, hc9_11, hc15_12, hc21_13, hc27_14, hc33_15, hc39_18, hc45_19, hc51_20], rfl, rfl⟩))
                  · refine own_g (mkF m 54 #[.val (.int x0)] []) (fun _ kz => XS.icmpNo X0.here hx rfl (hb hby od_244_12_51) rfl (flt hc51_20).2.2.1 kz) ?_
                    refine own_g (mkF m 55 #[.val (.int x0)] [(.int (1 : Int32))]) (fun _ kz => XS.iconst X0.here hx rfl (hb hby od_244_12_54) kz) ?_
                    refine own_g (mkF m 59 #[.val (.int x0)] [(.int (1 : Int32))]) (fun _ kz => XS.goto X0.here hx rfl (pc0 := 55) (pc' := 59) rfl (hb hby od_244_12_55) (by decide) (by decide) kz) ?_
                    exact own_retZ X0 hx hret hlk (hb hby od_244_12_59) rfl (by decide) (by decide) (by first | exact ⟨by simp [own_isC, own_t9, own_t3, hc3_1, hc9_11, hc15_12, hc21_13, hc27_14, hc33_15, hc39_18, hc45_19, hc51_20], rfl, rfl⟩ | (rw [e0]; exact ⟨by simp [own_isC, own_t9, own_t3, hc3_1, hc9_11, hc15_12, hc21_13, hc27_14, hc33_15, hc39_18, hc45_19, hc51_20], rfl, rfl⟩))
              · refine own_g (mkF m 54 #[.val (.int x0)] []) (fun _ kz => XS.icmpYes X0.here hx rfl (pc0 := 39) (pc' := 54) rfl (hb hby od_244_12_39) rfl (flt hc39_18).2.2.2 (by decide) (by decide) kz) ?_
                refine own_g (mkF m 55 #[.val (.int x0)] [(.int (1 : Int32))]) (fun _ kz => XS.iconst X0.here hx rfl (hb hby od_244_12_54) kz) ?_
                refine own_g (mkF m 59 #[.val (.int x0)] [(.int (1 : Int32))]) (fun _ kz => XS.goto X0.here hx rfl (pc0 := 55) (pc' := 59) rfl (hb hby od_244_12_55) (by decide) (by decide) kz) ?_
                exact own_retZ X0 hx hret hlk (hb hby od_244_12_59) rfl (by decide) (by decide) (by first | exact ⟨by simp [own_isC, own_t9, own_t3, hc3_1, hc9_11, hc15_12, hc21_13, hc27_14, hc33_15, hc39_18], rfl, rfl⟩ | (rw [e0]; exact ⟨by simp [own_isC, own_t9, own_t3, hc3_1, hc9_11, hc15_12, hc21_13, hc27_14, hc33_15, hc39_18], rfl, rfl⟩))
    · refine own_g (mkF m 54 #[.val (.int x0)] []) (fun _ kz => XS.icmpYes X0.here hx rfl (pc0 := 9) (pc' := 54) rfl (hb hby od_244_12_9) rfl (flt hc9_11).2.2.2 (by decide) (by decide) kz) ?_
      refine own_g (mkF m 55 #[.val (.int x0)] [(.int (1 : Int32))]) (fun _ kz => XS.iconst X0.here hx rfl (hb hby od_244_12_54) kz) ?_
      refine own_g (mkF m 59 #[.val (.int x0)] [(.int (1 : Int32))]) (fun _ kz => XS.goto X0.here hx rfl (pc0 := 55) (pc' := 59) rfl (hb hby od_244_12_55) (by decide) (by decide) kz) ?_
      exact own_retZ X0 hx hret hlk (hb hby od_244_12_59) rfl (by decide) (by decide) (by first | exact ⟨by simp [own_isC, own_t9, own_t3, hc3_1, hc9_11], rfl, rfl⟩ | (rw [e0]; exact ⟨by simp [own_isC, own_t9, own_t3, hc3_1, hc9_11], rfl, rfl⟩))
theorem own_pn1 : plainName "com/example/holdfast/holdfast/model/XmlNamesIsCharPinLaw" = true := by first | (simp [plainName, overriddenIn]; done) | decide +kernel
theorem od_2_0 : decode method_2_code 0 = .ok (.iload_n 0, 1) := by decide +kernel
theorem od_2_1 : decode method_2_code 1 = .ok (.ifCond .lt 9, 3) := by decide +kernel
theorem od_2_10 : decode method_2_code 10 = .ok (.iconst 0, 1) := by decide +kernel
theorem od_2_11 : decode method_2_code 11 = .ok (.ireturn, 1) := by decide +kernel
theorem od_2_4 : decode method_2_code 4 = .ok (.iload_n 0, 1) := by decide +kernel
theorem od_2_5 : decode method_2_code 5 = .ok (.ldc 7, 2) := by decide +kernel
theorem od_2_7 : decode method_2_code 7 = .ok (.if_icmp .le 5, 3) := by decide +kernel
theorem od_2_12 : decode method_2_code 12 = .ok (.iload_n 0, 1) := by decide +kernel
theorem od_2_13 : decode method_2_code 13 = .ok (.bipush 32, 2) := by decide +kernel
theorem od_2_15 : decode method_2_code 15 = .ok (.if_icmp .ge 27, 3) := by decide +kernel
theorem od_2_18 : decode method_2_code 18 = .ok (.iload_n 0, 1) := by decide +kernel
theorem od_2_19 : decode method_2_code 19 = .ok (.bipush 9, 2) := by decide +kernel
theorem od_2_21 : decode method_2_code 21 = .ok (.if_icmp .eq 15, 3) := by decide +kernel
theorem od_2_36 : decode method_2_code 36 = .ok (.iconst 1, 1) := by decide +kernel
theorem od_2_37 : decode method_2_code 37 = .ok (.goto 4, 3) := by decide +kernel
theorem od_2_41 : decode method_2_code 41 = .ok (.ireturn, 1) := by decide +kernel
theorem od_2_24 : decode method_2_code 24 = .ok (.iload_n 0, 1) := by decide +kernel
theorem od_2_25 : decode method_2_code 25 = .ok (.bipush 10, 2) := by decide +kernel
theorem od_2_27 : decode method_2_code 27 = .ok (.if_icmp .eq 9, 3) := by decide +kernel
theorem od_2_30 : decode method_2_code 30 = .ok (.iload_n 0, 1) := by decide +kernel
theorem od_2_31 : decode method_2_code 31 = .ok (.bipush 13, 2) := by decide +kernel
theorem od_2_33 : decode method_2_code 33 = .ok (.if_icmp .ne 7, 3) := by decide +kernel
theorem od_2_40 : decode method_2_code 40 = .ok (.iconst 0, 1) := by decide +kernel
theorem od_2_42 : decode method_2_code 42 = .ok (.iload_n 0, 1) := by decide +kernel
theorem od_2_43 : decode method_2_code 43 = .ok (.ldc 8, 2) := by decide +kernel
theorem od_2_45 : decode method_2_code 45 = .ok (.if_icmp .lt 11, 3) := by decide +kernel
theorem od_2_56 : decode method_2_code 56 = .ok (.iload_n 0, 1) := by decide +kernel
theorem od_2_57 : decode method_2_code 57 = .ok (.ldc 10, 2) := by decide +kernel
theorem od_2_59 : decode method_2_code 59 = .ok (.if_icmp .eq 9, 3) := by decide +kernel
theorem od_2_68 : decode method_2_code 68 = .ok (.iconst 0, 1) := by decide +kernel
theorem od_2_69 : decode method_2_code 69 = .ok (.ireturn, 1) := by decide +kernel
theorem od_2_62 : decode method_2_code 62 = .ok (.iload_n 0, 1) := by decide +kernel
theorem od_2_63 : decode method_2_code 63 = .ok (.ldc 11, 2) := by decide +kernel
theorem od_2_65 : decode method_2_code 65 = .ok (.if_icmp .ne 5, 3) := by decide +kernel
theorem od_2_70 : decode method_2_code 70 = .ok (.iconst 1, 1) := by decide +kernel
theorem od_2_71 : decode method_2_code 71 = .ok (.ireturn, 1) := by decide +kernel
theorem od_2_48 : decode method_2_code 48 = .ok (.iload_n 0, 1) := by decide +kernel
theorem od_2_49 : decode method_2_code 49 = .ok (.ldc 9, 2) := by decide +kernel
theorem od_2_51 : decode method_2_code 51 = .ok (.if_icmp .gt 5, 3) := by decide +kernel
theorem od_2_54 : decode method_2_code 54 = .ok (.iconst 0, 1) := by decide +kernel
theorem od_2_55 : decode method_2_code 55 = .ok (.ireturn, 1) := by decide +kernel
set_option maxRecDepth 65536 in
set_option maxHeartbeats 40000000 in
theorem own_c_all (l : Launch) (Z : State) (a0 : Array Value) (hw : ∀ d ∈ tables_1, d.before a0 Z = true) (x0 : Int32) (h0 : Heap) :
    own_Con l Z (⟨"com/example/holdfast/holdfast/model/XmlNamesIsCharPinLaw", "allowed", "(I)Z"⟩ : MethodName) method_2_code 1 (some .boolean) [] ({ frames := 0, cells := 0, slots := 0, locals := 0 } : Room) #[(.int x0)] h0 (fun v h L => v = some (.int (own_all x0)) ∧ L = [] ∧ h = h0) := by
  refine own_enter (plainFor_of_name own_pn1) ?_
  intro p e s m below meth c s₁ X0 e0 hx hZ hby hml hown hnm hret hlk
  refine own_cast (g' := (mkF m 0 #[.val (.int x0)] [])) (by first | (simp [entryFrame, mkF, argsToLocals, Value.category]; done) | rfl) ?_
  refine own_g (mkF m 1 #[.val (.int x0)] [(.int x0)]) (fun _ kz => XS.iloadN X0.here hx rfl (hb hby od_2_0) rfl kz) ?_
  by_cases hc1_21 : x0 < (0 : Int32)
  · refine own_g (mkF m 10 #[.val (.int x0)] []) (fun _ kz => XS.ifYes X0.here hx rfl (pc0 := 1) (pc' := 10) rfl (hb hby od_2_1) rfl ((if0 _ _).trans (tlt hc1_21).1) (by decide) (by decide) kz) ?_
    refine own_g (mkF m 11 #[.val (.int x0)] [(.int (0 : Int32))]) (fun _ kz => XS.iconst X0.here hx rfl (hb hby od_2_10) kz) ?_
    exact own_retZ X0 hx hret hlk (hb hby od_2_11) rfl (by decide) (by decide) (by first | exact ⟨by simp [own_all, own_t2, own_te, hc1_21], rfl, rfl⟩ | (rw [e0]; exact ⟨by simp [own_all, own_t2, own_te, hc1_21], rfl, rfl⟩))
  · refine own_g (mkF m 4 #[.val (.int x0)] []) (fun _ kz => XS.ifNo X0.here hx rfl (hb hby od_2_1) rfl ((if0 _ _).trans (flt hc1_21).1) kz) ?_
    refine own_g (mkF m 5 #[.val (.int x0)] [(.int x0)]) (fun _ kz => XS.iloadN X0.here hx rfl (hb hby od_2_4) rfl kz) ?_
    refine own_g (mkF m 7 #[.val (.int x0)] [(.int (1114111 : Int32)), (.int x0)]) (fun _ kz => X0.ldcInt hx hown (mvT hZ (own_w hw 9 rfl)) (g := (mkF m 5 #[.val (.int x0)] [(.int x0)])) rfl (hb hby od_2_5) _ kz) ?_
    by_cases hc7_22 : (1114111 : Int32) < x0
    · refine own_g (mkF m 10 #[.val (.int x0)] []) (fun _ kz => XS.icmpNo X0.here hx rfl (hb hby od_2_7) rfl (tlt hc7_22).2.2.2 kz) ?_
      refine own_g (mkF m 11 #[.val (.int x0)] [(.int (0 : Int32))]) (fun _ kz => XS.iconst X0.here hx rfl (hb hby od_2_10) kz) ?_
      exact own_retZ X0 hx hret hlk (hb hby od_2_11) rfl (by decide) (by decide) (by first | exact ⟨by simp [own_all, own_t2, own_te, hc1_21, hc7_22], rfl, rfl⟩ | (rw [e0]; exact ⟨by simp [own_all, own_t2, own_te, hc1_21, hc7_22], rfl, rfl⟩))
    · refine own_g (mkF m 12 #[.val (.int x0)] []) (fun _ kz => XS.icmpYes X0.here hx rfl (pc0 := 7) (pc' := 12) rfl (hb hby od_2_7) rfl (flt hc7_22).2.2.2 (by decide) (by decide) kz) ?_
      refine own_g (mkF m 13 #[.val (.int x0)] [(.int x0)]) (fun _ kz => XS.iloadN X0.here hx rfl (hb hby od_2_12) rfl kz) ?_
      refine own_g (mkF m 15 #[.val (.int x0)] [(.int (32 : Int32)), (.int x0)]) (fun _ kz => XS.bipush X0.here hx rfl (hb hby od_2_13) kz) ?_
      by_cases hc15_23 : x0 < (32 : Int32)
      · refine own_g (mkF m 18 #[.val (.int x0)] []) (fun _ kz => XS.icmpNo X0.here hx rfl (hb hby od_2_15) rfl (tlt hc15_23).2.1 kz) ?_
        refine own_g (mkF m 19 #[.val (.int x0)] [(.int x0)]) (fun _ kz => XS.iloadN X0.here hx rfl (hb hby od_2_18) rfl kz) ?_
        refine own_g (mkF m 21 #[.val (.int x0)] [(.int (9 : Int32)), (.int x0)]) (fun _ kz => XS.bipush X0.here hx rfl (hb hby od_2_19) kz) ?_
        by_cases hc21_24 : x0 = (9 : Int32)
        · refine own_g (mkF m 36 #[.val (.int x0)] []) (fun _ kz => XS.icmpYes X0.here hx rfl (pc0 := 21) (pc' := 36) rfl (hb hby od_2_21) rfl (teq hc21_24).1 (by decide) (by decide) kz) ?_
          refine own_g (mkF m 37 #[.val (.int x0)] [(.int (1 : Int32))]) (fun _ kz => XS.iconst X0.here hx rfl (hb hby od_2_36) kz) ?_
          refine own_g (mkF m 41 #[.val (.int x0)] [(.int (1 : Int32))]) (fun _ kz => XS.goto X0.here hx rfl (pc0 := 37) (pc' := 41) rfl (hb hby od_2_37) (by decide) (by decide) kz) ?_
          exact own_retZ X0 hx hret hlk (hb hby od_2_41) rfl (by decide) (by decide) (by first | exact ⟨by simp [own_all, own_t2, own_te, hc1_21, hc7_22, hc15_23, hc21_24], rfl, rfl⟩ | (rw [e0]; exact ⟨by simp [own_all, own_t2, own_te, hc1_21, hc7_22, hc15_23, hc21_24], rfl, rfl⟩))
        · refine own_g (mkF m 24 #[.val (.int x0)] []) (fun _ kz => XS.icmpNo X0.here hx rfl (hb hby od_2_21) rfl (feq hc21_24).1 kz) ?_
          refine own_g (mkF m 25 #[.val (.int x0)] [(.int x0)]) (fun _ kz => XS.iloadN X0.here hx rfl (hb hby od_2_24) rfl kz) ?_
          refine own_g (mkF m 27 #[.val (.int x0)] [(.int (10 : Int32)), (.int x0)]) (fun _ kz => XS.bipush X0.here hx rfl (hb hby od_2_25) kz) ?_
          by_cases hc27_25 : x0 = (10 : Int32)
          · refine own_g (mkF m 36 #[.val (.int x0)] []) (fun _ kz => XS.icmpYes X0.here hx rfl (pc0 := 27) (pc' := 36) rfl (hb hby od_2_27) rfl (teq hc27_25).1 (by decide) (by decide) kz) ?_
            refine own_g (mkF m 37 #[.val (.int x0)] [(.int (1 : Int32))]) (fun _ kz => XS.iconst X0.here hx rfl (hb hby od_2_36) kz) ?_
            refine own_g (mkF m 41 #[.val (.int x0)] [(.int (1 : Int32))]) (fun _ kz => XS.goto X0.here hx rfl (pc0 := 37) (pc' := 41) rfl (hb hby od_2_37) (by decide) (by decide) kz) ?_
            exact own_retZ X0 hx hret hlk (hb hby od_2_41) rfl (by decide) (by decide) (by first | exact ⟨by simp [own_all, own_t2, own_te, hc1_21, hc7_22, hc15_23, hc21_24, hc27_25], rfl, rfl⟩ | (rw [e0]; exact ⟨by simp [own_all, own_t2, own_te, hc1_21, hc7_22, hc15_23, hc21_24, hc27_25], rfl, rfl⟩))
          · refine own_g (mkF m 30 #[.val (.int x0)] []) (fun _ kz => XS.icmpNo X0.here hx rfl (hb hby od_2_27) rfl (feq hc27_25).1 kz) ?_
            refine own_g (mkF m 31 #[.val (.int x0)] [(.int x0)]) (fun _ kz => XS.iloadN X0.here hx rfl (hb hby od_2_30) rfl kz) ?_
            refine own_g (mkF m 33 #[.val (.int x0)] [(.int (13 : Int32)), (.int x0)]) (fun _ kz => XS.bipush X0.here hx rfl (hb hby od_2_31) kz) ?_
            by_cases hc33_26 : x0 = (13 : Int32)
            · refine own_g (mkF m 36 #[.val (.int x0)] []) (fun _ kz => XS.icmpNo X0.here hx rfl (hb hby od_2_33) rfl (teq hc33_26).2 kz) ?_
              refine own_g (mkF m 37 #[.val (.int x0)] [(.int (1 : Int32))]) (fun _ kz => XS.iconst X0.here hx rfl (hb hby od_2_36) kz) ?_
              refine own_g (mkF m 41 #[.val (.int x0)] [(.int (1 : Int32))]) (fun _ kz => XS.goto X0.here hx rfl (pc0 := 37) (pc' := 41) rfl (hb hby od_2_37) (by decide) (by decide) kz) ?_
              exact own_retZ X0 hx hret hlk (hb hby od_2_41) rfl (by decide) (by decide) (by first | exact ⟨by simp [own_all, own_t2, own_te, hc1_21, hc7_22, hc15_23, hc21_24, hc27_25, hc33_26], rfl, rfl⟩ | (rw [e0]; exact ⟨by simp [own_all, own_t2, own_te, hc1_21, hc7_22, hc15_23, hc21_24, hc27_25, hc33_26], rfl, rfl⟩))
            · refine own_g (mkF m 40 #[.val (.int x0)] []) (fun _ kz => XS.icmpYes X0.here hx rfl (pc0 := 33) (pc' := 40) rfl (hb hby od_2_33) rfl (feq hc33_26).2 (by decide) (by decide) kz) ?_
              refine own_g (mkF m 41 #[.val (.int x0)] [(.int (0 : Int32))]) (fun _ kz => XS.iconst X0.here hx rfl (hb hby od_2_40) kz) ?_
              exact own_retZ X0 hx hret hlk (hb hby od_2_41) rfl (by decide) (by decide) (by first | exact ⟨by simp [own_all, own_t2, own_te, hc1_21, hc7_22, hc15_23, hc21_24, hc27_25, hc33_26], rfl, rfl⟩ | (rw [e0]; exact ⟨by simp [own_all, own_t2, own_te, hc1_21, hc7_22, hc15_23, hc21_24, hc27_25, hc33_26], rfl, rfl⟩))
      · refine own_g (mkF m 42 #[.val (.int x0)] []) (fun _ kz => XS.icmpYes X0.here hx rfl (pc0 := 15) (pc' := 42) rfl (hb hby od_2_15) rfl (flt hc15_23).2.1 (by decide) (by decide) kz) ?_
        refine own_g (mkF m 43 #[.val (.int x0)] [(.int x0)]) (fun _ kz => XS.iloadN X0.here hx rfl (hb hby od_2_42) rfl kz) ?_
        refine own_g (mkF m 45 #[.val (.int x0)] [(.int (55296 : Int32)), (.int x0)]) (fun _ kz => X0.ldcInt hx hown (mvT hZ (own_w hw 2 rfl)) (g := (mkF m 43 #[.val (.int x0)] [(.int x0)])) rfl (hb hby od_2_43) _ kz) ?_
        by_cases hc45_27 : x0 < (55296 : Int32)
        · refine own_g (mkF m 56 #[.val (.int x0)] []) (fun _ kz => XS.icmpYes X0.here hx rfl (pc0 := 45) (pc' := 56) rfl (hb hby od_2_45) rfl (tlt hc45_27).1 (by decide) (by decide) kz) ?_
          refine own_g (mkF m 57 #[.val (.int x0)] [(.int x0)]) (fun _ kz => XS.iloadN X0.here hx rfl (hb hby od_2_56) rfl kz) ?_
          refine own_g (mkF m 59 #[.val (.int x0)] [(.int (65534 : Int32)), (.int x0)]) (fun _ kz => X0.ldcInt hx hown (mvT hZ (own_w hw 6 rfl)) (g := (mkF m 57 #[.val (.int x0)] [(.int x0)])) rfl (hb hby od_2_57) _ kz) ?_
          by_cases hc59_28 : x0 = (65534 : Int32)
          · refine own_g (mkF m 68 #[.val (.int x0)] []) (fun _ kz => XS.icmpYes X0.here hx rfl (pc0 := 59) (pc' := 68) rfl (hb hby od_2_59) rfl (teq hc59_28).1 (by decide) (by decide) kz) ?_
            refine own_g (mkF m 69 #[.val (.int x0)] [(.int (0 : Int32))]) (fun _ kz => XS.iconst X0.here hx rfl (hb hby od_2_68) kz) ?_
            exact own_retZ X0 hx hret hlk (hb hby od_2_69) rfl (by decide) (by decide) (by first | exact ⟨by simp [own_all, own_t2, own_te, hc1_21, hc7_22, hc15_23, hc45_27, hc59_28], rfl, rfl⟩ | (rw [e0]; exact ⟨by simp [own_all, own_t2, own_te, hc1_21, hc7_22, hc15_23, hc45_27, hc59_28], rfl, rfl⟩))
          · refine own_g (mkF m 62 #[.val (.int x0)] []) (fun _ kz => XS.icmpNo X0.here hx rfl (hb hby od_2_59) rfl (feq hc59_28).1 kz) ?_
            refine own_g (mkF m 63 #[.val (.int x0)] [(.int x0)]) (fun _ kz => XS.iloadN X0.here hx rfl (hb hby od_2_62) rfl kz) ?_
            refine own_g (mkF m 65 #[.val (.int x0)] [(.int (65535 : Int32)), (.int x0)]) (fun _ kz => X0.ldcInt hx hown (mvT hZ (own_w hw 7 rfl)) (g := (mkF m 63 #[.val (.int x0)] [(.int x0)])) rfl (hb hby od_2_63) _ kz) ?_
            by_cases hc65_29 : x0 = (65535 : Int32)
            · refine own_g (mkF m 68 #[.val (.int x0)] []) (fun _ kz => XS.icmpNo X0.here hx rfl (hb hby od_2_65) rfl (teq hc65_29).2 kz) ?_
              refine own_g (mkF m 69 #[.val (.int x0)] [(.int (0 : Int32))]) (fun _ kz => XS.iconst X0.here hx rfl (hb hby od_2_68) kz) ?_
              exact own_retZ X0 hx hret hlk (hb hby od_2_69) rfl (by decide) (by decide) (by first | exact ⟨by simp [own_all, own_t2, own_te, hc1_21, hc7_22, hc15_23, hc45_27, hc59_28, hc65_29], rfl, rfl⟩ | (rw [e0]; exact ⟨by simp [own_all, own_t2, own_te, hc1_21, hc7_22, hc15_23, hc45_27, hc59_28, hc65_29], rfl, rfl⟩))
            · refine own_g (mkF m 70 #[.val (.int x0)] []) (fun _ kz => XS.icmpYes X0.here hx rfl (pc0 := 65) (pc' := 70) rfl (hb hby od_2_65) rfl (feq hc65_29).2 (by decide) (by decide) kz) ?_
              refine own_g (mkF m 71 #[.val (.int x0)] [(.int (1 : Int32))]) (fun _ kz => XS.iconst X0.here hx rfl (hb hby od_2_70) kz) ?_
              exact own_retZ X0 hx hret hlk (hb hby od_2_71) rfl (by decide) (by decide) (by first | exact ⟨by simp [own_all, own_t2, own_te, hc1_21, hc7_22, hc15_23, hc45_27, hc59_28, hc65_29], rfl, rfl⟩ | (rw [e0]; exact ⟨by simp [own_all, own_t2, own_te, hc1_21, hc7_22, hc15_23, hc45_27, hc59_28, hc65_29], rfl, rfl⟩))
        · refine own_g (mkF m 48 #[.val (.int x0)] []) (fun _ kz => XS.icmpNo X0.here hx rfl (hb hby od_2_45) rfl (flt hc45_27).1 kz) ?_
          refine own_g (mkF m 49 #[.val (.int x0)] [(.int x0)]) (fun _ kz => XS.iloadN X0.here hx rfl (hb hby od_2_48) rfl kz) ?_
          refine own_g (mkF m 51 #[.val (.int x0)] [(.int (57343 : Int32)), (.int x0)]) (fun _ kz => X0.ldcInt hx hown (mvT hZ (own_w hw 3 rfl)) (g := (mkF m 49 #[.val (.int x0)] [(.int x0)])) rfl (hb hby od_2_49) _ kz) ?_
          by_cases hc51_30 : (57343 : Int32) < x0
          · refine own_g (mkF m 56 #[.val (.int x0)] []) (fun _ kz => XS.icmpYes X0.here hx rfl (pc0 := 51) (pc' := 56) rfl (hb hby od_2_51) rfl (tlt hc51_30).2.2.1 (by decide) (by decide) kz) ?_
            refine own_g (mkF m 57 #[.val (.int x0)] [(.int x0)]) (fun _ kz => XS.iloadN X0.here hx rfl (hb hby od_2_56) rfl kz) ?_
            refine own_g (mkF m 59 #[.val (.int x0)] [(.int (65534 : Int32)), (.int x0)]) (fun _ kz => X0.ldcInt hx hown (mvT hZ (own_w hw 6 rfl)) (g := (mkF m 57 #[.val (.int x0)] [(.int x0)])) rfl (hb hby od_2_57) _ kz) ?_
            by_cases hc59_31 : x0 = (65534 : Int32)
            · refine own_g (mkF m 68 #[.val (.int x0)] []) (fun _ kz => XS.icmpYes X0.here hx rfl (pc0 := 59) (pc' := 68) rfl (hb hby od_2_59) rfl (teq hc59_31).1 (by decide) (by decide) kz) ?_
              refine own_g (mkF m 69 #[.val (.int x0)] [(.int (0 : Int32))]) (fun _ kz => XS.iconst X0.here hx rfl (hb hby od_2_68) kz) ?_
              exact own_retZ X0 hx hret hlk (hb hby od_2_69) rfl (by decide) (by decide) (by first | exact ⟨by simp [own_all, own_t2, own_te, hc1_21, hc7_22, hc15_23, hc45_27, hc51_30, hc59_31], rfl, rfl⟩ | (rw [e0]; exact ⟨by simp [own_all, own_t2, own_te, hc1_21, hc7_22, hc15_23, hc45_27, hc51_30, hc59_31], rfl, rfl⟩))
            · refine own_g (mkF m 62 #[.val (.int x0)] []) (fun _ kz => XS.icmpNo X0.here hx rfl (hb hby od_2_59) rfl (feq hc59_31).1 kz) ?_
              refine own_g (mkF m 63 #[.val (.int x0)] [(.int x0)]) (fun _ kz => XS.iloadN X0.here hx rfl (hb hby od_2_62) rfl kz) ?_
              refine own_g (mkF m 65 #[.val (.int x0)] [(.int (65535 : Int32)), (.int x0)]) (fun _ kz => X0.ldcInt hx hown (mvT hZ (own_w hw 7 rfl)) (g := (mkF m 63 #[.val (.int x0)] [(.int x0)])) rfl (hb hby od_2_63) _ kz) ?_
              by_cases hc65_32 : x0 = (65535 : Int32)
              · refine own_g (mkF m 68 #[.val (.int x0)] []) (fun _ kz => XS.icmpNo X0.here hx rfl (hb hby od_2_65) rfl (teq hc65_32).2 kz) ?_
                refine own_g (mkF m 69 #[.val (.int x0)] [(.int (0 : Int32))]) (fun _ kz => XS.iconst X0.here hx rfl (hb hby od_2_68) kz) ?_
                exact own_retZ X0 hx hret hlk (hb hby od_2_69) rfl (by decide) (by decide) (by first | exact ⟨by simp [own_all, own_t2, own_te, hc1_21, hc7_22, hc15_23, hc45_27, hc51_30, hc59_31, hc65_32], rfl, rfl⟩ | (rw [e0]; exact ⟨by simp [own_all, own_t2, own_te, hc1_21, hc7_22, hc15_23, hc45_27, hc51_30, hc59_31, hc65_32], rfl, rfl⟩))
              · refine own_g (mkF m 70 #[.val (.int x0)] []) (fun _ kz => XS.icmpYes X0.here hx rfl (pc0 := 65) (pc' := 70) rfl (hb hby od_2_65) rfl (feq hc65_32).2 (by decide) (by decide) kz) ?_
                refine own_g (mkF m 71 #[.val (.int x0)] [(.int (1 : Int32))]) (fun _ kz => XS.iconst X0.here hx rfl (hb hby od_2_70) kz) ?_
                exact own_retZ X0 hx hret hlk (hb hby od_2_71) rfl (by decide) (by decide) (by first | exact ⟨by simp [own_all, own_t2, own_te, hc1_21, hc7_22, hc15_23, hc45_27, hc51_30, hc59_31, hc65_32], rfl, rfl⟩ | (rw [e0]; exact ⟨by simp [own_all, own_t2, own_te, hc1_21, hc7_22, hc15_23, hc45_27, hc51_30, hc59_31, hc65_32], rfl, rfl⟩))
          · refine own_g (mkF m 54 #[.val (.int x0)] []) (fun _ kz => XS.icmpNo X0.here hx rfl (hb hby od_2_51) rfl (flt hc51_30).2.2.1 kz) ?_
            refine own_g (mkF m 55 #[.val (.int x0)] [(.int (0 : Int32))]) (fun _ kz => XS.iconst X0.here hx rfl (hb hby od_2_54) kz) ?_
            exact own_retZ X0 hx hret hlk (hb hby od_2_55) rfl (by decide) (by decide) (by first | exact ⟨by simp [own_all, own_t2, own_te, hc1_21, hc7_22, hc15_23, hc45_27, hc51_30], rfl, rfl⟩ | (rw [e0]; exact ⟨by simp [own_all, own_t2, own_te, hc1_21, hc7_22, hc15_23, hc45_27, hc51_30], rfl, rfl⟩))
theorem own_pd0 : parseMethodDescriptor "(I)Z" = some ⟨[.int], some .boolean⟩ := by decide +kernel
set_option maxRecDepth 65536 in
set_option maxHeartbeats 40000000 in
theorem own_c_law (l : Launch) (Z : State) (a0 : Array Value) (hw : ∀ d ∈ tables_1, d.before a0 Z = true) (x0 : Int32) (x1 : Int32) (x2 : Int32) (h0 : Heap) (n0 : Nat) (Z0 : n0 ≤ h0.size) :
    own_Con l Z x code maxLocals ret tables_1 room_1 #[(.int x0), (.int x1), (.int x2)] h0 (fun v h L => v = some (.int 1) ∧ Fr n0 L) := by
  refine own_enter (plainFor_of_name own_pn1) ?_
  intro p e s m below meth c s₁ X0 e0 hx hZ hby hml hown hnm hret hlk
  refine own_cast (g' := (mkF m 0 #[.val (.int x0), .val (.int x1), .val (.int x2), .unset, .unset] [])) (by first | (simp [entryFrame, mkF, argsToLocals, Value.category, maxLocals]; done) | rfl) ?_
  have N0 := Fr.nil n0
  refine own_g (mkF m 2 #[.val (.int x0), .val (.int x1), .val (.int x2), .unset, .unset] [(.int (22 : Int32))]) (fun _ kz => XS.bipush X0.here hx rfl (hb hby at_0) kz) ?_
  refine own_newI X0 hx hZ e0 (own_w hw 0 rfl) rfl (hb hby at_2) (by decide) (n := 22) rfl 22 (by decide) (by decide) (by decide) (by decide) ?_
  intro T33 h33 o33 g33 X33 e33 E33 A33
  have b34 : n0 ≤ o33 := Nat.le_trans Z0 (Nat.le_of_eq g33.symm)
  have s35 : n0 ≤ h33.size := Nat.le_trans Z0 E33.1
  show own_E p e below _ (T33.setTop (mkF m 4 #[.val (.int x0), .val (.int x1), .val (.int x2), .unset, .unset] [(.ref o33)]))
  refine own_g (mkF m 5 #[.val (.int x0), .val (.int x1), .val (.int x2), .unset, .unset] [(.ref o33), (.ref o33)]) (fun _ kz => XS.dup X33.here hx rfl (hb hby at_4) rfl rfl kz) ?_
  refine own_g (mkF m 6 #[.val (.int x0), .val (.int x1), .val (.int x2), .unset, .unset] [(.int (0 : Int32)), (.ref o33), (.ref o33)]) (fun _ kz => XS.iconst X33.here hx rfl (hb hby at_5) kz) ?_
  refine own_g (mkF m 7 #[.val (.int x0), .val (.int x1), .val (.int x2), .unset, .unset] [(.int (0 : Int32)), (.int (0 : Int32)), (.ref o33), (.ref o33)]) (fun _ kz => XS.iconst X33.here hx rfl (hb hby at_6) kz) ?_
  refine own_stI X33 hx hZ e33 A33 (hb hby at_7) (by decide) (i := 0) rfl (by decide) ?_
  intro T36 h36 X36 e36 W36 A36
  have N36 := Fr.snoc X36 N0 b34
  have s37 : n0 ≤ h36.size := Nat.le_trans s35 (Keep.of_wr W36).1
  show own_E p e below _ (T36.setTop (mkF m 8 #[.val (.int x0), .val (.int x1), .val (.int x2), .unset, .unset] [(.ref o33)]))
  refine own_g (mkF m 9 #[.val (.int x0), .val (.int x1), .val (.int x2), .unset, .unset] [(.ref o33), (.ref o33)]) (fun _ kz => XS.dup X36.here hx rfl (hb hby at_8) rfl rfl kz) ?_
  refine own_g (mkF m 10 #[.val (.int x0), .val (.int x1), .val (.int x2), .unset, .unset] [(.int (1 : Int32)), (.ref o33), (.ref o33)]) (fun _ kz => XS.iconst X36.here hx rfl (hb hby at_9) kz) ?_
  refine own_g (mkF m 12 #[.val (.int x0), .val (.int x1), .val (.int x2), .unset, .unset] [(.int (8 : Int32)), (.int (1 : Int32)), (.ref o33), (.ref o33)]) (fun _ kz => XS.bipush X36.here hx rfl (hb hby at_10) kz) ?_
  refine own_stI X36 hx hZ e36 A36 (hb hby at_12) (by decide) (i := 1) rfl (by decide) ?_
  intro T38 h38 X38 e38 W38 A38
  have N38 := Fr.snoc X38 N36 b34
  have s39 : n0 ≤ h38.size := Nat.le_trans s37 (Keep.of_wr W38).1
  show own_E p e below _ (T38.setTop (mkF m 13 #[.val (.int x0), .val (.int x1), .val (.int x2), .unset, .unset] [(.ref o33)]))
  refine own_g (mkF m 14 #[.val (.int x0), .val (.int x1), .val (.int x2), .unset, .unset] [(.ref o33), (.ref o33)]) (fun _ kz => XS.dup X38.here hx rfl (hb hby at_13) rfl rfl kz) ?_
  refine own_g (mkF m 15 #[.val (.int x0), .val (.int x1), .val (.int x2), .unset, .unset] [(.int (2 : Int32)), (.ref o33), (.ref o33)]) (fun _ kz => XS.iconst X38.here hx rfl (hb hby at_14) kz) ?_
  refine own_g (mkF m 17 #[.val (.int x0), .val (.int x1), .val (.int x2), .unset, .unset] [(.int (9 : Int32)), (.int (2 : Int32)), (.ref o33), (.ref o33)]) (fun _ kz => XS.bipush X38.here hx rfl (hb hby at_15) kz) ?_
  refine own_stI X38 hx hZ e38 A38 (hb hby at_17) (by decide) (i := 2) rfl (by decide) ?_
  intro T40 h40 X40 e40 W40 A40
  have N40 := Fr.snoc X40 N38 b34
  have s41 : n0 ≤ h40.size := Nat.le_trans s39 (Keep.of_wr W40).1
  show own_E p e below _ (T40.setTop (mkF m 18 #[.val (.int x0), .val (.int x1), .val (.int x2), .unset, .unset] [(.ref o33)]))
  refine own_g (mkF m 19 #[.val (.int x0), .val (.int x1), .val (.int x2), .unset, .unset] [(.ref o33), (.ref o33)]) (fun _ kz => XS.dup X40.here hx rfl (hb hby at_18) rfl rfl kz) ?_
  refine own_g (mkF m 20 #[.val (.int x0), .val (.int x1), .val (.int x2), .unset, .unset] [(.int (3 : Int32)), (.ref o33), (.ref o33)]) (fun _ kz => XS.iconst X40.here hx rfl (hb hby at_19) kz) ?_
  refine own_g (mkF m 22 #[.val (.int x0), .val (.int x1), .val (.int x2), .unset, .unset] [(.int (10 : Int32)), (.int (3 : Int32)), (.ref o33), (.ref o33)]) (fun _ kz => XS.bipush X40.here hx rfl (hb hby at_20) kz) ?_
  refine own_stI X40 hx hZ e40 A40 (hb hby at_22) (by decide) (i := 3) rfl (by decide) ?_
  intro T42 h42 X42 e42 W42 A42
  have N42 := Fr.snoc X42 N40 b34
  have s43 : n0 ≤ h42.size := Nat.le_trans s41 (Keep.of_wr W42).1
  show own_E p e below _ (T42.setTop (mkF m 23 #[.val (.int x0), .val (.int x1), .val (.int x2), .unset, .unset] [(.ref o33)]))
  refine own_g (mkF m 24 #[.val (.int x0), .val (.int x1), .val (.int x2), .unset, .unset] [(.ref o33), (.ref o33)]) (fun _ kz => XS.dup X42.here hx rfl (hb hby at_23) rfl rfl kz) ?_
  refine own_g (mkF m 25 #[.val (.int x0), .val (.int x1), .val (.int x2), .unset, .unset] [(.int (4 : Int32)), (.ref o33), (.ref o33)]) (fun _ kz => XS.iconst X42.here hx rfl (hb hby at_24) kz) ?_
  refine own_g (mkF m 27 #[.val (.int x0), .val (.int x1), .val (.int x2), .unset, .unset] [(.int (11 : Int32)), (.int (4 : Int32)), (.ref o33), (.ref o33)]) (fun _ kz => XS.bipush X42.here hx rfl (hb hby at_25) kz) ?_
  refine own_stI X42 hx hZ e42 A42 (hb hby at_27) (by decide) (i := 4) rfl (by decide) ?_
  intro T44 h44 X44 e44 W44 A44
  have N44 := Fr.snoc X44 N42 b34
  have s45 : n0 ≤ h44.size := Nat.le_trans s43 (Keep.of_wr W44).1
  show own_E p e below _ (T44.setTop (mkF m 28 #[.val (.int x0), .val (.int x1), .val (.int x2), .unset, .unset] [(.ref o33)]))
  refine own_g (mkF m 29 #[.val (.int x0), .val (.int x1), .val (.int x2), .unset, .unset] [(.ref o33), (.ref o33)]) (fun _ kz => XS.dup X44.here hx rfl (hb hby at_28) rfl rfl kz) ?_
  refine own_g (mkF m 30 #[.val (.int x0), .val (.int x1), .val (.int x2), .unset, .unset] [(.int (5 : Int32)), (.ref o33), (.ref o33)]) (fun _ kz => XS.iconst X44.here hx rfl (hb hby at_29) kz) ?_
  refine own_g (mkF m 32 #[.val (.int x0), .val (.int x1), .val (.int x2), .unset, .unset] [(.int (12 : Int32)), (.int (5 : Int32)), (.ref o33), (.ref o33)]) (fun _ kz => XS.bipush X44.here hx rfl (hb hby at_30) kz) ?_
  refine own_stI X44 hx hZ e44 A44 (hb hby at_32) (by decide) (i := 5) rfl (by decide) ?_
  intro T46 h46 X46 e46 W46 A46
  have N46 := Fr.snoc X46 N44 b34
  have s47 : n0 ≤ h46.size := Nat.le_trans s45 (Keep.of_wr W46).1
  show own_E p e below _ (T46.setTop (mkF m 33 #[.val (.int x0), .val (.int x1), .val (.int x2), .unset, .unset] [(.ref o33)]))
  refine own_g (mkF m 34 #[.val (.int x0), .val (.int x1), .val (.int x2), .unset, .unset] [(.ref o33), (.ref o33)]) (fun _ kz => XS.dup X46.here hx rfl (hb hby at_33) rfl rfl kz) ?_
  refine own_g (mkF m 36 #[.val (.int x0), .val (.int x1), .val (.int x2), .unset, .unset] [(.int (6 : Int32)), (.ref o33), (.ref o33)]) (fun _ kz => XS.bipush X46.here hx rfl (hb hby at_34) kz) ?_
  refine own_g (mkF m 38 #[.val (.int x0), .val (.int x1), .val (.int x2), .unset, .unset] [(.int (13 : Int32)), (.int (6 : Int32)), (.ref o33), (.ref o33)]) (fun _ kz => XS.bipush X46.here hx rfl (hb hby at_36) kz) ?_
  refine own_stI X46 hx hZ e46 A46 (hb hby at_38) (by decide) (i := 6) rfl (by decide) ?_
  intro T48 h48 X48 e48 W48 A48
  have N48 := Fr.snoc X48 N46 b34
  have s49 : n0 ≤ h48.size := Nat.le_trans s47 (Keep.of_wr W48).1
  show own_E p e below _ (T48.setTop (mkF m 39 #[.val (.int x0), .val (.int x1), .val (.int x2), .unset, .unset] [(.ref o33)]))
  refine own_g (mkF m 40 #[.val (.int x0), .val (.int x1), .val (.int x2), .unset, .unset] [(.ref o33), (.ref o33)]) (fun _ kz => XS.dup X48.here hx rfl (hb hby at_39) rfl rfl kz) ?_
  refine own_g (mkF m 42 #[.val (.int x0), .val (.int x1), .val (.int x2), .unset, .unset] [(.int (7 : Int32)), (.ref o33), (.ref o33)]) (fun _ kz => XS.bipush X48.here hx rfl (hb hby at_40) kz) ?_
  refine own_g (mkF m 44 #[.val (.int x0), .val (.int x1), .val (.int x2), .unset, .unset] [(.int (14 : Int32)), (.int (7 : Int32)), (.ref o33), (.ref o33)]) (fun _ kz => XS.bipush X48.here hx rfl (hb hby at_42) kz) ?_
  refine own_stI X48 hx hZ e48 A48 (hb hby at_44) (by decide) (i := 7) rfl (by decide) ?_
  intro T50 h50 X50 e50 W50 A50
  have N50 := Fr.snoc X50 N48 b34
  have s51 : n0 ≤ h50.size := Nat.le_trans s49 (Keep.of_wr W50).1
  show own_E p e below _ (T50.setTop (mkF m 45 #[.val (.int x0), .val (.int x1), .val (.int x2), .unset, .unset] [(.ref o33)]))
  refine own_g (mkF m 46 #[.val (.int x0), .val (.int x1), .val (.int x2), .unset, .unset] [(.ref o33), (.ref o33)]) (fun _ kz => XS.dup X50.here hx rfl (hb hby at_45) rfl rfl kz) ?_
  refine own_g (mkF m 48 #[.val (.int x0), .val (.int x1), .val (.int x2), .unset, .unset] [(.int (8 : Int32)), (.ref o33), (.ref o33)]) (fun _ kz => XS.bipush X50.here hx rfl (hb hby at_46) kz) ?_
  refine own_g (mkF m 50 #[.val (.int x0), .val (.int x1), .val (.int x2), .unset, .unset] [(.int (31 : Int32)), (.int (8 : Int32)), (.ref o33), (.ref o33)]) (fun _ kz => XS.bipush X50.here hx rfl (hb hby at_48) kz) ?_
  refine own_stI X50 hx hZ e50 A50 (hb hby at_50) (by decide) (i := 8) rfl (by decide) ?_
  intro T52 h52 X52 e52 W52 A52
  have N52 := Fr.snoc X52 N50 b34
  have s53 : n0 ≤ h52.size := Nat.le_trans s51 (Keep.of_wr W52).1
  show own_E p e below _ (T52.setTop (mkF m 51 #[.val (.int x0), .val (.int x1), .val (.int x2), .unset, .unset] [(.ref o33)]))
  refine own_g (mkF m 52 #[.val (.int x0), .val (.int x1), .val (.int x2), .unset, .unset] [(.ref o33), (.ref o33)]) (fun _ kz => XS.dup X52.here hx rfl (hb hby at_51) rfl rfl kz) ?_
  refine own_g (mkF m 54 #[.val (.int x0), .val (.int x1), .val (.int x2), .unset, .unset] [(.int (9 : Int32)), (.ref o33), (.ref o33)]) (fun _ kz => XS.bipush X52.here hx rfl (hb hby at_52) kz) ?_
  refine own_g (mkF m 56 #[.val (.int x0), .val (.int x1), .val (.int x2), .unset, .unset] [(.int (32 : Int32)), (.int (9 : Int32)), (.ref o33), (.ref o33)]) (fun _ kz => XS.bipush X52.here hx rfl (hb hby at_54) kz) ?_
  refine own_stI X52 hx hZ e52 A52 (hb hby at_56) (by decide) (i := 9) rfl (by decide) ?_
  intro T54 h54 X54 e54 W54 A54
  have N54 := Fr.snoc X54 N52 b34
  have s55 : n0 ≤ h54.size := Nat.le_trans s53 (Keep.of_wr W54).1
  show own_E p e below _ (T54.setTop (mkF m 57 #[.val (.int x0), .val (.int x1), .val (.int x2), .unset, .unset] [(.ref o33)]))
  refine own_g (mkF m 58 #[.val (.int x0), .val (.int x1), .val (.int x2), .unset, .unset] [(.ref o33), (.ref o33)]) (fun _ kz => XS.dup X54.here hx rfl (hb hby at_57) rfl rfl kz) ?_
  refine own_g (mkF m 60 #[.val (.int x0), .val (.int x1), .val (.int x2), .unset, .unset] [(.int (10 : Int32)), (.ref o33), (.ref o33)]) (fun _ kz => XS.bipush X54.here hx rfl (hb hby at_58) kz) ?_
  refine own_g (mkF m 62 #[.val (.int x0), .val (.int x1), .val (.int x2), .unset, .unset] [(.int (55295 : Int32)), (.int (10 : Int32)), (.ref o33), (.ref o33)]) (fun _ kz => X54.ldcInt hx hown (mvT hZ (own_w hw 1 rfl)) (g := (mkF m 60 #[.val (.int x0), .val (.int x1), .val (.int x2), .unset, .unset] [(.int (10 : Int32)), (.ref o33), (.ref o33)])) rfl (hb hby at_60) _ kz) ?_
  refine own_stI X54 hx hZ e54 A54 (hb hby at_62) (by decide) (i := 10) rfl (by decide) ?_
  intro T56 h56 X56 e56 W56 A56
  have N56 := Fr.snoc X56 N54 b34
  have s57 : n0 ≤ h56.size := Nat.le_trans s55 (Keep.of_wr W56).1
  show own_E p e below _ (T56.setTop (mkF m 63 #[.val (.int x0), .val (.int x1), .val (.int x2), .unset, .unset] [(.ref o33)]))
  refine own_g (mkF m 64 #[.val (.int x0), .val (.int x1), .val (.int x2), .unset, .unset] [(.ref o33), (.ref o33)]) (fun _ kz => XS.dup X56.here hx rfl (hb hby at_63) rfl rfl kz) ?_
  refine own_g (mkF m 66 #[.val (.int x0), .val (.int x1), .val (.int x2), .unset, .unset] [(.int (11 : Int32)), (.ref o33), (.ref o33)]) (fun _ kz => XS.bipush X56.here hx rfl (hb hby at_64) kz) ?_
  refine own_g (mkF m 68 #[.val (.int x0), .val (.int x1), .val (.int x2), .unset, .unset] [(.int (55296 : Int32)), (.int (11 : Int32)), (.ref o33), (.ref o33)]) (fun _ kz => X56.ldcInt hx hown (mvT hZ (own_w hw 2 rfl)) (g := (mkF m 66 #[.val (.int x0), .val (.int x1), .val (.int x2), .unset, .unset] [(.int (11 : Int32)), (.ref o33), (.ref o33)])) rfl (hb hby at_66) _ kz) ?_
  refine own_stI X56 hx hZ e56 A56 (hb hby at_68) (by decide) (i := 11) rfl (by decide) ?_
  intro T58 h58 X58 e58 W58 A58
  have N58 := Fr.snoc X58 N56 b34
  have s59 : n0 ≤ h58.size := Nat.le_trans s57 (Keep.of_wr W58).1
  show own_E p e below _ (T58.setTop (mkF m 69 #[.val (.int x0), .val (.int x1), .val (.int x2), .unset, .unset] [(.ref o33)]))
  refine own_g (mkF m 70 #[.val (.int x0), .val (.int x1), .val (.int x2), .unset, .unset] [(.ref o33), (.ref o33)]) (fun _ kz => XS.dup X58.here hx rfl (hb hby at_69) rfl rfl kz) ?_
  refine own_g (mkF m 72 #[.val (.int x0), .val (.int x1), .val (.int x2), .unset, .unset] [(.int (12 : Int32)), (.ref o33), (.ref o33)]) (fun _ kz => XS.bipush X58.here hx rfl (hb hby at_70) kz) ?_
  refine own_g (mkF m 74 #[.val (.int x0), .val (.int x1), .val (.int x2), .unset, .unset] [(.int (57343 : Int32)), (.int (12 : Int32)), (.ref o33), (.ref o33)]) (fun _ kz => X58.ldcInt hx hown (mvT hZ (own_w hw 3 rfl)) (g := (mkF m 72 #[.val (.int x0), .val (.int x1), .val (.int x2), .unset, .unset] [(.int (12 : Int32)), (.ref o33), (.ref o33)])) rfl (hb hby at_72) _ kz) ?_
  refine own_stI X58 hx hZ e58 A58 (hb hby at_74) (by decide) (i := 12) rfl (by decide) ?_
  intro T60 h60 X60 e60 W60 A60
  have N60 := Fr.snoc X60 N58 b34
  have s61 : n0 ≤ h60.size := Nat.le_trans s59 (Keep.of_wr W60).1
  show own_E p e below _ (T60.setTop (mkF m 75 #[.val (.int x0), .val (.int x1), .val (.int x2), .unset, .unset] [(.ref o33)]))
  refine own_g (mkF m 76 #[.val (.int x0), .val (.int x1), .val (.int x2), .unset, .unset] [(.ref o33), (.ref o33)]) (fun _ kz => XS.dup X60.here hx rfl (hb hby at_75) rfl rfl kz) ?_
  refine own_g (mkF m 78 #[.val (.int x0), .val (.int x1), .val (.int x2), .unset, .unset] [(.int (13 : Int32)), (.ref o33), (.ref o33)]) (fun _ kz => XS.bipush X60.here hx rfl (hb hby at_76) kz) ?_
  refine own_g (mkF m 80 #[.val (.int x0), .val (.int x1), .val (.int x2), .unset, .unset] [(.int (57344 : Int32)), (.int (13 : Int32)), (.ref o33), (.ref o33)]) (fun _ kz => X60.ldcInt hx hown (mvT hZ (own_w hw 4 rfl)) (g := (mkF m 78 #[.val (.int x0), .val (.int x1), .val (.int x2), .unset, .unset] [(.int (13 : Int32)), (.ref o33), (.ref o33)])) rfl (hb hby at_78) _ kz) ?_
  refine own_stI X60 hx hZ e60 A60 (hb hby at_80) (by decide) (i := 13) rfl (by decide) ?_
  intro T62 h62 X62 e62 W62 A62
  have N62 := Fr.snoc X62 N60 b34
  have s63 : n0 ≤ h62.size := Nat.le_trans s61 (Keep.of_wr W62).1
  show own_E p e below _ (T62.setTop (mkF m 81 #[.val (.int x0), .val (.int x1), .val (.int x2), .unset, .unset] [(.ref o33)]))
  refine own_g (mkF m 82 #[.val (.int x0), .val (.int x1), .val (.int x2), .unset, .unset] [(.ref o33), (.ref o33)]) (fun _ kz => XS.dup X62.here hx rfl (hb hby at_81) rfl rfl kz) ?_
  refine own_g (mkF m 84 #[.val (.int x0), .val (.int x1), .val (.int x2), .unset, .unset] [(.int (14 : Int32)), (.ref o33), (.ref o33)]) (fun _ kz => XS.bipush X62.here hx rfl (hb hby at_82) kz) ?_
  refine own_g (mkF m 86 #[.val (.int x0), .val (.int x1), .val (.int x2), .unset, .unset] [(.int (65533 : Int32)), (.int (14 : Int32)), (.ref o33), (.ref o33)]) (fun _ kz => X62.ldcInt hx hown (mvT hZ (own_w hw 5 rfl)) (g := (mkF m 84 #[.val (.int x0), .val (.int x1), .val (.int x2), .unset, .unset] [(.int (14 : Int32)), (.ref o33), (.ref o33)])) rfl (hb hby at_84) _ kz) ?_
  refine own_stI X62 hx hZ e62 A62 (hb hby at_86) (by decide) (i := 14) rfl (by decide) ?_
  intro T64 h64 X64 e64 W64 A64
  have N64 := Fr.snoc X64 N62 b34
  have s65 : n0 ≤ h64.size := Nat.le_trans s63 (Keep.of_wr W64).1
  show own_E p e below _ (T64.setTop (mkF m 87 #[.val (.int x0), .val (.int x1), .val (.int x2), .unset, .unset] [(.ref o33)]))
  refine own_g (mkF m 88 #[.val (.int x0), .val (.int x1), .val (.int x2), .unset, .unset] [(.ref o33), (.ref o33)]) (fun _ kz => XS.dup X64.here hx rfl (hb hby at_87) rfl rfl kz) ?_
  refine own_g (mkF m 90 #[.val (.int x0), .val (.int x1), .val (.int x2), .unset, .unset] [(.int (15 : Int32)), (.ref o33), (.ref o33)]) (fun _ kz => XS.bipush X64.here hx rfl (hb hby at_88) kz) ?_
  refine own_g (mkF m 92 #[.val (.int x0), .val (.int x1), .val (.int x2), .unset, .unset] [(.int (65534 : Int32)), (.int (15 : Int32)), (.ref o33), (.ref o33)]) (fun _ kz => X64.ldcInt hx hown (mvT hZ (own_w hw 6 rfl)) (g := (mkF m 90 #[.val (.int x0), .val (.int x1), .val (.int x2), .unset, .unset] [(.int (15 : Int32)), (.ref o33), (.ref o33)])) rfl (hb hby at_90) _ kz) ?_
  refine own_stI X64 hx hZ e64 A64 (hb hby at_92) (by decide) (i := 15) rfl (by decide) ?_
  intro T66 h66 X66 e66 W66 A66
  have N66 := Fr.snoc X66 N64 b34
  have s67 : n0 ≤ h66.size := Nat.le_trans s65 (Keep.of_wr W66).1
  show own_E p e below _ (T66.setTop (mkF m 93 #[.val (.int x0), .val (.int x1), .val (.int x2), .unset, .unset] [(.ref o33)]))
  refine own_g (mkF m 94 #[.val (.int x0), .val (.int x1), .val (.int x2), .unset, .unset] [(.ref o33), (.ref o33)]) (fun _ kz => XS.dup X66.here hx rfl (hb hby at_93) rfl rfl kz) ?_
  refine own_g (mkF m 96 #[.val (.int x0), .val (.int x1), .val (.int x2), .unset, .unset] [(.int (16 : Int32)), (.ref o33), (.ref o33)]) (fun _ kz => XS.bipush X66.here hx rfl (hb hby at_94) kz) ?_
  refine own_g (mkF m 98 #[.val (.int x0), .val (.int x1), .val (.int x2), .unset, .unset] [(.int (65535 : Int32)), (.int (16 : Int32)), (.ref o33), (.ref o33)]) (fun _ kz => X66.ldcInt hx hown (mvT hZ (own_w hw 7 rfl)) (g := (mkF m 96 #[.val (.int x0), .val (.int x1), .val (.int x2), .unset, .unset] [(.int (16 : Int32)), (.ref o33), (.ref o33)])) rfl (hb hby at_96) _ kz) ?_
  refine own_stI X66 hx hZ e66 A66 (hb hby at_98) (by decide) (i := 16) rfl (by decide) ?_
  intro T68 h68 X68 e68 W68 A68
  have N68 := Fr.snoc X68 N66 b34
  have s69 : n0 ≤ h68.size := Nat.le_trans s67 (Keep.of_wr W68).1
  show own_E p e below _ (T68.setTop (mkF m 99 #[.val (.int x0), .val (.int x1), .val (.int x2), .unset, .unset] [(.ref o33)]))
  refine own_g (mkF m 100 #[.val (.int x0), .val (.int x1), .val (.int x2), .unset, .unset] [(.ref o33), (.ref o33)]) (fun _ kz => XS.dup X68.here hx rfl (hb hby at_99) rfl rfl kz) ?_
  refine own_g (mkF m 102 #[.val (.int x0), .val (.int x1), .val (.int x2), .unset, .unset] [(.int (17 : Int32)), (.ref o33), (.ref o33)]) (fun _ kz => XS.bipush X68.here hx rfl (hb hby at_100) kz) ?_
  refine own_g (mkF m 104 #[.val (.int x0), .val (.int x1), .val (.int x2), .unset, .unset] [(.int (65536 : Int32)), (.int (17 : Int32)), (.ref o33), (.ref o33)]) (fun _ kz => X68.ldcInt hx hown (mvT hZ (own_w hw 8 rfl)) (g := (mkF m 102 #[.val (.int x0), .val (.int x1), .val (.int x2), .unset, .unset] [(.int (17 : Int32)), (.ref o33), (.ref o33)])) rfl (hb hby at_102) _ kz) ?_
  refine own_stI X68 hx hZ e68 A68 (hb hby at_104) (by decide) (i := 17) rfl (by decide) ?_
  intro T70 h70 X70 e70 W70 A70
  have N70 := Fr.snoc X70 N68 b34
  have s71 : n0 ≤ h70.size := Nat.le_trans s69 (Keep.of_wr W70).1
  show own_E p e below _ (T70.setTop (mkF m 105 #[.val (.int x0), .val (.int x1), .val (.int x2), .unset, .unset] [(.ref o33)]))
  refine own_g (mkF m 106 #[.val (.int x0), .val (.int x1), .val (.int x2), .unset, .unset] [(.ref o33), (.ref o33)]) (fun _ kz => XS.dup X70.here hx rfl (hb hby at_105) rfl rfl kz) ?_
  refine own_g (mkF m 108 #[.val (.int x0), .val (.int x1), .val (.int x2), .unset, .unset] [(.int (18 : Int32)), (.ref o33), (.ref o33)]) (fun _ kz => XS.bipush X70.here hx rfl (hb hby at_106) kz) ?_
  refine own_g (mkF m 110 #[.val (.int x0), .val (.int x1), .val (.int x2), .unset, .unset] [(.int (1114111 : Int32)), (.int (18 : Int32)), (.ref o33), (.ref o33)]) (fun _ kz => X70.ldcInt hx hown (mvT hZ (own_w hw 9 rfl)) (g := (mkF m 108 #[.val (.int x0), .val (.int x1), .val (.int x2), .unset, .unset] [(.int (18 : Int32)), (.ref o33), (.ref o33)])) rfl (hb hby at_108) _ kz) ?_
  refine own_stI X70 hx hZ e70 A70 (hb hby at_110) (by decide) (i := 18) rfl (by decide) ?_
  intro T72 h72 X72 e72 W72 A72
  have N72 := Fr.snoc X72 N70 b34
  have s73 : n0 ≤ h72.size := Nat.le_trans s71 (Keep.of_wr W72).1
  show own_E p e below _ (T72.setTop (mkF m 111 #[.val (.int x0), .val (.int x1), .val (.int x2), .unset, .unset] [(.ref o33)]))
  refine own_g (mkF m 112 #[.val (.int x0), .val (.int x1), .val (.int x2), .unset, .unset] [(.ref o33), (.ref o33)]) (fun _ kz => XS.dup X72.here hx rfl (hb hby at_111) rfl rfl kz) ?_
  refine own_g (mkF m 114 #[.val (.int x0), .val (.int x1), .val (.int x2), .unset, .unset] [(.int (19 : Int32)), (.ref o33), (.ref o33)]) (fun _ kz => XS.bipush X72.here hx rfl (hb hby at_112) kz) ?_
  refine own_g (mkF m 116 #[.val (.int x0), .val (.int x1), .val (.int x2), .unset, .unset] [(.int (1114112 : Int32)), (.int (19 : Int32)), (.ref o33), (.ref o33)]) (fun _ kz => X72.ldcInt hx hown (mvT hZ (own_w hw 10 rfl)) (g := (mkF m 114 #[.val (.int x0), .val (.int x1), .val (.int x2), .unset, .unset] [(.int (19 : Int32)), (.ref o33), (.ref o33)])) rfl (hb hby at_114) _ kz) ?_
  refine own_stI X72 hx hZ e72 A72 (hb hby at_116) (by decide) (i := 19) rfl (by decide) ?_
  intro T74 h74 X74 e74 W74 A74
  have N74 := Fr.snoc X74 N72 b34
  have s75 : n0 ≤ h74.size := Nat.le_trans s73 (Keep.of_wr W74).1
  show own_E p e below _ (T74.setTop (mkF m 117 #[.val (.int x0), .val (.int x1), .val (.int x2), .unset, .unset] [(.ref o33)]))
  refine own_g (mkF m 118 #[.val (.int x0), .val (.int x1), .val (.int x2), .unset, .unset] [(.ref o33), (.ref o33)]) (fun _ kz => XS.dup X74.here hx rfl (hb hby at_117) rfl rfl kz) ?_
  refine own_g (mkF m 120 #[.val (.int x0), .val (.int x1), .val (.int x2), .unset, .unset] [(.int (20 : Int32)), (.ref o33), (.ref o33)]) (fun _ kz => XS.bipush X74.here hx rfl (hb hby at_118) kz) ?_
  refine own_g (mkF m 122 #[.val (.int x0), .val (.int x1), .val (.int x2), .unset, .unset] [(.int (-2147483648 : Int32)), (.int (20 : Int32)), (.ref o33), (.ref o33)]) (fun _ kz => X74.ldcInt hx hown (mvT hZ (own_w hw 11 rfl)) (g := (mkF m 120 #[.val (.int x0), .val (.int x1), .val (.int x2), .unset, .unset] [(.int (20 : Int32)), (.ref o33), (.ref o33)])) rfl (hb hby at_120) _ kz) ?_
  refine own_stI X74 hx hZ e74 A74 (hb hby at_122) (by decide) (i := 20) rfl (by decide) ?_
  intro T76 h76 X76 e76 W76 A76
  have N76 := Fr.snoc X76 N74 b34
  have s77 : n0 ≤ h76.size := Nat.le_trans s75 (Keep.of_wr W76).1
  show own_E p e below _ (T76.setTop (mkF m 123 #[.val (.int x0), .val (.int x1), .val (.int x2), .unset, .unset] [(.ref o33)]))
  refine own_g (mkF m 124 #[.val (.int x0), .val (.int x1), .val (.int x2), .unset, .unset] [(.ref o33), (.ref o33)]) (fun _ kz => XS.dup X76.here hx rfl (hb hby at_123) rfl rfl kz) ?_
  refine own_g (mkF m 126 #[.val (.int x0), .val (.int x1), .val (.int x2), .unset, .unset] [(.int (21 : Int32)), (.ref o33), (.ref o33)]) (fun _ kz => XS.bipush X76.here hx rfl (hb hby at_124) kz) ?_
  refine own_g (mkF m 128 #[.val (.int x0), .val (.int x1), .val (.int x2), .unset, .unset] [(.int (2147483647 : Int32)), (.int (21 : Int32)), (.ref o33), (.ref o33)]) (fun _ kz => X76.ldcInt hx hown (mvT hZ (own_w hw 12 rfl)) (g := (mkF m 126 #[.val (.int x0), .val (.int x1), .val (.int x2), .unset, .unset] [(.int (21 : Int32)), (.ref o33), (.ref o33)])) rfl (hb hby at_126) _ kz) ?_
  refine own_stI X76 hx hZ e76 A76 (hb hby at_128) (by decide) (i := 21) rfl (by decide) ?_
  intro T78 h78 X78 e78 W78 A78
  have N78 := Fr.snoc X78 N76 b34
  have s79 : n0 ≤ h78.size := Nat.le_trans s77 (Keep.of_wr W78).1
  show own_E p e below _ (T78.setTop (mkF m 129 #[.val (.int x0), .val (.int x1), .val (.int x2), .unset, .unset] [(.ref o33)]))
  refine own_g (mkF m 130 #[.val (.int x0), .val (.int x1), .val (.int x2), .val (.ref o33), .unset] []) (fun _ kz => XS.astoreN X78.here hx rfl (hb hby at_129) rfl rfl (l' := #[.val (.int x0), .val (.int x1), .val (.int x2), .val (.ref o33), .unset]) rfl kz) ?_
  refine own_g (mkF m 131 #[.val (.int x0), .val (.int x1), .val (.int x2), .val (.ref o33), .unset] [(.int x1)]) (fun _ kz => XS.iloadN X78.here hx rfl (hb hby at_130) rfl kz) ?_
  refine own_g (mkF m 132 #[.val (.int x0), .val (.int x1), .val (.int x2), .val (.ref o33), .unset] [(.int (1 : Int32)), (.int x1)]) (fun _ kz => XS.iconst X78.here hx rfl (hb hby at_131) kz) ?_
  refine own_g (mkF m 133 #[.val (.int x0), .val (.int x1), .val (.int x2), .val (.ref o33), .unset] [(.int (x1 &&& (1 : Int32)))]) (fun _ kz => XS.iand X78.here hx rfl (hb hby at_132) rfl kz) ?_
  by_cases hs : (x1 &&& (1 : Int32)) = (0 : Int32)
  · refine own_g (mkF m 136 #[.val (.int x0), .val (.int x1), .val (.int x2), .val (.ref o33), .unset] []) (fun _ kz => XS.ifNo X78.here hx rfl (hb hby at_133) rfl ((if0 _ _).trans (teq hs).2) kz) ?_
    refine own_g (mkF m 137 #[.val (.int x0), .val (.int x1), .val (.int x2), .val (.ref o33), .unset] [(.int x0)]) (fun _ kz => XS.iloadN X78.here hx rfl (hb hby at_136) rfl kz) ?_
    refine own_g (mkF m 139 #[.val (.int x0), .val (.int x1), .val (.int x2), .val (.ref o33), .val (.int x0)] []) (fun _ kz => XS.istore X78.here hx rfl (hb hby at_137) rfl (l' := #[.val (.int x0), .val (.int x1), .val (.int x2), .val (.ref o33), .val (.int x0)]) rfl kz) ?_
    refine own_g (mkF m 156 #[.val (.int x0), .val (.int x1), .val (.int x2), .val (.ref o33), .val (.int x0)] []) (fun _ kz => XS.goto X78.here hx rfl (pc0 := 139) (pc' := 156) rfl (hb hby at_139) (by decide) (by decide) kz) ?_
    refine own_g (mkF m 158 #[.val (.int x0), .val (.int x1), .val (.int x2), .val (.ref o33), .val (.int x0)] [(.int x0)]) (fun _ kz => XS.iload X78.here hx rfl (hb hby at_156) rfl kz) ?_
    refine own_callS (rest := []) (as := [(.int x0)]) X78 hx hZ hown e78 (own_c_isc l Z a0 hw x0 h78) (own_w hw 13 rfl) (own_w hw 14 rfl) (own_w hw 15 rfl) (own_w hw 16 rfl) (by decide) own_pd0 rfl (by rw [hml]; rfl) rfl (hb hby at_158) 0 (by show 2 * 0 + _ ≤ _; exact Nat.le_of_eq rfl) (by decide) (by decide) (by decide) (by decide) ?_
    rintro _ T80 L80 X80 ⟨rfl, rfl, e80⟩
    have N80 := Fr.app N78 (Fr.nil n0)
    show own_E p e below _ (T80.setTop (mkF m 161 #[.val (.int x0), .val (.int x1), .val (.int x2), .val (.ref o33), .val (.int x0)] [(.int (own_isC x0))]))
    refine own_g (mkF m 163 #[.val (.int x0), .val (.int x1), .val (.int x2), .val (.ref o33), .val (.int x0)] [(.int x0), (.int (own_isC x0))]) (fun _ kz => XS.iload X80.here hx rfl (hb hby at_161) rfl kz) ?_
    refine own_callS (rest := [(.int (own_isC x0))]) (as := [(.int x0)]) X80 hx hZ hown e80 (own_c_all l Z a0 hw x0 h78) (own_w hw 17 rfl) (own_w hw 18 rfl) (own_w hw 19 rfl) (own_w hw 20 rfl) (by decide) own_pd0 rfl (by rw [hml]; rfl) rfl (hb hby at_163) 1 (by show 2 * 0 + _ ≤ _; exact Nat.le_of_eq rfl) (by decide) (by decide) (by decide) (by decide) ?_
    rintro _ T81 L81 X81 ⟨rfl, rfl, e81⟩
    have N81 := Fr.app N80 (Fr.nil n0)
    show own_E p e below _ (T81.setTop (mkF m 166 #[.val (.int x0), .val (.int x1), .val (.int x2), .val (.ref o33), .val (.int x0)] [(.int (own_all x0)), (.int (own_isC x0))]))
    refine own_g (mkF m 169 #[.val (.int x0), .val (.int x1), .val (.int x2), .val (.ref o33), .val (.int x0)] []) (fun _ kz => XS.icmpNo X81.here hx rfl (hb hby at_166) rfl (teq (own_same _)).2 kz) ?_
    refine own_g (mkF m 170 #[.val (.int x0), .val (.int x1), .val (.int x2), .val (.ref o33), .val (.int x0)] [(.int (1 : Int32))]) (fun _ kz => XS.iconst X81.here hx rfl (hb hby at_169) kz) ?_
    refine own_g (mkF m 174 #[.val (.int x0), .val (.int x1), .val (.int x2), .val (.ref o33), .val (.int x0)] [(.int (1 : Int32))]) (fun _ kz => XS.goto X81.here hx rfl (pc0 := 170) (pc' := 174) rfl (hb hby at_170) (by decide) (by decide) kz) ?_
    exact own_retZ X81 hx hret hlk (hb hby at_174) rfl (by decide) (by decide) (by first | exact ⟨rfl, N81⟩ | (rw [e81]; exact ⟨rfl, N81⟩))
  · refine own_g (mkF m 142 #[.val (.int x0), .val (.int x1), .val (.int x2), .val (.ref o33), .unset] []) (fun _ kz => XS.ifYes X78.here hx rfl (pc0 := 133) (pc' := 142) rfl (hb hby at_133) rfl ((if0 _ _).trans (feq hs).2) (by decide) (by decide) kz) ?_
    refine own_g (mkF m 143 #[.val (.int x0), .val (.int x1), .val (.int x2), .val (.ref o33), .unset] [(.ref o33)]) (fun _ kz => XS.aloadN X78.here hx rfl (hb hby at_142) rfl rfl kz) ?_
    refine own_g (mkF m 144 #[.val (.int x0), .val (.int x1), .val (.int x2), .val (.ref o33), .unset] [(.int x1), (.ref o33)]) (fun _ kz => XS.iloadN X78.here hx rfl (hb hby at_143) rfl kz) ?_
    refine own_g (mkF m 145 #[.val (.int x0), .val (.int x1), .val (.int x2), .val (.ref o33), .unset] [(.int (1 : Int32)), (.int x1), (.ref o33)]) (fun _ kz => XS.iconst X78.here hx rfl (hb hby at_144) kz) ?_
    refine own_g (mkF m 146 #[.val (.int x0), .val (.int x1), .val (.int x2), .val (.ref o33), .unset] [(.int ((x1.toUInt32 >>> ((1 : Int32) &&& 31).toUInt32).toInt32)), (.ref o33)]) (fun _ kz => XS.iushr X78.here hx rfl (hb hby at_145) rfl kz) ?_
    refine own_g (mkF m 147 #[.val (.int x0), .val (.int x1), .val (.int x2), .val (.ref o33), .unset] [(.ref o33), (.int ((x1.toUInt32 >>> ((1 : Int32) &&& 31).toUInt32).toInt32)), (.ref o33)]) (fun _ kz => XS.aloadN X78.here hx rfl (hb hby at_146) rfl rfl kz) ?_
    refine own_lenI X78 hx hZ e78 A78 (hb hby at_147) (z := (22 : Int32)) rfl ?_
    show own_E p e below _ (T78.setTop (mkF m 148 #[.val (.int x0), .val (.int x1), .val (.int x2), .val (.ref o33), .unset] [(.int (22 : Int32)), (.int ((x1.toUInt32 >>> ((1 : Int32) &&& 31).toUInt32).toInt32)), (.ref o33)]))
    refine own_g (mkF m 149 #[.val (.int x0), .val (.int x1), .val (.int x2), .val (.ref o33), .unset] [(.int (((x1.toUInt32 >>> ((1 : Int32) &&& 31).toUInt32).toInt32) % (22 : Int32))), (.ref o33)]) (fun _ kz => iremM X78 hx rfl (hb hby at_148) rfl (by decide) kz) ?_
    obtain ⟨ev, hev⟩ : ∃ z, (own_set (own_set (own_set (own_set (own_set (own_set (own_set (own_set (own_set (own_set (own_set (own_set (own_set (own_set (own_set (own_set (own_set (own_set (own_set (own_set (own_set (own_set (fun _ => (0 : Int32)) 0 (0 : Int32)) 1 (8 : Int32)) 2 (9 : Int32)) 3 (10 : Int32)) 4 (11 : Int32)) 5 (12 : Int32)) 6 (13 : Int32)) 7 (14 : Int32)) 8 (31 : Int32)) 9 (32 : Int32)) 10 (55295 : Int32)) 11 (55296 : Int32)) 12 (57343 : Int32)) 13 (57344 : Int32)) 14 (65533 : Int32)) 15 (65534 : Int32)) 16 (65535 : Int32)) 17 (65536 : Int32)) 18 (1114111 : Int32)) 19 (1114112 : Int32)) 20 (-2147483648 : Int32)) 21 (2147483647 : Int32)) ((((x1.toUInt32 >>> ((1 : Int32) &&& 31).toUInt32).toInt32) % (22 : Int32))).toNatClampNeg = z := ⟨_, rfl⟩
    refine own_ildI X78 hx hZ e78 A78 (hb hby at_149) (own_idx x1).1 (i := ((((x1.toUInt32 >>> ((1 : Int32) &&& 31).toUInt32).toInt32) % (22 : Int32))).toNatClampNeg) rfl (own_idx x1).2 (x := ev) hev ?_
    show own_E p e below _ (T78.setTop (mkF m 150 #[.val (.int x0), .val (.int x1), .val (.int x2), .val (.ref o33), .unset] [(.int ev)]))
    refine own_g (mkF m 151 #[.val (.int x0), .val (.int x1), .val (.int x2), .val (.ref o33), .unset] [(.int x2), (.int ev)]) (fun _ kz => XS.iloadN X78.here hx rfl (hb hby at_150) rfl kz) ?_
    refine own_g (mkF m 152 #[.val (.int x0), .val (.int x1), .val (.int x2), .val (.ref o33), .unset] [(.int (3 : Int32)), (.int x2), (.int ev)]) (fun _ kz => XS.iconst X78.here hx rfl (hb hby at_151) kz) ?_
    refine own_g (mkF m 153 #[.val (.int x0), .val (.int x1), .val (.int x2), .val (.ref o33), .unset] [(.int (x2 % (3 : Int32))), (.int ev)]) (fun _ kz => iremM X78 hx rfl (hb hby at_152) rfl (by decide) kz) ?_
    refine own_g (mkF m 154 #[.val (.int x0), .val (.int x1), .val (.int x2), .val (.ref o33), .unset] [(.int (ev + (x2 % (3 : Int32))))]) (fun _ kz => XS.iadd X78.here hx rfl (hb hby at_153) rfl kz) ?_
    refine own_g (mkF m 156 #[.val (.int x0), .val (.int x1), .val (.int x2), .val (.ref o33), .val (.int (ev + (x2 % (3 : Int32))))] []) (fun _ kz => XS.istore X78.here hx rfl (hb hby at_154) rfl (l' := #[.val (.int x0), .val (.int x1), .val (.int x2), .val (.ref o33), .val (.int (ev + (x2 % (3 : Int32))))]) rfl kz) ?_
    refine own_g (mkF m 158 #[.val (.int x0), .val (.int x1), .val (.int x2), .val (.ref o33), .val (.int (ev + (x2 % (3 : Int32))))] [(.int (ev + (x2 % (3 : Int32))))]) (fun _ kz => XS.iload X78.here hx rfl (hb hby at_156) rfl kz) ?_
    refine own_callS (rest := []) (as := [(.int (ev + (x2 % (3 : Int32))))]) X78 hx hZ hown e78 (own_c_isc l Z a0 hw (ev + (x2 % (3 : Int32))) h78) (own_w hw 13 rfl) (own_w hw 14 rfl) (own_w hw 15 rfl) (own_w hw 16 rfl) (by decide) own_pd0 rfl (by rw [hml]; rfl) rfl (hb hby at_158) 0 (by show 2 * 0 + _ ≤ _; exact Nat.le_of_eq rfl) (by decide) (by decide) (by decide) (by decide) ?_
    rintro _ T82 L82 X82 ⟨rfl, rfl, e82⟩
    have N82 := Fr.app N78 (Fr.nil n0)
    show own_E p e below _ (T82.setTop (mkF m 161 #[.val (.int x0), .val (.int x1), .val (.int x2), .val (.ref o33), .val (.int (ev + (x2 % (3 : Int32))))] [(.int (own_isC (ev + (x2 % (3 : Int32)))))]))
    refine own_g (mkF m 163 #[.val (.int x0), .val (.int x1), .val (.int x2), .val (.ref o33), .val (.int (ev + (x2 % (3 : Int32))))] [(.int (ev + (x2 % (3 : Int32)))), (.int (own_isC (ev + (x2 % (3 : Int32)))))]) (fun _ kz => XS.iload X82.here hx rfl (hb hby at_161) rfl kz) ?_
    refine own_callS (rest := [(.int (own_isC (ev + (x2 % (3 : Int32)))))]) (as := [(.int (ev + (x2 % (3 : Int32))))]) X82 hx hZ hown e82 (own_c_all l Z a0 hw (ev + (x2 % (3 : Int32))) h78) (own_w hw 17 rfl) (own_w hw 18 rfl) (own_w hw 19 rfl) (own_w hw 20 rfl) (by decide) own_pd0 rfl (by rw [hml]; rfl) rfl (hb hby at_163) 1 (by show 2 * 0 + _ ≤ _; exact Nat.le_of_eq rfl) (by decide) (by decide) (by decide) (by decide) ?_
    rintro _ T83 L83 X83 ⟨rfl, rfl, e83⟩
    have N83 := Fr.app N82 (Fr.nil n0)
    show own_E p e below _ (T83.setTop (mkF m 166 #[.val (.int x0), .val (.int x1), .val (.int x2), .val (.ref o33), .val (.int (ev + (x2 % (3 : Int32))))] [(.int (own_all (ev + (x2 % (3 : Int32))))), (.int (own_isC (ev + (x2 % (3 : Int32)))))]))
    refine own_g (mkF m 169 #[.val (.int x0), .val (.int x1), .val (.int x2), .val (.ref o33), .val (.int (ev + (x2 % (3 : Int32))))] []) (fun _ kz => XS.icmpNo X83.here hx rfl (hb hby at_166) rfl (teq (own_same _)).2 kz) ?_
    refine own_g (mkF m 170 #[.val (.int x0), .val (.int x1), .val (.int x2), .val (.ref o33), .val (.int (ev + (x2 % (3 : Int32))))] [(.int (1 : Int32))]) (fun _ kz => XS.iconst X83.here hx rfl (hb hby at_169) kz) ?_
    refine own_g (mkF m 174 #[.val (.int x0), .val (.int x1), .val (.int x2), .val (.ref o33), .val (.int (ev + (x2 % (3 : Int32))))] [(.int (1 : Int32))]) (fun _ kz => XS.goto X83.here hx rfl (pc0 := 170) (pc' := 174) rfl (hb hby at_170) (by decide) (by decide) kz) ?_
    exact own_retZ X83 hx hret hlk (hb hby at_174) rfl (by decide) (by decide) (by first | exact ⟨rfl, N83⟩ | (rw [e83]; exact ⟨rfl, N83⟩))
theorem own_comes {Post : Tables → Env → Array Value → State → Outcome → State → Prop} (hpost : ∀ tb e args s v u, (limb_1_1.after args s (.returned v) u = true ∧ limb_1_2.after args s (.returned v) u = true ∧ True) → FrameEnd s (.returned v) u (Jvm.fieldLocs frame_1_writes args s ++ Jvm.arrayLocs frame_1_arrays args s ++ Jvm.staticLocs frame_1_statics s) 16 128 → Post tb e args s (.returned v) u) :
    ArmFor flags0 classFile x code maxLocals ret World_1 tables_1 room_1 Calls_1 rest_1 Pre_1 Post := by
  intro l hfl _ _ p e ha hc hk s m args below hf hA hF happ hP
  obtain ⟨hcalls, hrest, hpre⟩ := hP
  obtain ⟨-, -, -, hnamed, -, -, -, hat⟩ := (Spec.applies_iff hf).mp happ
  obtain ⟨hg, hn⟩ := and_e (Cond.before_iff.mp (show (Jvm.Cond.and given_1 narrow_1).before args s = true from hpre))
  obtain ⟨hcount, r0⟩ := and_e hg
  obtain ⟨q0, r1⟩ := and_e r0
  obtain ⟨q1, r2⟩ := and_e r1
  obtain ⟨w0, w1, w2, rfl⟩ : ∃ w0 w1 w2 : Value, args = #[w0, w1, w2] := by
    have hs : args.size = 3 := by simpa [Cond.value, given_1] using hcount
    obtain ⟨L⟩ := args
    match L, hs with
    | [w0, w1, w2], _ => exact ⟨w0, w1, w2, rfl⟩
  have hw := fun d (hd : d ∈ tables_1) => atoms_spec (ws := Jvm.Cond.code x code maxLocals ret :: tables_1) hat d (List.mem_cons_of_mem _ hd)
  obtain ⟨i0, e0⟩ := is_v q0
  obtain rfl : w0 = (.int i0) := Option.some.inj e0
  obtain ⟨i1, e1⟩ := is_v q1
  obtain rfl : w1 = (.int i1) := Option.some.inj e1
  obtain ⟨i2, e2⟩ := is_v r2
  obtain rfl : w2 = (.int i2) := Option.some.inj e2
  obtain ⟨n, o, h1, h2, h3, _, L, rfl, ⟨rfl, N⟩, hq⟩ := own_c_law l s _ hw i0 i1 i2 s.heap s.heap.size (Nat.le_refl _) p e ha hc hk s m _ below hf ((Spec.applies_iff_loose hf).mp happ).1 ⟨rfl, State.Warmed39.refl s, rfl⟩ trivial
  refine ⟨n, _, h1, h2, h3, hpost _ _ _ _ _ _ ⟨Cond.after_iff.mpr rfl, Cond.after_iff.mpr (eq_i res_at (Term.int_eval (1)) rfl), trivial⟩ ⟨hq.1, hq.2.1, (hq.2.2.sift fun y hy => Or.inr (N y hy)).mono (by decide) (by decide)⟩⟩
theorem main_1_1 : Claimed_1_1 := own_comes fun _ _ _ _ _ _ h hF => ⟨h.1, hF⟩
theorem main_1_2 : Claimed_1_2 := own_comes fun _ _ _ _ _ _ h hF => ⟨h.2.1, hF⟩
end Jvm.Pilot.@@N@@
namespace Jvm.Pilot.@@N@@
open Jvm Jvm.ClassFile Sem Op Lib Jvm.Free Jvm.Stand Jvm.Pilot.@@N@@.Jvm.D
/-! MADE BY PROGRAM (witnessworld.py) out of the Statement's table words and the real class files: 9 classes; the members and pool entries that the words name. The judged class is class 1, her method 2. -/
namespace start1
open Jvm.ClassFile
def u (s : String) : CpInfo := .utf8 (stringToUtf16 s)
/-- a pool by its gaps: so many unusable entries, then the entry; so many at the end -/
def gap : Nat → List CpInfo → List CpInfo
  | 0, r => r
  | n + 1, r => .unusable :: gap n r
def poolList (es : List (Nat × CpInfo)) (last : Nat) : List CpInfo := es.foldr (fun e r => gap e.1 (e.2 :: r)) (gap last [])
def pool (es : List (Nat × CpInfo)) (last : Nat) : Array CpInfo := ⟨poolList es last⟩
def fileOf (pool : Array CpInfo) (this : Nat) (attrs : Array Attribute := #[]) (ms : Array MethodInfo := #[]) (fl : Nat := 33) (sup : Nat := 0) (ifs : Array Nat := #[]) (fds : Array FieldInfo := #[]) : ClassFile where
  minorVersion := 0
  majorVersion := 65
  constantPool := pool
  accessFlags := fl
  thisClass := this
  superClass := sup
  interfaces := ifs
  fields := fds
  methods := ms
  attributes := attrs
def plain (name : String) (sup : Option ClassId) : Class where
  name := name
  kind := .ordinary
  loader := none
  accessFlags := 33
  super := sup
  interfaces := #[]
  cf := none
  fields := #[]
  methods := #[]
  instanceTypes := #[]
  staticTypes := #[]
  resolved := #[]
  callSites := []
  init := .initialized
  statics := none
  mirror := none

def pool0 : Array CpInfo := pool [(5, u "<init>"), (0, u "()V"), (1, .class_ 10), (1, u "java/lang/Object")] 113

def k0m0 : Method := { name := "<init>", desc := "()V", sig := { parameters := [], returnType := none }, accessFlags := 1, code := none }
/-- java/lang/Object -/
def k0 : Class := { plain "java/lang/Object" none with
  accessFlags := 33
  interfaces := #[]
  cf := some (fileOf pool0 8 #[] #[{ accessFlags := 1, nameIndex := 5, descriptorIndex := 6, attributes := #[] }] 33 0 #[] #[])
  fields := #[]
  methods := #[k0m0]
  instanceTypes := #[]
  staticTypes := #[]
  resolved := Array.replicate 124 none
  statics := none }

def pool1 : Array CpInfo := pool [(2, .class_ 4), (1, u "java/lang/Object"), (0, u "<init>"), (0, u "()V"), (0, .integer 1114111), (0, .integer 55296), (0, .integer 57343), (0, .integer 65534), (0, .integer 65535), (0, .integer 55295), (0, .integer 57344), (0, .integer 65533), (0, .integer 65536), (0, .integer 1114112), (2, .integer 2147483648), (0, .integer 2147483647), (0, .methodref 22 23), (0, .class_ 24), (0, .nameAndType 25 26), (0, u "com/example/holdfast/holdfast/model/XmlNames"), (0, u "isChar"), (0, u "(I)Z"), (0, .methodref 28 29), (0, .class_ 30), (0, .nameAndType 31 26), (0, u "com/example/holdfast/holdfast/model/XmlNamesIsCharPinLaw"), (0, u "allowed"), (3, u "law"), (0, u "(III)Z")] 4

def k1m0 : Method := { name := "<init>", desc := "()V", sig := { parameters := [], returnType := none }, accessFlags := 2, code := none }
def k1c1 : Code := { maxStack := 2, maxLocals := 1, code := method_2_code, exceptionTable := #[], attributes := #[] }
def k1m1 : Method := { name := "allowed", desc := "(I)Z", sig := { parameters := [.int], returnType := some .boolean }, accessFlags := 10, code := some k1c1 }
def k1c2 : Code := { maxStack := 4, maxLocals := 5, code := code, exceptionTable := #[], attributes := #[] }
def k1m2 : Method := { name := "law", desc := "(III)Z", sig := { parameters := [.int, .int, .int], returnType := some .boolean }, accessFlags := 9, code := some k1c2 }
/-- com/example/holdfast/holdfast/model/XmlNamesIsCharPinLaw -/
def k1 : Class := { plain "com/example/holdfast/holdfast/model/XmlNamesIsCharPinLaw" (some 0) with
  accessFlags := 49
  interfaces := #[]
  cf := some (fileOf pool1 28 #[] #[{ accessFlags := 2, nameIndex := 5, descriptorIndex := 6, attributes := #[] }, { accessFlags := 10, nameIndex := 31, descriptorIndex := 26, attributes := #[] }, { accessFlags := 9, nameIndex := 35, descriptorIndex := 36, attributes := #[] }] 49 2 #[] #[])
  fields := #[]
  methods := #[k1m0, k1m1, k1m2]
  instanceTypes := #[]
  staticTypes := #[]
  resolved := Array.replicate 41 none
  statics := none }

def pool2 : Array CpInfo := pool [(2, .class_ 4), (1, u "java/lang/Object"), (0, u "<init>"), (0, u "()V"), (19, .class_ 28), (1, u "com/example/holdfast/holdfast/model/XmlNames"), (57, u "lastChecked"), (0, u "Lcom/example/holdfast/holdfast/model/XmlNames$Checked;"), (1, .class_ 91), (1, u "com/example/holdfast/holdfast/model/XmlNames$Checked"), (7, .class_ 101), (1, u "com/example/holdfast/holdfast/model/XmlNames$Trial"), (26, .integer 55295), (0, .integer 57344), (0, .integer 65533), (0, .integer 65536), (2, .integer 1114111), (15, u "isChar"), (0, u "(I)Z")] 21

def k2m0 : Method := { name := "<init>", desc := "()V", sig := { parameters := [], returnType := none }, accessFlags := 2, code := none }
def k2c1 : Code := { maxStack := 2, maxLocals := 1, code := prog_244_method_12_code, exceptionTable := #[], attributes := #[] }
def k2m1 : Method := { name := "isChar", desc := "(I)Z", sig := { parameters := [.int], returnType := some .boolean }, accessFlags := 9, code := some k2c1 }
/-- com/example/holdfast/holdfast/model/XmlNames -/
def k2 : Class := { plain "com/example/holdfast/holdfast/model/XmlNames" (some 0) with
  accessFlags := 49
  interfaces := #[]
  cf := some (fileOf pool2 26 #[.nestMembers #[89, 99]] #[{ accessFlags := 2, nameIndex := 5, descriptorIndex := 6, attributes := #[] }, { accessFlags := 9, nameIndex := 150, descriptorIndex := 151, attributes := #[] }] 49 2 #[] #[{ accessFlags := 74, nameIndex := 86, descriptorIndex := 87, attributes := #[] }])
  fields := #[{ name := "lastChecked", type := (.object "com/example/holdfast/holdfast/model/XmlNames$Checked"), accessFlags := 74, slot := 0, constantValue := 0 }]
  methods := #[k2m0, k2m1]
  instanceTypes := #[]
  staticTypes := #[(.object "com/example/holdfast/holdfast/model/XmlNames$Checked")]
  resolved := Array.replicate 173 none
  statics := none }

def pool3 : Array CpInfo := pool [(1, u "java/lang/Cloneable"), (0, .class_ 1), (0, u "java/lang/Object"), (0, .class_ 3)] 3

/-- java/lang/Cloneable -/
def k3 : Class := { plain "java/lang/Cloneable" (some 0) with
  accessFlags := 1537
  interfaces := #[]
  cf := some (fileOf pool3 2 #[] #[] 1537 4 #[] #[])
  fields := #[]
  methods := #[]
  instanceTypes := #[]
  staticTypes := #[]
  resolved := Array.replicate 8 none
  statics := none }

def pool4 : Array CpInfo := pool [(1, u "java/io/Serializable"), (0, .class_ 1), (0, u "java/lang/Object"), (0, .class_ 3)] 3

/-- java/io/Serializable -/
def k4 : Class := { plain "java/io/Serializable" (some 0) with
  accessFlags := 1537
  interfaces := #[]
  cf := some (fileOf pool4 2 #[] #[] 1537 4 #[] #[])
  fields := #[]
  methods := #[]
  instanceTypes := #[]
  staticTypes := #[]
  resolved := Array.replicate 8 none
  statics := none }

/-- the primitive byte -/
def k5 : Class := { plain "byte" none with kind := .primitive 'B', accessFlags := 0x411 }
/-- [B -/
def k6 : Class := { plain "[B" (some 0) with kind := .array 5 .byte, interfaces := #[3, 4], accessFlags := 1041 }

/-- the primitive int -/
def k7 : Class := { plain "int" none with kind := .primitive 'I', accessFlags := 0x411 }
/-- [I -/
def k8 : Class := { plain "[I" (some 0) with kind := .array 7 .int, interfaces := #[3, 4], accessFlags := 1041 }

def heap : Heap := #[]
def classes : Array Class := #[k0, k1, k2, k3, k4, k5, k6, k7, k8]
def interned : List (Array UInt16 × Addr) := []
def slotsUsed : Nat := 0
def theMethod : MethodId := ⟨1, 2⟩
def args0 : Array Value := #[.int 5, .int 7, .int 3]
def aboutOver (below : List Frame) : State where
  vm := { classes := classes, interned := interned.toArray }
  heap := heap
  slotsUsed := slotsUsed
  threads := #[{ frames := .invoking theMethod args0 :: below }]
def below0 : List Frame := [.native { method := ⟨0, 0⟩, args := #[] }]
def about1 : State := aboutOver below0
def p0 : Program := .bare "" "" ""
def e0 : Env := launch0.env 0 0 0
theorem w_frames : about1.frames = Frame.invoking theMethod args0 :: below0 := rfl
set_option maxRecDepth 65536 in
theorem w_args : argsFit about1.vm theMethod args0 = true := by decide +kernel
set_option maxRecDepth 65536 in
theorem w_heap : heapFits about1 = true := by decide +kernel
set_option maxRecDepth 65536 in
theorem w_runnable : about1.curStatus? = some .runnable := by decide +kernel
set_option maxRecDepth 65536 in
theorem w_alone : about1.alone = true := by decide +kernel
set_option maxRecDepth 65536 in
theorem w_named : about1.methodNamed? x = some theMethod := by decide +kernel
set_option maxRecDepth 65536 in
theorem w_hears : about1.hears theMethod below0 = true := by decide +kernel
set_option maxRecDepth 65536 in
theorem w_ripe : about1.ripe theMethod args0 below0 = true := by decide +kernel
theorem w_running : about1.status = .running := rfl
set_option maxRecDepth 65536 in
theorem w_room : about1.hasRoom e0.platform room_1 = true :=
  launch0.hasRoom_least _ room_1 (by decide +kernel) (by decide +kernel) (by decide +kernel) (by decide +kernel) (by decide +kernel) (by decide +kernel)
theorem allAtoms_all (ts : List Jvm.Cond) (a : Array Jvm.Value) (st : Jvm.State) : (allAtoms ts).before a st = ts.all (fun c => c.before a st) := by
  induction ts with
  | nil => rfl
  | cons c t ih =>
    show (Jvm.Cond.and c (allAtoms t)).before a st = _
    rw [Jvm.Cond.before_and, ih, List.all_cons]
def words1 : List Jvm.Cond := Jvm.Cond.code x code maxLocals ret :: tables_1
/-- a 'code' word, met by the world's own term for the bytes: nothing is compared byte by byte -/
theorem code_word {y : MethodName} {bytes : ByteArray} {mx : Nat} {rt : Option FieldType} {a : Array Value} {s : State} {m : MethodId} {meth : Method} {c : Code} (h1 : s.methodNamed? y = some m) (h2 : s.vm.method? m = some meth) (h3 : meth.code = some c) (h4 : c.code = bytes)
    (h5 : (c.maxLocals == mx && c.exceptionTable.isEmpty && decide (c.maxStack ≤ mostOperands) && decide (meth.sig.returnType = rt) && !meth.locks && decide (parseMethodDescriptor y.desc = some meth.sig)) = true) : (Jvm.Cond.code y bytes mx rt).before a s = true := by
  simp only [Bool.and_eq_true, beq_iff_eq, Bool.not_eq_true', decide_eq_true_eq] at h5
  obtain ⟨⟨⟨⟨⟨g1, g2⟩, g3⟩, g4⟩, g5⟩, g6⟩ := h5
  simp [Cond.before, Cond.holds, Cond.value, h1, h2, h3, h4, g1, g2, g3, g4, g5, g6]
def isCode : Jvm.Cond → Bool
  | .code _ _ _ _ => true
  | _ => false
theorem all_split {L : List Jvm.Cond} {P : Jvm.Cond → Bool} (h1 : L.all (fun c => isCode c || P c) = true) (h2 : ∀ c ∈ L.filter isCode, P c = true) : L.all P = true := by
  refine List.all_eq_true.mpr fun c hc => ?_
  have h := List.all_eq_true.mp h1 c hc
  rcases Bool.eq_false_or_eq_true (isCode c) with hi | hi
  · exact h2 c (List.mem_filter.mpr ⟨hc, hi⟩)
  · simpa [hi] using h
set_option maxRecDepth 65536 in
theorem w_c0 : (Jvm.Cond.code x code maxLocals ret).before args0 about1 = true := code_word (m := ⟨1, 2⟩) (meth := k1m2) (c := k1c2) (by decide +kernel) rfl rfl rfl (by decide +kernel)
set_option maxRecDepth 65536 in
theorem w_c1 : (Jvm.Cond.code ({ cls := "com/example/holdfast/holdfast/model/XmlNames", name := "isChar", desc := "(I)Z" } : Jvm.MethodName) prog_244_method_12_code (1 : Nat) (Option.some Jvm.ClassFile.FieldType.boolean)).before args0 about1 = true := code_word (m := ⟨2, 1⟩) (meth := k2m1) (c := k2c1) (by decide +kernel) rfl rfl rfl (by decide +kernel)
set_option maxRecDepth 65536 in
theorem w_c2 : (Jvm.Cond.code ({ cls := "com/example/holdfast/holdfast/model/XmlNamesIsCharPinLaw", name := "allowed", desc := "(I)Z" } : Jvm.MethodName) method_2_code (1 : Nat) (Option.some Jvm.ClassFile.FieldType.boolean)).before args0 about1 = true := code_word (m := ⟨1, 1⟩) (meth := k1m1) (c := k1c1) (by decide +kernel) rfl rfl rfl (by decide +kernel)
def codes1 : List Jvm.Cond := [Jvm.Cond.code x code maxLocals ret, Jvm.Cond.code ({ cls := "com/example/holdfast/holdfast/model/XmlNames", name := "isChar", desc := "(I)Z" } : Jvm.MethodName) prog_244_method_12_code (1 : Nat) (Option.some Jvm.ClassFile.FieldType.boolean), Jvm.Cond.code ({ cls := "com/example/holdfast/holdfast/model/XmlNamesIsCharPinLaw", name := "allowed", desc := "(I)Z" } : Jvm.MethodName) method_2_code (1 : Nat) (Option.some Jvm.ClassFile.FieldType.boolean)]
set_option maxRecDepth 65536 in
theorem codes_eq : words1.filter isCode = codes1 := rfl
theorem w_codes : ∀ c ∈ words1.filter isCode, c.before args0 about1 = true := by
  rw [codes_eq]
  intro c hc
  simp only [codes1, List.mem_cons, List.not_mem_nil, or_false] at hc
  rcases hc with rfl | rfl | rfl
  · exact w_c0
  · exact w_c1
  · exact w_c2
set_option maxRecDepth 65536 in
theorem w_t1 : (words1.take 24).all (fun c => isCode c || c.before args0 about1) = true := by decide +kernel
set_option maxRecDepth 65536 in
theorem w_t2 : (words1.drop 24).all (fun c => isCode c || c.before args0 about1) = true := by decide +kernel
theorem w_tables : (allAtoms (Jvm.Cond.code x code maxLocals ret :: tables_1)).before args0 about1 = true := by
  rw [allAtoms_all]
  show words1.all (fun c => c.before args0 about1) = true
  refine all_split ?_ w_codes
  rw [← List.take_append_drop 24 words1, List.all_append, w_t1, w_t2]
  rfl
set_option maxRecDepth 65536 in
theorem w_case : (Jvm.Cond.and given_1 narrow_1).before args0 about1 = true := by decide +kernel
theorem w_applies : (headSpec (Jvm.Cond.code x code maxLocals ret :: tables_1) room_1).applies x e0.platform about1 = true :=
  (Spec.applies_iff w_frames).mpr ⟨w_running, w_runnable, w_alone, w_named, w_hears, w_ripe, w_room, w_tables⟩
theorem atStart : AtStart classFile x code maxLocals ret World_1 tables_1 room_1 Calls_1 rest_1 Pre_1 launch0 p0 e0 about1 theMethod args0 below0 :=
  ⟨lists_1, trivial, launch0.admits_env _ _ _, launch0.least_env, fairChoices_fair.cas, fairChoices_fair.clock, w_frames, w_args, w_heap, w_applies, trivial, trivial, w_case⟩
end start1
theorem witness_1 : WitnessClaimed_1 := ⟨start1.p0, start1.e0, start1.about1, start1.theMethod, start1.args0, start1.below0, start1.atStart⟩
end Jvm.Pilot.@@N@@
