import JvmDerived
import JvmDerived.Pilot.@@N@@Statement
import JvmDerived.Pilot.@@N@@Code
set_option linter.unusedVariables false
set_option linter.unusedSimpArgs false
namespace Jvm.Pilot.@@N@@
open Jvm Jvm.ClassFile Sem Op Lib Jvm.Free Jvm.Stand Jvm.LawKit Jvm.RoadKit Bundle Jvm.Pilot.@@N@@.Jvm.D
/-! ### own kit: a walk as one chain, from a place of the run to the method's end -/
/-- from A the run comes to an end of which P holds -/
def own_E (p : Program) (e : Env) (below : List Frame) (P : Outcome → State → Prop) (A : State) : Prop :=
  ∃ s₂ o, Steps p.tables e below A s₂ ∧ s₂.status = .running ∧ Ended s₂ below o ∧ P o s₂
/-- what a contract says at the end -/
def own_P (Q : Option Value → Heap → List Loc → Prop) (s : State) (C S : Nat) : Outcome → State → Prop :=
  fun o U => ∃ v L, o = .returned v ∧ Q v U.heap L ∧ FrameEnd s o U L C S
/-- a contract: called with these arguments over the heap h, the body returns, and Q tells what and what is written -/
def own_Con (l : Launch) (Z : State) (y : MethodName) (bytes : ByteArray) (maxL : Nat) (ret : Option FieldType) (ws : List Jvm.Cond) (rm : Room) (as : Array Value) (h : Heap) (Q : Option Value → Heap → List Loc → Prop) : Prop :=
  MetFree l y (head1 (Jvm.Cond.code y bytes maxL ret :: ws) rm) (fun a U => a = as ∧ Z.Warmed39 U.vm ∧ U.heap = h) (fun _ _ _ _ _ => True) (fun _ U o U' => ∃ v L, o = .returned v ∧ Q v U'.heap L ∧ FrameEnd U o U' L rm.cells rm.slots)
theorem own_w {Z : State} {a0 : Array Value} (hw : ∀ d ∈ tables_1, d.before a0 Z = true) (i : Nat) {d : Jvm.Cond} (q : tables_1[i]? = some d) : d.before a0 Z = true := hw d (List.mem_of_getElem? q)
section Own
variable {p : Program} {l : Launch} {e : Env} {R : Room} {s : State} {m : MethodId} {args : Array Value} {below : List Frame} {meth : Method} {c : Code} {T : State} {locs : List Loc} {cells slots : Nat} {Z : State} {a0 : Array Value} {h h' : Heap} {P : Outcome → State → Prop} {A B : State} {Q : Option Value → Heap → List Loc → Prop}
theorem own_s (st : ∀ t, Steps p.tables e below B t → Steps p.tables e below A t) (k : own_E p e below P B) : own_E p e below P A := by
  obtain ⟨s2, o, h1, h2⟩ := k; exact ⟨s2, o, st _ h1, h2⟩
theorem own_g {g : JFrame} (g' : JFrame) (st : ∀ t, Steps p.tables e below (T.setTop g') t → Steps p.tables e below (T.setTop g) t) (k : own_E p e below P (T.setTop g')) : own_E p e below P (T.setTop g) := own_s st k
theorem own_t (st : Steps p.tables e below A B) (k : own_E p e below P B) : own_E p e below P A := by
  obtain ⟨s2, o, h1, h2⟩ := k; exact ⟨s2, o, st.trans h1, h2⟩
theorem own_enter {y : MethodName} {bytes : ByteArray} {maxL : Nat} {ret : Option FieldType} {ws : List Jvm.Cond} {rm : Room} {as : Array Value} (hpl : plainFor y = true)
    (body : ∀ (p : Program) (e : Env) (s : State) (m : MethodId) (below : List Frame) (meth : Method) (c : Code) (s₁ : State), Stand p l e rm s m as below meth c s₁ [] 0 0 → s₁.heap = h → p.tables.exec = Jvm.exec → Z.Warmed39 s.vm → c.code = bytes → c.maxLocals = maxL → s.vm.findClass y.cls = some m.cls → meth.name = y.name → meth.sig.returnType = ret → meth.locks = false →
      own_E p e below (own_P Q s rm.cells rm.slots) (s₁.setTop (entryFrame m as maxL))) : own_Con l Z y bytes maxL ret ws rm as h Q := by
  refine MetFree.of_bodySF hpl hisR ?_
  intro p e s m args below meth c s₁ Bd hml hP hK
  obtain ⟨rfl, hZ, hh⟩ := hP
  have X0 : Stand p l e rm s m args below meth c s₁ [] 0 0 := Stand.of_body Bd
  have e0 : s₁.heap = h := by rw [← hh, Bd.state]; rfl
  exact body p e s m below meth c s₁ X0 e0 Bd.exec hZ Bd.bytes hml (findClass_of_methodNamed Bd.named) (name_of_methodNamed Bd.named Bd.method).1 Bd.returns Bd.notSynchronized
theorem own_cast {g g' : JFrame} (q : g = g') (k : own_E p e below P (T.setTop g')) : own_E p e below P (T.setTop g) := q ▸ k
/-! returns -/
theorem own_retZ (X : Stand p l e R s m args below meth c T locs cells slots) (hx : p.tables.exec = Jvm.exec) (hret : meth.sig.returnType = some .boolean) (hlk : meth.locks = false) {pc : Nat} {Ls : Array Slot} {z : Int32} {C S : Nat} {rest : List Value} (hd : decode c.code pc = .ok (.ireturn, 1)) (hz : nar .boolean z = z) (hc : cells ≤ C) (hs : slots ≤ S) (hQ : Q (some (.int z)) T.heap locs) :
    own_E p e below (own_P Q s C S) (T.setTop (mkF m pc Ls (.int z :: rest))) := by
  obtain ⟨fs, hr, hrun, hended, hW, hsame⟩ := X.leave (v := some (.int z)) (fun q => by rw [hret] at q; cases q) hlk
  exact ⟨_, _, retN X hx (t := .boolean) hret (by simp) hd (by rw [hz]; exact hr), hrun, hended, _, _, rfl, hQ, ⟨_, rfl⟩, hW, hsame.mono hc hs⟩
theorem own_retI (X : Stand p l e R s m args below meth c T locs cells slots) (hx : p.tables.exec = Jvm.exec) (hret : meth.sig.returnType = some .int) (hlk : meth.locks = false) {pc : Nat} {Ls : Array Slot} {z : Int32} {C S : Nat} (hd : decode c.code pc = .ok (.ireturn, 1)) (hc : cells ≤ C) (hs : slots ≤ S) (hQ : Q (some (.int z)) T.heap locs) :
    own_E p e below (own_P Q s C S) (T.setTop (mkF m pc Ls [.int z])) := by
  obtain ⟨fs, hr, hrun, hended, hW, hsame⟩ := X.leave (v := some (.int z)) (fun q => by rw [hret] at q; cases q) hlk
  exact ⟨_, _, X.ireturnOut hx hret rfl (Or.inl rfl) hd hr, hrun, hended, _, _, rfl, hQ, ⟨_, rfl⟩, hW, hsame.mono hc hs⟩
theorem own_retJ (X : Stand p l e R s m args below meth c T locs cells slots) (hx : p.tables.exec = Jvm.exec) (hret : meth.sig.returnType = some .long) (hlk : meth.locks = false) {pc : Nat} {Ls : Array Slot} {z : Int64} {C S : Nat} (hd : decode c.code pc = .ok (.lreturn, 1)) (hc : cells ≤ C) (hs : slots ≤ S) (hQ : Q (some (.long z)) T.heap locs) :
    own_E p e below (own_P Q s C S) (T.setTop (mkF m pc Ls [.long z])) := by
  obtain ⟨fs, hr, hrun, hended, hW, hsame⟩ := X.leave (v := some (.long z)) (fun q => by rw [hret] at q; cases q) hlk
  exact ⟨_, _, X.lreturnOut hx hret hd hr, hrun, hended, _, _, rfl, hQ, ⟨_, rfl⟩, hW, hsame.mono hc hs⟩
theorem own_retA (X : Stand p l e R s m args below meth c T locs cells slots) (hx : p.tables.exec = Jvm.exec) {t : FieldType} (ht : t.isReference = true) (hret : meth.sig.returnType = some t) (hlk : meth.locks = false) {pc : Nat} {Ls : Array Slot} {a : Addr} {C S : Nat} (hd : decode c.code pc = .ok (.areturn, 1)) (hc : cells ≤ C) (hs : slots ≤ S) (hQ : Q (some (.ref a)) T.heap locs) :
    own_E p e below (own_P Q s C S) (T.setTop (mkF m pc Ls [.ref a])) := by
  obtain ⟨fs, hr, hrun, hended, hW, hsame⟩ := X.leave (v := some (.ref a)) (fun q => by rw [hret] at q; cases q) hlk
  exact ⟨_, _, X.areturnOut hx (w := .ref a) rfl hret ht hd hr, hrun, hended, _, _, rfl, hQ, ⟨_, rfl⟩, hW, hsame.mono hc hs⟩
theorem own_retV (X : Stand p l e R s m args below meth c T locs cells slots) (hx : p.tables.exec = Jvm.exec) (hret : meth.sig.returnType = none) (hlk : meth.locks = false) {pc : Nat} {Ls : Array Slot} {C S : Nat} (hd : decode c.code pc = .ok (.return_, 1)) (hc : cells ≤ C) (hs : slots ≤ S) (hQ : Q none T.heap locs) :
    own_E p e below (own_P Q s C S) (T.setTop (mkF m pc Ls [])) := by
  obtain ⟨fs, hr, hrun, hended, hW, hsame⟩ := X.leave (v := none) (fun _ => rfl) hlk
  exact ⟨_, _, X.returnOut hx hret hd hr, hrun, hended, _, _, rfl, hQ, ⟨_, rfl⟩, hW, hsame.mono hc hs⟩
/-! calls by a contract -/
theorem own_callS {y : MethodName} {bytes : ByteArray} {maxL : Nat} {ret : Option FieldType} {rm : Room} {own : String} {index : Nat} {as : List Value} (X : Stand p l e R s m args below meth c T locs cells slots) (hx : p.tables.exec = Jvm.exec) (hZ : Z.Warmed39 s.vm) (hown : s.vm.findClass own = some m.cls) (hT : T.heap = h) (hM : own_Con l Z y bytes maxL ret [] rm as.toArray h Q)
    (w1 : (Jvm.Cond.methodLink own index y).before a0 Z = true) (w2 : (Jvm.Cond.static y).before a0 Z = true) (w3 : (Jvm.Cond.initialized y.cls).before a0 Z = true) (w4 : (Jvm.Cond.code y bytes maxL ret).before a0 Z = true) (hy : y.cls ≠ "java/lang/invoke/MethodHandle" ∧ y.cls ≠ "java/lang/invoke/VarHandle") {ps : List FieldType} {r : Option FieldType} (hpd : parseMethodDescriptor y.desc = some ⟨ps, r⟩) (hlen : as.length = ps.length)
    {pc : Nat} {Ls : Array Slot} {st rest : List Value} (hml : Ls.size = c.maxLocals) (hst : st = as.reverse ++ rest) (hd : decode c.code pc = .ok (.invokestatic index, 3)) (W : Nat) (hW : 2 * 0 + (rest.map fun v => v.category).sum ≤ W) (hf : rm.frames + 1 ≤ R.frames) (hl : W + (maxL + 11) + rm.locals ≤ R.locals) (hc : cells + rm.cells ≤ R.cells) (hs : slots + rm.slots ≤ R.slots)
    (k : ∀ (v : Option Value) (T' : State) (L : List Loc), Stand p l e R s m args below meth c T' (locs ++ L) (cells + rm.cells) (slots + rm.slots) → Q v T'.heap L → own_E p e below P (T'.setTop (mkF m (pc + 3) Ls (v.toList ++ rest)))) :
    own_E p e below P (T.setTop (mkF m pc Ls st)) := by
  obtain ⟨v, _, ⟨T', L', k', n'⟩, -, X', ⟨L, hQ, h1, h2, h3⟩, stp⟩ := Jvm.LawKit.callS X hx hown (mvT hZ w1) (mvT hZ w2) (mvT hZ w3) (mvT hZ w4) hy (backOf (W := W) hM hZ w4 w3 hf hl) (g := mkF m pc Ls st) rfl hml (argsL := as) (rest := rest) (lenOf hpd hlen) hst hW hd (fun _ _ => ⟨rfl, hT, hc, hs⟩)
  dsimp only [Pt.U, Pt.locs, Pt.cells, Pt.slots] at X' h1 h2 h3 stp hQ
  subst h1 h2 h3
  exact own_s stp (k v T' L X' hQ)
theorem own_callI {y : MethodName} {bytes : ByteArray} {maxL : Nat} {rm : Room} {own : String} {index : Nat} {a : Addr} {as : List Value} (X : Stand p l e R s m args below meth c T locs cells slots) (hx : p.tables.exec = Jvm.exec) (hZ : Z.Warmed39 s.vm) (hown : s.vm.findClass own = some m.cls) (hT : T.heap = h) (hM : own_Con l Z y bytes maxL none [] rm (.ref a :: as).toArray h Q) (hy1 : y.name = "<init>")
    (w1 : (Jvm.Cond.methodLink own index y).before a0 Z = true) (w2 : (Jvm.Cond.instanceMethod y).before a0 Z = true) (w3 : (Jvm.Cond.initialized y.cls).before a0 Z = true) (w4 : (Jvm.Cond.code y bytes maxL none).before a0 Z = true) (hy : y.cls ≠ "java/lang/invoke/MethodHandle" ∧ y.cls ≠ "java/lang/invoke/VarHandle") {ps : List FieldType} {r : Option FieldType} (hpd : parseMethodDescriptor y.desc = some ⟨ps, r⟩) (hlen : as.length = ps.length)
    {pc : Nat} {Ls : Array Slot} {st rest : List Value} (hml : Ls.size = c.maxLocals) (hst : st = as.reverse ++ .ref a :: rest) (hd : decode c.code pc = .ok (.invokespecial index, 3)) (W : Nat) (hW : 2 * 0 + (rest.map fun v => v.category).sum ≤ W) (hf : rm.frames + 1 ≤ R.frames) (hl : W + (maxL + 11) + rm.locals ≤ R.locals) (hc : cells + rm.cells ≤ R.cells) (hs : slots + rm.slots ≤ R.slots)
    (k : ∀ (v : Option Value) (T' : State) (L : List Loc), Stand p l e R s m args below meth c T' (locs ++ L) (cells + rm.cells) (slots + rm.slots) → Q v T'.heap L → own_E p e below P (T'.setTop (mkF m (pc + 3) Ls (v.toList ++ rest)))) :
    own_E p e below P (T.setTop (mkF m pc Ls st)) := by
  obtain ⟨v, _, ⟨T', L', k', n'⟩, -, X', ⟨L, hQ, h1, h2, h3⟩, stp⟩ := X.specialBack hx hy1 hown (mvT hZ w1) (mvT hZ w2) (mvT hZ w4) hy (backOf (W := W) hM hZ w4 w3 hf hl) (g := mkF m pc Ls st) rfl hml (Steps.refl _) (a := a) (argsL := as) (rest := rest) (lenOf hpd hlen) hst hW hd (fun _ _ => ⟨rfl, hT, hc, hs⟩)
  dsimp only [Pt.U, Pt.locs, Pt.cells, Pt.slots] at X' h1 h2 h3 stp hQ
  subst h1 h2 h3
  exact own_t stp (k v T' L X' hQ)
theorem own_callV {y : MethodName} {bytes : ByteArray} {maxL : Nat} {ret : Option FieldType} {rm : Room} {own : String} {index : Nat} {a : Addr} {as : List Value} (X : Stand p l e R s m args below meth c T locs cells slots) (hx : p.tables.exec = Jvm.exec) (hZ : Z.Warmed39 s.vm) (hown : s.vm.findClass own = some m.cls) (hT : T.heap = h) (hM : own_Con l Z y bytes maxL ret [] rm (.ref a :: as).toArray h Q) (hE : Exa Z h a y.cls)
    (w1 : (Jvm.Cond.methodLink own index y).before a0 Z = true) (w2 : (Jvm.Cond.declares y).before a0 Z = true) (w5 : (Jvm.Cond.selects y.cls y y).before a0 Z = true) (w6 : (Jvm.Cond.instanceMethod y).before a0 Z = true) (w3 : (Jvm.Cond.initialized y.cls).before a0 Z = true) (w4 : (Jvm.Cond.code y bytes maxL ret).before a0 Z = true) (hy : y.cls ≠ "java/lang/invoke/MethodHandle" ∧ y.cls ≠ "java/lang/invoke/VarHandle") {ps : List FieldType} {r : Option FieldType} (hpd : parseMethodDescriptor y.desc = some ⟨ps, r⟩) (hlen : as.length = ps.length)
    {pc : Nat} {Ls : Array Slot} {st rest : List Value} (hml : Ls.size = c.maxLocals) (hst : st = as.reverse ++ .ref a :: rest) (hd : decode c.code pc = .ok (.invokevirtual index, 3)) (W : Nat) (hW : 2 * 0 + (rest.map fun v => v.category).sum ≤ W) (hf : rm.frames + 1 ≤ R.frames) (hl : W + (maxL + 11) + rm.locals ≤ R.locals) (hc : cells + rm.cells ≤ R.cells) (hs : slots + rm.slots ≤ R.slots)
    (k : ∀ (v : Option Value) (T' : State) (L : List Loc), Stand p l e R s m args below meth c T' (locs ++ L) (cells + rm.cells) (slots + rm.slots) → Q v T'.heap L → own_E p e below P (T'.setTop (mkF m (pc + 3) Ls (v.toList ++ rest)))) :
    own_E p e below P (T.setTop (mkF m pc Ls st)) := by
  obtain ⟨cq, kq, qa, qb, qc⟩ := isOf hZ hT hE
  obtain ⟨v, _, ⟨T', L', k', n'⟩, -, X', ⟨L, hQ, h1, h2, h3⟩, stp⟩ := X.virtualBack hx hown (mvT hZ w1) (mvT hZ w2) (notFace_of_selects (args := #[]) (mvT hZ w5)) (mvT hZ w5) (mvT hZ w6) hy (backOf (W := W) hM hZ w4 w3 hf hl) qa qc (g := mkF m pc Ls st) rfl hml (Steps.refl _) (argsL := as) (rest := rest) (lenOf hpd hlen) hst hW hd (fun _ _ => ⟨rfl, hT, hc, hs⟩)
  dsimp only [Pt.U, Pt.locs, Pt.cells, Pt.slots] at X' h1 h2 h3 stp hQ
  subst h1 h2 h3
  exact own_t stp (k v T' L X' hQ)
theorem own_callP {y : MethodName} {bytes : ByteArray} {maxL : Nat} {ret : Option FieldType} {rm : Room} {own : String} {index kn : Nat} {a : Addr} {as : List Value} (X : Stand p l e R s m args below meth c T locs cells slots) (hx : p.tables.exec = Jvm.exec) (hZ : Z.Warmed39 s.vm) (hown : s.vm.findClass own = some m.cls) (hT : T.heap = h) (hM : own_Con l Z y bytes maxL ret [] rm (.ref a :: as).toArray h Q) (hE : Exa Z h a y.cls)
    (w1 : (Jvm.Cond.methodLink own index y).before a0 Z = true) (w2 : (Jvm.Cond.instantiable y.cls kn).before a0 Z = true) (w5 : (Jvm.Cond.privateMethod y).before a0 Z = true) (w6 : (Jvm.Cond.instanceMethod y).before a0 Z = true) (w3 : (Jvm.Cond.initialized y.cls).before a0 Z = true) (w4 : (Jvm.Cond.code y bytes maxL ret).before a0 Z = true) (hy : y.cls ≠ "java/lang/invoke/MethodHandle" ∧ y.cls ≠ "java/lang/invoke/VarHandle") {ps : List FieldType} {r : Option FieldType} (hpd : parseMethodDescriptor y.desc = some ⟨ps, r⟩) (hlen : as.length = ps.length)
    {pc : Nat} {Ls : Array Slot} {st rest : List Value} (hml : Ls.size = c.maxLocals) (hst : st = as.reverse ++ .ref a :: rest) (hd : decode c.code pc = .ok (.invokevirtual index, 3)) (W : Nat) (hW : 2 * 0 + (rest.map fun v => v.category).sum ≤ W) (hf : rm.frames + 1 ≤ R.frames) (hl : W + (maxL + 11) + rm.locals ≤ R.locals) (hc : cells + rm.cells ≤ R.cells) (hs : slots + rm.slots ≤ R.slots)
    (k : ∀ (v : Option Value) (T' : State) (L : List Loc), Stand p l e R s m args below meth c T' (locs ++ L) (cells + rm.cells) (slots + rm.slots) → Q v T'.heap L → own_E p e below P (T'.setTop (mkF m (pc + 3) Ls (v.toList ++ rest)))) :
    own_E p e below P (T.setTop (mkF m pc Ls st)) := by
  obtain ⟨cq, hq, hq'⟩ := hE.cell
  have hi : (Jvm.Cond.instantiable y.cls kn).before args s = true := mvT hZ w2
  obtain ⟨ck, kk, hck, hkk, -, hniab, -, -⟩ := Cond.instantiable_spec hi
  have hpriv : s.PrivateAt y := Cond.privateMethod_at (mvP hZ w5 (args := #[]))
  have hins : (Jvm.Cond.instanceMethod y).before args s = true := mvT hZ w6
  have hsel : (Jvm.Cond.selects y.cls y y).before args s = true := selects_self_of_private hck hkk (Bool.or_eq_false_iff.mp hniab).1 hpriv hins hy
  obtain ⟨v, _, ⟨T', L', k', n'⟩, -, X', ⟨L, hQ, h1, h2, h3⟩, stp⟩ := X.privateBack hx hown (mvT hZ w1) hins hsel hpriv (mvT hZ w4) hy (backOf (W := W) hM hZ w4 w3 hf hl) (g := mkF m pc Ls st) rfl hml (Steps.refl _) (a := a) (cell := cq) (by rw [hT]; exact hq) hq' (argsL := as) (rest := rest) (lenOf hpd hlen) hst hW hd (fun _ _ => ⟨rfl, hT, hc, hs⟩)
  dsimp only [Pt.U, Pt.locs, Pt.cells, Pt.slots] at X' h1 h2 h3 stp hQ
  subst h1 h2 h3
  exact own_t stp (k v T' L X' hQ)
/-! arrays: a length and a function from places to values -/
def own_IA (Z : State) (h : Heap) (a : Addr) (ty : FieldType) (n : Nat) (f : Nat → Int32) : Prop := ∃ cl : Cell, Arr Z h a cl ty ∧ cl.slots.size = n ∧ ∀ i, i < n → cl.slots[i]? = some (.int (f i))
def own_JA (Z : State) (h : Heap) (a : Addr) (n : Nat) (f : Nat → Int64) : Prop := ∃ cl : Cell, Arr Z h a cl .long ∧ cl.slots.size = n ∧ ∀ i, i < n → cl.slots[i]? = some (.long (f i))
def own_set {α : Type} (f : Nat → α) (i : Nat) (v : α) : Nat → α := fun q => if q = i then v else f q
theorem own_set_same {α : Type} (f : Nat → α) (i : Nat) (v : α) : own_set f i v i = v := by simp [own_set]
theorem own_set_other {α : Type} (f : Nat → α) {i q : Nat} (v : α) (hq : q ≠ i) : own_set f i v q = f q := by simp [own_set, hq]
variable {a b : Addr} {ty : FieldType} {n : Nat} {f : Nat → Int32} {fJ : Nat → Int64} {ws : List Addr} {sl : Nat} {v : Value}
theorem own_IA.lt (F : own_IA Z h a ty n f) : a < h.size := by obtain ⟨cl, A, -⟩ := F; exact A.lt
theorem own_JA.lt (F : own_JA Z h a n fJ) : a < h.size := by obtain ⟨cl, A, -⟩ := F; exact A.lt
theorem own_IA.ext (F : own_IA Z h a ty n f) (E : Ext h h') : own_IA Z h' a ty n f := by obtain ⟨cl, A, r⟩ := F; exact ⟨cl, A.ext E, r⟩
theorem own_JA.ext (F : own_JA Z h a n fJ) (E : Ext h h') : own_JA Z h' a n fJ := by obtain ⟨cl, A, r⟩ := F; exact ⟨cl, A.ext E, r⟩
theorem own_IA.other (F : own_IA Z h b ty n f) (W : Wr h h' a sl v) (q : b ≠ a) : own_IA Z h' b ty n f := by obtain ⟨cl, A, r⟩ := F; exact ⟨cl, A.other W q, r⟩
theorem own_JA.other (F : own_JA Z h b n fJ) (W : Wr h h' a sl v) (q : b ≠ a) : own_JA Z h' b n fJ := by obtain ⟨cl, A, r⟩ := F; exact ⟨cl, A.other W q, r⟩
theorem own_IA.keep (F : own_IA Z h a ty n f) (K : Keep h h' ws) (q : a ∉ ws) : own_IA Z h' a ty n f := by obtain ⟨cl, A, r⟩ := F; exact ⟨cl, ⟨K.2.1 a cl A.1 q, A.2⟩, r⟩
theorem own_JA.keep (F : own_JA Z h a n fJ) (K : Keep h h' ws) (q : a ∉ ws) : own_JA Z h' a n fJ := by obtain ⟨cl, A, r⟩ := F; exact ⟨cl, ⟨K.2.1 a cl A.1 q, A.2⟩, r⟩
theorem own_IA.congr {f' : Nat → Int32} (F : own_IA Z h a ty n f) (q : ∀ i, i < n → f i = f' i) : own_IA Z h a ty n f' := by obtain ⟨cl, A, S, H⟩ := F; exact ⟨cl, A, S, fun i hi => by rw [← q i hi]; exact H i hi⟩
theorem own_JA.congr {f' : Nat → Int64} (F : own_JA Z h a n fJ) (q : ∀ i, i < n → fJ i = f' i) : own_JA Z h a n f' := by obtain ⟨cl, A, S, H⟩ := F; exact ⟨cl, A, S, fun i hi => by rw [← q i hi]; exact H i hi⟩
theorem own_ins {cl : Cell} {j : Int32} {i : Nat} (S : cl.slots.size = n) (hj : ¬ j < 0) (hi : j.toNatClampNeg = i) (hin : i < n) : ¬ (j < 0 ∨ cl.slots.size ≤ j.toNatClampNeg) := by
  rintro (q | q)
  · exact hj q
  · rw [S, hi] at q; omega
theorem own_setI {cl : Cell} {i : Nat} {x : Int32} (W : Wr h h' a i (.int x)) (A : Arr Z h a cl ty) (S : cl.slots.size = n) (H : ∀ q, q < n → cl.slots[q]? = some (.int (f q))) : own_IA Z h' a ty n (own_set f i x) := by
  refine ⟨_, A.same W, by rw [sz_set]; exact S, fun q hq => ?_⟩
  by_cases u : q = i
  · subst u; simp [Cell.setSlot, own_set, S, hq]
  · rw [own_set_other _ _ u, ← H q hq]; exact Array.getElem?_setIfInBounds_ne (Ne.symm u)
theorem own_setJ {cl : Cell} {i : Nat} {x : Int64} (W : Wr h h' a i (.long x)) (A : Arr Z h a cl .long) (S : cl.slots.size = n) (H : ∀ q, q < n → cl.slots[q]? = some (.long (fJ q))) : own_JA Z h' a n (own_set fJ i x) := by
  refine ⟨_, A.same W, by rw [sz_set]; exact S, fun q hq => ?_⟩
  by_cases u : q = i
  · subst u; simp [Cell.setSlot, own_set, S, hq]
  · rw [own_set_other _ _ u, ← H q hq]; exact Array.getElem?_setIfInBounds_ne (Ne.symm u)
theorem own_newI (X : Stand p l e R s m args below meth c T locs cells slots) (hx : p.tables.exec = Jvm.exec) (hZ : Z.Warmed39 s.vm) (hT : T.heap = h) {aty : ArrayType} (w : (Jvm.Cond.arrayClass (newarray.typeOf aty)).before a0 Z = true) (hdv : defaultValue (newarray.typeOf aty) = .int 0) {pc : Nat} {Ls : Array Slot} {rest : List Value} {z : Int32} (hd : decode c.code pc = .ok (.newarray aty, 2)) (hz : ¬ z < 0) (hzn : z.toNatClampNeg = n) (cap : Nat) (hcap : n ≤ cap) (hb : cap * 8 ≤ 536870912) (hc : cells + 1 ≤ R.cells) (hl : slots + cap ≤ R.slots)
    (k : ∀ (T' : State) (h' : Heap) (a : Addr), a = h.size → Stand p l e R s m args below meth c T' locs (cells + 1) (slots + cap) → T'.heap = h' → Ext h h' → own_IA Z h' a (newarray.typeOf aty) n (fun _ => 0) → own_E p e below P (T'.setTop (mkF m (pc + 2) Ls (.ref a :: rest)))) :
    own_E p e below P (T.setTop (mkF m pc Ls (.int z :: rest))) := by
  obtain ⟨T', h', cA, X', e', E, A, st⟩ := newP X hx hZ w hT (g := mkF m pc Ls (.int z :: rest)) rfl hd rfl hz (cap := cap) (by rw [hzn]; exact hcap) hb hc hl
  refine own_s st (k T' h' _ rfl X' e' E ⟨_, A, by rw [sz_new, hzn], fun i hi => ?_⟩)
  simp [newA, hzn, hi, hdv]
theorem own_newJ (X : Stand p l e R s m args below meth c T locs cells slots) (hx : p.tables.exec = Jvm.exec) (hZ : Z.Warmed39 s.vm) (hT : T.heap = h) (w : (Jvm.Cond.arrayClass .long).before a0 Z = true) {pc : Nat} {Ls : Array Slot} {rest : List Value} {z : Int32} (hd : decode c.code pc = .ok (.newarray .long, 2)) (hz : ¬ z < 0) (hzn : z.toNatClampNeg = n) (cap : Nat) (hcap : n ≤ cap) (hb : cap * 8 ≤ 536870912) (hc : cells + 1 ≤ R.cells) (hl : slots + cap ≤ R.slots)
    (k : ∀ (T' : State) (h' : Heap) (a : Addr), a = h.size → Stand p l e R s m args below meth c T' locs (cells + 1) (slots + cap) → T'.heap = h' → Ext h h' → own_JA Z h' a n (fun _ => 0) → own_E p e below P (T'.setTop (mkF m (pc + 2) Ls (.ref a :: rest)))) :
    own_E p e below P (T.setTop (mkF m pc Ls (.int z :: rest))) := by
  obtain ⟨T', h', cA, X', e', E, A, st⟩ := newP X hx hZ (aty := .long) w hT (g := mkF m pc Ls (.int z :: rest)) rfl hd rfl hz (cap := cap) (by rw [hzn]; exact hcap) hb hc hl
  refine own_s st (k T' h' _ rfl X' e' E ⟨_, A, by rw [sz_new, hzn], fun i hi => ?_⟩)
  simp [newA, hzn, hi, newarray.typeOf, defaultValue]
theorem own_lenI (X : Stand p l e R s m args below meth c T locs cells slots) (hx : p.tables.exec = Jvm.exec) (hZ : Z.Warmed39 s.vm) (hT : T.heap = h) (F : own_IA Z h a ty n f) {pc : Nat} {Ls : Array Slot} {rest : List Value} (hd : decode c.code pc = .ok (.arraylength, 1)) {z : Int32} (hz : n.toInt32 = z) (k : own_E p e below P (T.setTop (mkF m (pc + 1) Ls (.int z :: rest)))) :
    own_E p e below P (T.setTop (mkF m pc Ls (.ref a :: rest))) := by
  obtain ⟨cl, A, S, H⟩ := F
  exact own_s (X.arraylength hx (cell := cl) (by rw [hT]; exact A.1) (State.isArrayOf_alike hZ.alike A.2.1) (g := mkF m pc Ls (.ref a :: rest)) rfl (rest := rest) rfl hd) (by rw [S, hz]; exact k)
theorem own_lenJ (X : Stand p l e R s m args below meth c T locs cells slots) (hx : p.tables.exec = Jvm.exec) (hZ : Z.Warmed39 s.vm) (hT : T.heap = h) (F : own_JA Z h a n fJ) {pc : Nat} {Ls : Array Slot} {rest : List Value} (hd : decode c.code pc = .ok (.arraylength, 1)) {z : Int32} (hz : n.toInt32 = z) (k : own_E p e below P (T.setTop (mkF m (pc + 1) Ls (.int z :: rest)))) :
    own_E p e below P (T.setTop (mkF m pc Ls (.ref a :: rest))) := by
  obtain ⟨cl, A, S, H⟩ := F
  exact own_s (X.arraylength hx (cell := cl) (by rw [hT]; exact A.1) (State.isArrayOf_alike hZ.alike A.2.1) (g := mkF m pc Ls (.ref a :: rest)) rfl (rest := rest) rfl hd) (by rw [S, hz]; exact k)
theorem own_ildI (X : Stand p l e R s m args below meth c T locs cells slots) (hx : p.tables.exec = Jvm.exec) (hZ : Z.Warmed39 s.vm) (hT : T.heap = h) (F : own_IA Z h a .int n f) {pc i : Nat} {Ls : Array Slot} {rest : List Value} {j x : Int32} (hd : decode c.code pc = .ok (.iaload, 1)) (hj : ¬ j < 0) (hi : j.toNatClampNeg = i) (hin : i < n) (hv : f i = x) (k : own_E p e below P (T.setTop (mkF m (pc + 1) Ls (.int x :: rest)))) :
    own_E p e below P (T.setTop (mkF m pc Ls (.int j :: .ref a :: rest))) := by
  obtain ⟨cl, A, S, H⟩ := F
  subst hv
  exact own_s (X.iaload hx (j := j) (v := .int (f i)) (by rw [hT]; exact A.1) (State.isArrayOf_alike hZ.alike A.2.1) A.2.2 (own_ins S hj hi hin) (by rw [hi]; exact H i hin) (g := mkF m pc Ls (.int j :: .ref a :: rest)) rfl rfl hd) k
theorem own_ildB (X : Stand p l e R s m args below meth c T locs cells slots) (hx : p.tables.exec = Jvm.exec) (hZ : Z.Warmed39 s.vm) (hT : T.heap = h) (F : own_IA Z h a .byte n f) {pc i : Nat} {Ls : Array Slot} {rest : List Value} {j x : Int32} (hd : decode c.code pc = .ok (.baload, 1)) (hj : ¬ j < 0) (hi : j.toNatClampNeg = i) (hin : i < n) (hv : f i = x) (k : own_E p e below P (T.setTop (mkF m (pc + 1) Ls (.int x :: rest)))) :
    own_E p e below P (T.setTop (mkF m pc Ls (.int j :: .ref a :: rest))) := by
  obtain ⟨cl, A, S, H⟩ := F
  subst hv
  exact own_s (X.baloadBytes hx (j := j) (v := .int (f i)) (by rw [hT]; exact A.1) (State.isArrayOf_alike hZ.alike A.2.1) A.2.2 (own_ins S hj hi hin) (by rw [hi]; exact H i hin) (g := mkF m pc Ls (.int j :: .ref a :: rest)) rfl rfl hd) k
theorem own_ildZ (X : Stand p l e R s m args below meth c T locs cells slots) (hx : p.tables.exec = Jvm.exec) (hZ : Z.Warmed39 s.vm) (hT : T.heap = h) (F : own_IA Z h a .boolean n f) {pc i : Nat} {Ls : Array Slot} {rest : List Value} {j x : Int32} (hd : decode c.code pc = .ok (.baload, 1)) (hj : ¬ j < 0) (hi : j.toNatClampNeg = i) (hin : i < n) (hv : f i = x) (k : own_E p e below P (T.setTop (mkF m (pc + 1) Ls (.int x :: rest)))) :
    own_E p e below P (T.setTop (mkF m pc Ls (.int j :: .ref a :: rest))) := by
  obtain ⟨cl, A, S, H⟩ := F
  subst hv
  exact own_s (X.baloadBooleans hx (j := j) (v := .int (f i)) (by rw [hT]; exact A.1) (State.isArrayOf_alike hZ.alike A.2.1) A.2.2 (own_ins S hj hi hin) (by rw [hi]; exact H i hin) (g := mkF m pc Ls (.int j :: .ref a :: rest)) rfl rfl hd) k
theorem own_ildJ (X : Stand p l e R s m args below meth c T locs cells slots) (hx : p.tables.exec = Jvm.exec) (hZ : Z.Warmed39 s.vm) (hT : T.heap = h) (F : own_JA Z h a n fJ) {pc i : Nat} {Ls : Array Slot} {rest : List Value} {j : Int32} {x : Int64} (hd : decode c.code pc = .ok (.laload, 1)) (hj : ¬ j < 0) (hi : j.toNatClampNeg = i) (hin : i < n) (hv : fJ i = x) (k : own_E p e below P (T.setTop (mkF m (pc + 1) Ls (.long x :: rest)))) :
    own_E p e below P (T.setTop (mkF m pc Ls (.int j :: .ref a :: rest))) := by
  obtain ⟨cl, A, S, H⟩ := F
  subst hv
  exact own_s (X.laload hx (j := j) (v := .long (fJ i)) (by rw [hT]; exact A.1) (State.isArrayOf_alike hZ.alike A.2.1) A.2.2 (own_ins S hj hi hin) (by rw [hi]; exact H i hin) (g := mkF m pc Ls (.int j :: .ref a :: rest)) rfl rfl hd) k
theorem own_stI (X : Stand p l e R s m args below meth c T locs cells slots) (hx : p.tables.exec = Jvm.exec) (hZ : Z.Warmed39 s.vm) (hT : T.heap = h) (F : own_IA Z h a .int n f) {pc i : Nat} {Ls : Array Slot} {rest : List Value} {j x : Int32} (hd : decode c.code pc = .ok (.iastore, 1)) (hj : ¬ j < 0) (hi : j.toNatClampNeg = i) (hin : i < n)
    (k : ∀ (T' : State) (h' : Heap), Stand p l e R s m args below meth c T' (locs ++ [⟨a, i⟩]) cells slots → T'.heap = h' → Wr h h' a i (.int x) → own_IA Z h' a .int n (own_set f i x) → own_E p e below P (T'.setTop (mkF m (pc + 1) Ls rest))) :
    own_E p e below P (T.setTop (mkF m pc Ls (.int x :: .int j :: .ref a :: rest))) := by
  obtain ⟨cl, A, S, H⟩ := F
  obtain ⟨T', h', X', e', W, st⟩ := stI X hx hZ hT A (j := j) (own_ins S hj hi hin) (g := mkF m pc Ls (.int x :: .int j :: .ref a :: rest)) rfl rfl hd
  subst hi
  exact own_s st (k T' h' X' e' W (own_setI W A S H))
theorem own_stB (X : Stand p l e R s m args below meth c T locs cells slots) (hx : p.tables.exec = Jvm.exec) (hZ : Z.Warmed39 s.vm) (hT : T.heap = h) (F : own_IA Z h a .byte n f) {pc i : Nat} {Ls : Array Slot} {rest : List Value} {j x : Int32} (hd : decode c.code pc = .ok (.bastore, 1)) (hj : ¬ j < 0) (hi : j.toNatClampNeg = i) (hin : i < n)
    (k : ∀ (T' : State) (h' : Heap), Stand p l e R s m args below meth c T' (locs ++ [⟨a, i⟩]) cells slots → T'.heap = h' → Wr h h' a i (.int (nar .byte x)) → own_IA Z h' a .byte n (own_set f i (nar .byte x)) → own_E p e below P (T'.setTop (mkF m (pc + 1) Ls rest))) :
    own_E p e below P (T.setTop (mkF m pc Ls (.int x :: .int j :: .ref a :: rest))) := by
  obtain ⟨cl, A, S, H⟩ := F
  obtain ⟨T', h', X', e', W, st⟩ := stB X hx hZ hT A (j := j) (own_ins S hj hi hin) (g := mkF m pc Ls (.int x :: .int j :: .ref a :: rest)) rfl rfl hd
  subst hi
  exact own_s st (k T' h' X' e' W (own_setI W A S H))
theorem own_stZ (X : Stand p l e R s m args below meth c T locs cells slots) (hx : p.tables.exec = Jvm.exec) (hZ : Z.Warmed39 s.vm) (hT : T.heap = h) (F : own_IA Z h a .boolean n f) {pc i : Nat} {Ls : Array Slot} {rest : List Value} {j x : Int32} (hd : decode c.code pc = .ok (.bastore, 1)) (hj : ¬ j < 0) (hi : j.toNatClampNeg = i) (hin : i < n)
    (k : ∀ (T' : State) (h' : Heap), Stand p l e R s m args below meth c T' (locs ++ [⟨a, i⟩]) cells slots → T'.heap = h' → Wr h h' a i (.int (nar .boolean x)) → own_IA Z h' a .boolean n (own_set f i (nar .boolean x)) → own_E p e below P (T'.setTop (mkF m (pc + 1) Ls rest))) :
    own_E p e below P (T.setTop (mkF m pc Ls (.int x :: .int j :: .ref a :: rest))) := by
  obtain ⟨cl, A, S, H⟩ := F
  obtain ⟨T', h', X', e', W, st⟩ := stZ X hx hZ hT A (j := j) (own_ins S hj hi hin) (g := mkF m pc Ls (.int x :: .int j :: .ref a :: rest)) rfl rfl hd
  subst hi
  exact own_s st (k T' h' X' e' W (own_setI W A S H))
theorem own_stJ (X : Stand p l e R s m args below meth c T locs cells slots) (hx : p.tables.exec = Jvm.exec) (hZ : Z.Warmed39 s.vm) (hT : T.heap = h) (F : own_JA Z h a n fJ) {pc i : Nat} {Ls : Array Slot} {rest : List Value} {j : Int32} {x : Int64} (hd : decode c.code pc = .ok (.lastore, 1)) (hj : ¬ j < 0) (hi : j.toNatClampNeg = i) (hin : i < n)
    (k : ∀ (T' : State) (h' : Heap), Stand p l e R s m args below meth c T' (locs ++ [⟨a, i⟩]) cells slots → T'.heap = h' → Wr h h' a i (.long x) → own_JA Z h' a n (own_set fJ i x) → own_E p e below P (T'.setTop (mkF m (pc + 1) Ls rest))) :
    own_E p e below P (T.setTop (mkF m pc Ls (.long x :: .int j :: .ref a :: rest))) := by
  obtain ⟨cl, A, S, H⟩ := F
  obtain ⟨T', h', X', e', W, st⟩ := stJ X hx hZ hT A (j := j) (own_ins S hj hi hin) (g := mkF m pc Ls (.long x :: .int j :: .ref a :: rest)) rfl rfl hd
  subst hi
  exact own_s st (k T' h' X' e' W (own_setJ W A S H))
theorem own_fr {k : Nat} {L : List Loc} {i : Nat} (N : Fr k L) (g : k ≤ a) : Fr k (L ++ [⟨a, i⟩]) := N.app fun y hy => by cases List.mem_singleton.mp hy; exact g
/-! longs compared -/
theorem own_lcT {x y : Int64} (q : x = y) : lcmpW x y = 0 := (lw_eq x y).mpr q
theorem own_lcF {x y : Int64} (q : ¬ x = y) : ¬ lcmpW x y = 0 := fun r => q ((lw_eq x y).mp r)
theorem own_llT {x y : Int64} (q : x < y) : lcmpW x y < 0 := (lw_lt x y).mpr q
theorem own_llF {x y : Int64} (q : ¬ x < y) : ¬ lcmpW x y < 0 := fun r => q ((lw_lt x y).mp r)
theorem own_lgT {x y : Int64} (q : y < x) : 0 < lcmpW x y := (lw_gt x y).mpr q
theorem own_lgF {x y : Int64} (q : ¬ y < x) : ¬ 0 < lcmpW x y := fun r => q ((lw_gt x y).mp r)
end Own
/-! ### small numbers -/
theorem own_mask (x : Int32) (M : Nat) (hM : M < 2 ^ 31) : ∃ n : Nat, n ≤ M ∧ (x &&& Int32.ofNat M) = Int32.ofNat n := by
  refine ⟨(x &&& Int32.ofNat M).toBitVec.toNat, ?_, ?_⟩
  · rw [Int32.toBitVec_and, BitVec.toNat_and, show (Int32.ofNat M).toBitVec = BitVec.ofNat 32 M from rfl, BitVec.toNat_ofNat, Nat.mod_eq_of_lt (by omega)]
    exact Nat.and_le_right
  · apply Int32.toBitVec_inj.mp
    show _ = BitVec.ofNat 32 _
    rw [BitVec.ofNat_toNat]; simp
theorem own_mod {n k : Nat} (hn : n < 2 ^ 31) (hk : k < 2 ^ 31) : Int32.ofNat n % Int32.ofNat k = Int32.ofNat (n % k) := by
  apply Int32.toInt_inj.mp
  have h1 : n % k ≤ n := Nat.mod_le _ _
  rw [Int32.toInt_mod, Int32.toInt_ofNat_of_lt (by omega), Int32.toInt_ofNat_of_lt (by omega), Int32.toInt_ofNat_of_lt (by omega)]
  exact (Int.ofNat_tmod n k).symm
theorem own_ushr (x : Int32) (s : UInt32) (hs : 0 < s.toNat % 32) : ∃ n : Nat, n < 2 ^ 31 ∧ (x.toUInt32 >>> s).toInt32 = Int32.ofNat n := by
  refine ⟨(x.toUInt32 >>> s).toNat, ?_, ?_⟩
  · rw [UInt32.toNat_shiftRight, Nat.shiftRight_eq_div_pow]
    have := x.toUInt32.toNat_lt
    have h2 : 2 ^ 1 ≤ 2 ^ (s.toNat % 32) := Nat.pow_le_pow_right (by decide) hs
    exact Nat.div_lt_of_lt_mul (by have := Nat.mul_le_mul_right (2 ^ 31) h2; omega)
  · apply Int32.toBitVec_inj.mp
    show (x.toUInt32 >>> s).toBitVec = BitVec.ofNat 32 _
    rw [show (x.toUInt32 >>> s).toNat = (x.toUInt32 >>> s).toBitVec.toNat from rfl, BitVec.ofNat_toNat]; simp
theorem own_nat32 {i : Nat} (h : i < 2 ^ 31) : ¬ Int32.ofNat i < 0 ∧ (Int32.ofNat i).toNatClampNeg = i := by
  rw [Int32.lt_iff_toInt_lt, Int32.toNatClampNeg, Int32.toInt_ofNat_of_lt (by omega)]
  refine ⟨?_, rfl⟩
  show ¬ ((i : Nat) : Int) < 0
  omega
theorem own_offN (x : Int32) (N : Nat) (h0 : 0 < N) (hN : N < 2 ^ 31) : ∃ i : Nat, i < N ∧ ((x &&& (2147483647 : Int32)) % Int32.ofNat N) = Int32.ofNat i := by
  obtain ⟨n, hn, e⟩ := own_mask x 2147483647 (by decide)
  refine ⟨n % N, Nat.mod_lt _ h0, ?_⟩
  rw [show (2147483647 : Int32) = Int32.ofNat 2147483647 from rfl, e, own_mod (by omega) hN]

def own_s1 (x : Int64) : Int64 := x <<< ((1 : Int32) &&& 0x3f).toInt64
def own_s2 (x y : Int64) : Int64 := (x <<< ((1 : Int32) &&& 0x3f).toInt64) ||| (y.toUInt64 >>> ((63 : Int32) &&& 0x3f).toInt64.toUInt64).toInt64
def own_carry (x : Int64) : Int64 := if x < 0 then 1 else 0
theorem own_e1 (x : Int64) : own_s1 x = x * 2 := by
  unfold own_s1
  apply Int64.toBitVec_inj.mp
  rw [show ((1 : Int32) &&& 0x3f).toInt64 = 1 from by decide, Int64.toBitVec_mul]
  apply BitVec.eq_of_toNat_eq
  simp [Nat.shiftLeft_eq]
theorem own_top (y : Int64) : (y.toUInt64 >>> ((63 : Int32) &&& 0x3f).toInt64.toUInt64).toInt64 = own_carry y := by
  apply Int64.toBitVec_inj.mp
  apply BitVec.eq_of_toNat_eq
  rw [show ((63 : Int32) &&& 0x3f).toInt64.toUInt64 = 63 from by decide]
  have e : ((y.toUInt64 >>> 63).toInt64.toBitVec).toNat = y.toBitVec.toNat / 2 ^ 63 := by simp [Nat.shiftRight_eq_div_pow]
  rw [e]
  have hl := y.toBitVec.isLt
  unfold own_carry
  have hy : y.toInt = y.toBitVec.toInt := rfl
  by_cases q : y < 0
  · rw [if_pos q]
    rw [Int64.lt_iff_toInt_lt, hy, BitVec.toInt_eq_toNat_cond, show (0 : Int64).toInt = 0 from rfl] at q
    show _ = 1
    split at q <;> omega
  · rw [if_neg q]
    rw [Int64.lt_iff_toInt_lt, hy, BitVec.toInt_eq_toNat_cond, show (0 : Int64).toInt = 0 from rfl] at q
    show _ = 0
    split at q <;> omega
theorem own_e2 (x y : Int64) : own_s2 x y = x * 2 + own_carry y := by
  unfold own_s2
  rw [own_top, show x <<< ((1 : Int32) &&& 0x3f).toInt64 = x * 2 from own_e1 x]
  have hc : own_carry y = 0 ∨ own_carry y = 1 := by unfold own_carry; split <;> simp
  apply Int64.toBitVec_inj.mp
  rw [Int64.toBitVec_or, Int64.toBitVec_add]
  symm
  apply BitVec.add_eq_or_of_and_eq_zero
  apply BitVec.eq_of_toNat_eq
  rw [BitVec.toNat_and, Int64.toBitVec_mul, BitVec.toNat_mul]
  show (x.toBitVec.toNat * 2) % 2 ^ 64 &&& (own_carry y).toBitVec.toNat = 0
  rcases hc with q | q <;> rw [q]
  · exact Nat.and_zero _
  · show _ &&& 1 = 0
    rw [Nat.and_one_is_mod]; omega
def own_dn (f : Nat → Int64) (q : Nat) : Int64 := if q = 0 then own_s1 (f 0) else own_s2 (f q) (f (q - 1))
theorem own_len4 (x : Int32) : ((x &&& (3 : Int32)) + (1 : Int32)) = 1 ∨ ((x &&& (3 : Int32)) + (1 : Int32)) = 2 ∨ ((x &&& (3 : Int32)) + (1 : Int32)) = 3 ∨ ((x &&& (3 : Int32)) + (1 : Int32)) = 4 := by
  obtain ⟨n, hn, e⟩ := own_mask x 3 (by decide)
  rw [show (x &&& (3 : Int32)) = Int32.ofNat n from e]
  have : n = 0 ∨ n = 1 ∨ n = 2 ∨ n = 3 := by omega
  rcases this with rfl | rfl | rfl | rfl <;> decide
theorem own_nn {i : Nat} (h : i < 1000) : ¬ Int32.ofNat i < 0 ∧ (Int32.ofNat i).toNatClampNeg = i := by
  rw [Int32.lt_iff_toInt_lt, Int32.toNatClampNeg, Int32.toInt_ofNat_of_lt (by omega)]
  refine ⟨?_, rfl⟩
  show ¬ ((i : Nat) : Int) < 0
  omega
theorem own_pos {i : Nat} (h : i < 1000) : (0 : Int32) < Int32.ofNat (i + 1) := by
  rw [Int32.lt_iff_toInt_lt, Int32.toInt_ofNat_of_lt (by omega)]
  show (0 : Int) < ((i + 1 : Nat) : Int)
  omega
theorem own_pred (i : Nat) : Int32.ofNat (i + 1) - (1 : Int32) = Int32.ofNat i := by
  rw [Int32.ofNat_add]; show Int32.ofNat i + 1 - 1 = Int32.ofNat i; rw [Int32.add_sub_cancel]
theorem own_dec (i : Nat) : Int32.ofNat (i + 1) + (-1 : Int32) = Int32.ofNat i := by
  rw [← own_pred i, Int32.sub_eq_add_neg]
theorem own_px {i : Nat} (h : i < 1000) : ¬ (Int32.ofNat (i + 1) - (1 : Int32)) < 0 ∧ (Int32.ofNat (i + 1) - (1 : Int32)).toNatClampNeg = i := by
  rw [own_pred]; exact own_nn h
theorem own_pn0 : plainName "com/example/deliver/deliver/topics/TopicLevelsGoDownPinLaw" = true := by first | (simp [plainName, overriddenIn]; done) | decide +kernel
theorem od_2_0 : decode method_2_code 0 = .ok (.lload_n 0, 1) := by decide +kernel
theorem od_2_1 : decode method_2_code 1 = .ok (.lconst 0, 1) := by decide +kernel
theorem od_2_2 : decode method_2_code 2 = .ok (.lcmp, 1) := by decide +kernel
theorem od_2_3 : decode method_2_code 3 = .ok (.ifCond .ge 7, 3) := by decide +kernel
theorem od_2_6 : decode method_2_code 6 = .ok (.lconst 1, 1) := by decide +kernel
theorem od_2_7 : decode method_2_code 7 = .ok (.goto 4, 3) := by decide +kernel
theorem od_2_11 : decode method_2_code 11 = .ok (.lreturn, 1) := by decide +kernel
theorem od_2_10 : decode method_2_code 10 = .ok (.lconst 0, 1) := by decide +kernel
set_option maxRecDepth 65536 in
set_option maxHeartbeats 40000000 in
theorem own_c_carry (l : Launch) (Z : State) (a0 : Array Value) (hw : ∀ d ∈ tables_1, d.before a0 Z = true) (x0 : Int64) (h0 : Heap) :
    own_Con l Z (⟨"com/example/deliver/deliver/topics/TopicLevelsGoDownPinLaw", "carry", "(J)J"⟩ : MethodName) method_2_code 2 (some .long) [] ({ frames := 0, cells := 0, slots := 0, locals := 0 } : Room) #[(.long x0)] h0 (fun v h L => v = some (.long (own_carry x0)) ∧ L = [] ∧ h = h0) := by
  refine own_enter (plainFor_of_name own_pn0) ?_
  intro p e s m below meth c s₁ X0 e0 hx hZ hby hml hown hnm hret hlk
  refine own_cast (g' := (mkF m 0 #[.val (.long x0), .second] [])) (by first | (simp [entryFrame, mkF, argsToLocals, Value.category]; done) | rfl) ?_
  refine own_g (mkF m 1 #[.val (.long x0), .second] [(.long x0)]) (fun _ kz => XS.lloadN X0.here hx rfl (hb hby od_2_0) rfl kz) ?_
  refine own_g (mkF m 2 #[.val (.long x0), .second] [(.long (0 : Int64)), (.long x0)]) (fun _ kz => XS.lconst X0.here hx rfl (hb hby od_2_1) kz) ?_
  refine own_g (mkF m 3 #[.val (.long x0), .second] [(.int (lcmpW x0 (0 : Int64)))]) (fun _ kz => XS.lcmp X0.here hx rfl (hb hby od_2_2) rfl kz) ?_
  by_cases hc3_1 : x0 < (0 : Int64)
  · refine own_g (mkF m 6 #[.val (.long x0), .second] []) (fun _ kz => XS.ifNo X0.here hx rfl (hb hby od_2_3) rfl ((if0 _ _).trans (tlt (own_llT hc3_1)).2.1) kz) ?_
    refine own_g (mkF m 7 #[.val (.long x0), .second] [(.long (1 : Int64))]) (fun _ kz => XS.lconst X0.here hx rfl (hb hby od_2_6) kz) ?_
    refine own_g (mkF m 11 #[.val (.long x0), .second] [(.long (1 : Int64))]) (fun _ kz => XS.goto X0.here hx rfl (pc0 := 7) (pc' := 11) rfl (hb hby od_2_7) (by decide) (by decide) kz) ?_
    exact own_retJ X0 hx hret hlk (hb hby od_2_11) (by decide) (by decide) (by first | exact ⟨by simp [own_carry, hc3_1], rfl, rfl⟩ | (rw [e0]; exact ⟨by simp [own_carry, hc3_1], rfl, rfl⟩))
  · refine own_g (mkF m 10 #[.val (.long x0), .second] []) (fun _ kz => XS.ifYes X0.here hx rfl (pc0 := 3) (pc' := 10) rfl (hb hby od_2_3) rfl ((if0 _ _).trans (flt (own_llF hc3_1)).2.1) (by decide) (by decide) kz) ?_
    refine own_g (mkF m 11 #[.val (.long x0), .second] [(.long (0 : Int64))]) (fun _ kz => XS.lconst X0.here hx rfl (hb hby od_2_10) kz) ?_
    exact own_retJ X0 hx hret hlk (hb hby od_2_11) (by decide) (by decide) (by first | exact ⟨by simp [own_carry, hc3_1], rfl, rfl⟩ | (rw [e0]; exact ⟨by simp [own_carry, hc3_1], rfl, rfl⟩))
theorem own_pn1 : plainName "com/example/deliver/deliver/topics/TopicLevels" = true := by first | (simp [plainName, overriddenIn]; done) | decide +kernel
theorem od_50_7_5 : decode prog_50_method_7_code 5 = .ok (.iload_n 1, 1) := by decide +kernel
theorem od_50_7_6 : decode prog_50_method_7_code 6 = .ok (.ifCond .le 26, 3) := by decide +kernel
theorem od_50_7_32 : decode prog_50_method_7_code 32 = .ok (.aload_n 0, 1) := by decide +kernel
theorem od_50_7_33 : decode prog_50_method_7_code 33 = .ok (.iconst 0, 1) := by decide +kernel
theorem od_50_7_34 : decode prog_50_method_7_code 34 = .ok (.dup2, 1) := by decide +kernel
theorem od_50_7_35 : decode prog_50_method_7_code 35 = .ok (.laload, 1) := by decide +kernel
theorem od_50_7_36 : decode prog_50_method_7_code 36 = .ok (.iconst 1, 1) := by decide +kernel
theorem od_50_7_37 : decode prog_50_method_7_code 37 = .ok (.lshl, 1) := by decide +kernel
theorem od_50_7_38 : decode prog_50_method_7_code 38 = .ok (.lastore, 1) := by decide +kernel
theorem od_50_7_39 : decode prog_50_method_7_code 39 = .ok (.return_, 1) := by decide +kernel
theorem od_50_7_9 : decode prog_50_method_7_code 9 = .ok (.aload_n 0, 1) := by decide +kernel
theorem od_50_7_10 : decode prog_50_method_7_code 10 = .ok (.iload_n 1, 1) := by decide +kernel
theorem od_50_7_11 : decode prog_50_method_7_code 11 = .ok (.aload_n 0, 1) := by decide +kernel
theorem od_50_7_12 : decode prog_50_method_7_code 12 = .ok (.iload_n 1, 1) := by decide +kernel
theorem od_50_7_13 : decode prog_50_method_7_code 13 = .ok (.laload, 1) := by decide +kernel
theorem od_50_7_14 : decode prog_50_method_7_code 14 = .ok (.iconst 1, 1) := by decide +kernel
theorem od_50_7_15 : decode prog_50_method_7_code 15 = .ok (.lshl, 1) := by decide +kernel
theorem od_50_7_16 : decode prog_50_method_7_code 16 = .ok (.aload_n 0, 1) := by decide +kernel
theorem od_50_7_17 : decode prog_50_method_7_code 17 = .ok (.iload_n 1, 1) := by decide +kernel
theorem od_50_7_18 : decode prog_50_method_7_code 18 = .ok (.iconst 1, 1) := by decide +kernel
theorem od_50_7_19 : decode prog_50_method_7_code 19 = .ok (.isub, 1) := by decide +kernel
theorem od_50_7_20 : decode prog_50_method_7_code 20 = .ok (.laload, 1) := by decide +kernel
theorem od_50_7_21 : decode prog_50_method_7_code 21 = .ok (.bipush 63, 2) := by decide +kernel
theorem od_50_7_23 : decode prog_50_method_7_code 23 = .ok (.lushr, 1) := by decide +kernel
theorem od_50_7_24 : decode prog_50_method_7_code 24 = .ok (.lor, 1) := by decide +kernel
theorem od_50_7_25 : decode prog_50_method_7_code 25 = .ok (.lastore, 1) := by decide +kernel
theorem od_50_7_26 : decode prog_50_method_7_code 26 = .ok (.iinc 1 (-1), 3) := by decide +kernel
theorem od_50_7_29 : decode prog_50_method_7_code 29 = .ok (.goto (-24), 3) := by decide +kernel
theorem od_50_7_0 : decode prog_50_method_7_code 0 = .ok (.aload_n 0, 1) := by decide +kernel
theorem od_50_7_1 : decode prog_50_method_7_code 1 = .ok (.arraylength, 1) := by decide +kernel
theorem od_50_7_2 : decode prog_50_method_7_code 2 = .ok (.iconst 1, 1) := by decide +kernel
theorem od_50_7_3 : decode prog_50_method_7_code 3 = .ok (.isub, 1) := by decide +kernel
theorem od_50_7_4 : decode prog_50_method_7_code 4 = .ok (.istore_n 1, 1) := by decide +kernel
set_option maxRecDepth 65536 in
set_option maxHeartbeats 40000000 in
theorem own_c_down (l : Launch) (Z : State) (a0 : Array Value) (hw : ∀ d ∈ tables_1, d.before a0 Z = true) (a1 : Addr) (n : Nat) (f : Nat → Int64) (h0 : Heap) (n0 : Nat) (Z0 : n0 ≤ h0.size) (hn1 : 1 ≤ n) (hn : n ≤ 4) (g1 : n0 ≤ a1) (A1 : own_JA Z h0 a1 n f) :
    own_Con l Z (⟨"com/example/deliver/deliver/topics/TopicLevels", "goDown", "([J)V"⟩ : MethodName) prog_50_method_7_code 2 none [] ({ frames := 0, cells := 0, slots := 0, locals := 0 } : Room) #[(.ref a1)] h0 (fun v h L => v = none ∧ Fr n0 L ∧ Keep h0 h [a1] ∧ own_JA Z h a1 n (own_dn f)) := by
  refine own_enter (plainFor_of_name own_pn1) ?_
  intro p e s m below meth c s₁ X0 e0 hx hZ hby hml hown hnm hret hlk
  refine own_cast (g' := (mkF m 0 #[.val (.ref a1), .unset] [])) (by first | (simp [entryFrame, mkF, argsToLocals, Value.category]; done) | rfl) ?_
  have N0 := Fr.nil n0
  have loop : ∀ (i : Nat) (T : State) (h : Heap) (L : List Loc), i < n → Stand p l e ({ frames := 0, cells := 0, slots := 0, locals := 0 } : Room) s m #[(.ref a1)] below meth c T L 0 0 → T.heap = h → n0 ≤ h.size → Fr n0 L → Keep h0 h [a1] → own_JA Z h a1 n (fun q => if i < q then own_dn f q else f q) → own_E p e below (own_P (fun v h L => v = none ∧ Fr n0 L ∧ Keep h0 h [a1] ∧ own_JA Z h a1 n (own_dn f)) s 0 0) (T.setTop (mkF m 5 #[.val (.ref a1), .val (.int (Int32.ofNat i))] [])) := by
    intro i
    induction i with
    | zero =>
      intro T h L hi X eT z N K A
      show own_E p e below _ (T.setTop (mkF m 5 #[.val (.ref a1), .val (.int (0 : Int32))] []))
      refine own_g (mkF m 6 #[.val (.ref a1), .val (.int (0 : Int32))] [(.int (0 : Int32))]) (fun _ kz => XS.iloadN X.here hx rfl (hb hby od_50_7_5) rfl kz) ?_
      refine own_g (mkF m 32 #[.val (.ref a1), .val (.int (0 : Int32))] []) (fun _ kz => XS.ifYes X.here hx rfl (pc0 := 6) (pc' := 32) rfl (hb hby od_50_7_6) rfl ((if0 _ _).trans (flt (by decide)).2.2.2) (by decide) (by decide) kz) ?_
      refine own_g (mkF m 33 #[.val (.ref a1), .val (.int (0 : Int32))] [(.ref a1)]) (fun _ kz => XS.aloadN X.here hx rfl (hb hby od_50_7_32) rfl rfl kz) ?_
      refine own_g (mkF m 34 #[.val (.ref a1), .val (.int (0 : Int32))] [(.int (0 : Int32)), (.ref a1)]) (fun _ kz => XS.iconst X.here hx rfl (hb hby od_50_7_33) kz) ?_
      refine own_g (mkF m 35 #[.val (.ref a1), .val (.int (0 : Int32))] [(.int (0 : Int32)), (.ref a1), (.int (0 : Int32)), (.ref a1)]) (fun _ kz => XT.dup2 X.here hx rfl (hb hby od_50_7_34) rfl rfl rfl kz) ?_
      refine own_ildJ X hx hZ eT A (hb hby od_50_7_35) (by decide) (i := 0) rfl (by omega) (x := (f 0)) (by first | (simp; done) | simp [show ¬ i + 1 < i by omega]) ?_
      show own_E p e below _ (T.setTop (mkF m 36 #[.val (.ref a1), .val (.int (0 : Int32))] [(.long (f 0)), (.int (0 : Int32)), (.ref a1)]))
      refine own_g (mkF m 37 #[.val (.ref a1), .val (.int (0 : Int32))] [(.int (1 : Int32)), (.long (f 0)), (.int (0 : Int32)), (.ref a1)]) (fun _ kz => XS.iconst X.here hx rfl (hb hby od_50_7_36) kz) ?_
      refine own_g (mkF m 38 #[.val (.ref a1), .val (.int (0 : Int32))] [(.long ((f 0) <<< ((1 : Int32) &&& 0x3f).toInt64)), (.int (0 : Int32)), (.ref a1)]) (fun _ kz => XS.lshl X.here hx rfl (hb hby od_50_7_37) rfl kz) ?_
      refine own_stJ X hx hZ eT A (hb hby od_50_7_38) (by decide) (i := 0) rfl (by omega) ?_
      intro T2 h2 X2 e2 W2 A2
      have N2 := Fr.snoc X2 N g1
      have s3 : n0 ≤ h2.size := Nat.le_trans z (Keep.of_wr W2).1
      have K4 := K.wr W2 (Or.inl (by simp))
      show own_E p e below _ (T2.setTop (mkF m 39 #[.val (.ref a1), .val (.int (0 : Int32))] []))
      exact own_retV X2 hx hret hlk (hb hby od_50_7_39) (by decide) (by decide) (by first | exact ⟨rfl, N2, K4, A2.congr fun q hq => by by_cases u : q = 0 <;> simp [own_set, own_dn, own_s1, u, Nat.pos_of_ne_zero]⟩ | (rw [e2]; exact ⟨rfl, N2, K4, A2.congr fun q hq => by by_cases u : q = 0 <;> simp [own_set, own_dn, own_s1, u, Nat.pos_of_ne_zero]⟩))
    | succ i ih =>
      intro T h L hi X eT z N K A
      refine own_g (mkF m 6 #[.val (.ref a1), .val (.int (Int32.ofNat (i + 1)))] [(.int (Int32.ofNat (i + 1)))]) (fun _ kz => XS.iloadN X.here hx rfl (hb hby od_50_7_5) rfl kz) ?_
      refine own_g (mkF m 9 #[.val (.ref a1), .val (.int (Int32.ofNat (i + 1)))] []) (fun _ kz => XS.ifNo X.here hx rfl (hb hby od_50_7_6) rfl ((if0 _ _).trans (tlt (own_pos (by omega))).2.2.2) kz) ?_
      refine own_g (mkF m 10 #[.val (.ref a1), .val (.int (Int32.ofNat (i + 1)))] [(.ref a1)]) (fun _ kz => XS.aloadN X.here hx rfl (hb hby od_50_7_9) rfl rfl kz) ?_
      refine own_g (mkF m 11 #[.val (.ref a1), .val (.int (Int32.ofNat (i + 1)))] [(.int (Int32.ofNat (i + 1))), (.ref a1)]) (fun _ kz => XS.iloadN X.here hx rfl (hb hby od_50_7_10) rfl kz) ?_
      refine own_g (mkF m 12 #[.val (.ref a1), .val (.int (Int32.ofNat (i + 1)))] [(.ref a1), (.int (Int32.ofNat (i + 1))), (.ref a1)]) (fun _ kz => XS.aloadN X.here hx rfl (hb hby od_50_7_11) rfl rfl kz) ?_
      refine own_g (mkF m 13 #[.val (.ref a1), .val (.int (Int32.ofNat (i + 1)))] [(.int (Int32.ofNat (i + 1))), (.ref a1), (.int (Int32.ofNat (i + 1))), (.ref a1)]) (fun _ kz => XS.iloadN X.here hx rfl (hb hby od_50_7_12) rfl kz) ?_
      refine own_ildJ X hx hZ eT A (hb hby od_50_7_13) (own_nn (by omega)).1 (i := (i + 1)) (own_nn (by omega)).2 hi (x := (f (i + 1))) (by first | (simp; done) | simp [show ¬ i + 1 < i by omega]) ?_
      show own_E p e below _ (T.setTop (mkF m 14 #[.val (.ref a1), .val (.int (Int32.ofNat (i + 1)))] [(.long (f (i + 1))), (.int (Int32.ofNat (i + 1))), (.ref a1)]))
      refine own_g (mkF m 15 #[.val (.ref a1), .val (.int (Int32.ofNat (i + 1)))] [(.int (1 : Int32)), (.long (f (i + 1))), (.int (Int32.ofNat (i + 1))), (.ref a1)]) (fun _ kz => XS.iconst X.here hx rfl (hb hby od_50_7_14) kz) ?_
      refine own_g (mkF m 16 #[.val (.ref a1), .val (.int (Int32.ofNat (i + 1)))] [(.long ((f (i + 1)) <<< ((1 : Int32) &&& 0x3f).toInt64)), (.int (Int32.ofNat (i + 1))), (.ref a1)]) (fun _ kz => XS.lshl X.here hx rfl (hb hby od_50_7_15) rfl kz) ?_
      refine own_g (mkF m 17 #[.val (.ref a1), .val (.int (Int32.ofNat (i + 1)))] [(.ref a1), (.long ((f (i + 1)) <<< ((1 : Int32) &&& 0x3f).toInt64)), (.int (Int32.ofNat (i + 1))), (.ref a1)]) (fun _ kz => XS.aloadN X.here hx rfl (hb hby od_50_7_16) rfl rfl kz) ?_
      refine own_g (mkF m 18 #[.val (.ref a1), .val (.int (Int32.ofNat (i + 1)))] [(.int (Int32.ofNat (i + 1))), (.ref a1), (.long ((f (i + 1)) <<< ((1 : Int32) &&& 0x3f).toInt64)), (.int (Int32.ofNat (i + 1))), (.ref a1)]) (fun _ kz => XS.iloadN X.here hx rfl (hb hby od_50_7_17) rfl kz) ?_
      refine own_g (mkF m 19 #[.val (.ref a1), .val (.int (Int32.ofNat (i + 1)))] [(.int (1 : Int32)), (.int (Int32.ofNat (i + 1))), (.ref a1), (.long ((f (i + 1)) <<< ((1 : Int32) &&& 0x3f).toInt64)), (.int (Int32.ofNat (i + 1))), (.ref a1)]) (fun _ kz => XS.iconst X.here hx rfl (hb hby od_50_7_18) kz) ?_
      refine own_g (mkF m 20 #[.val (.ref a1), .val (.int (Int32.ofNat (i + 1)))] [(.int ((Int32.ofNat (i + 1)) - (1 : Int32))), (.ref a1), (.long ((f (i + 1)) <<< ((1 : Int32) &&& 0x3f).toInt64)), (.int (Int32.ofNat (i + 1))), (.ref a1)]) (fun _ kz => XS.isub X.here hx rfl (hb hby od_50_7_19) rfl kz) ?_
      refine own_ildJ X hx hZ eT A (hb hby od_50_7_20) (own_px (by omega)).1 (i := i) (own_px (by omega)).2 (by omega) (x := (f i)) (by first | (simp; done) | simp [show ¬ i + 1 < i by omega]) ?_
      show own_E p e below _ (T.setTop (mkF m 21 #[.val (.ref a1), .val (.int (Int32.ofNat (i + 1)))] [(.long (f i)), (.long ((f (i + 1)) <<< ((1 : Int32) &&& 0x3f).toInt64)), (.int (Int32.ofNat (i + 1))), (.ref a1)]))
      refine own_g (mkF m 23 #[.val (.ref a1), .val (.int (Int32.ofNat (i + 1)))] [(.int (63 : Int32)), (.long (f i)), (.long ((f (i + 1)) <<< ((1 : Int32) &&& 0x3f).toInt64)), (.int (Int32.ofNat (i + 1))), (.ref a1)]) (fun _ kz => XS.bipush X.here hx rfl (hb hby od_50_7_21) kz) ?_
      refine own_g (mkF m 24 #[.val (.ref a1), .val (.int (Int32.ofNat (i + 1)))] [(.long (((f i).toUInt64 >>> ((63 : Int32) &&& 0x3f).toInt64.toUInt64).toInt64)), (.long ((f (i + 1)) <<< ((1 : Int32) &&& 0x3f).toInt64)), (.int (Int32.ofNat (i + 1))), (.ref a1)]) (fun _ kz => XS.lushr X.here hx rfl (hb hby od_50_7_23) rfl kz) ?_
      refine own_g (mkF m 25 #[.val (.ref a1), .val (.int (Int32.ofNat (i + 1)))] [(.long (((f (i + 1)) <<< ((1 : Int32) &&& 0x3f).toInt64) ||| (((f i).toUInt64 >>> ((63 : Int32) &&& 0x3f).toInt64.toUInt64).toInt64))), (.int (Int32.ofNat (i + 1))), (.ref a1)]) (fun _ kz => XS.lor X.here hx rfl (hb hby od_50_7_24) rfl kz) ?_
      refine own_stJ X hx hZ eT A (hb hby od_50_7_25) (own_nn (by omega)).1 (i := (i + 1)) (own_nn (by omega)).2 hi ?_
      intro T5 h5 X5 e5 W5 A5
      have N5 := Fr.snoc X5 N g1
      have s6 : n0 ≤ h5.size := Nat.le_trans z (Keep.of_wr W5).1
      have K7 := K.wr W5 (Or.inl (by simp))
      show own_E p e below _ (T5.setTop (mkF m 26 #[.val (.ref a1), .val (.int (Int32.ofNat (i + 1)))] []))
      refine own_g (mkF m 29 #[.val (.ref a1), .val (.int ((Int32.ofNat (i + 1)) + (-1 : Int32)))] []) (fun _ kz => XS.iinc X5.here hx rfl (hb hby od_50_7_26) rfl (l' := #[.val (.ref a1), .val (.int ((Int32.ofNat (i + 1)) + (-1 : Int32)))]) rfl kz) ?_
      refine own_g (mkF m 5 #[.val (.ref a1), .val (.int ((Int32.ofNat (i + 1)) + (-1 : Int32)))] []) (fun _ kz => XS.goto X5.here hx rfl (pc0 := 29) (pc' := 5) rfl (hb hby od_50_7_29) (by decide) (by decide) kz) ?_
      rw [own_dec]
      show own_E p e below _ (T5.setTop (mkF m 5 #[.val (.ref a1), .val (.int (Int32.ofNat i))] []))
      exact ih _ _ _ (by omega) X5 e5 s6 N5 K7 (A5.congr fun q hq => by
        by_cases u : q = i + 1
        · subst u; simp [own_set, own_dn, own_s2]
        · by_cases v : i + 1 < q
          · simp [own_set, u, v, show i < q by omega]
          · simp [own_set, u, v, show ¬ i < q by omega])
  refine own_g (mkF m 1 #[.val (.ref a1), .unset] [(.ref a1)]) (fun _ kz => XS.aloadN X0.here hx rfl (hb hby od_50_7_0) rfl rfl kz) ?_
  refine own_lenJ X0 hx hZ e0 A1 (hb hby od_50_7_1) (z := (Int32.ofNat n)) rfl ?_
  show own_E p e below _ (s₁.setTop (mkF m 2 #[.val (.ref a1), .unset] [(.int (Int32.ofNat n))]))
  refine own_g (mkF m 3 #[.val (.ref a1), .unset] [(.int (1 : Int32)), (.int (Int32.ofNat n))]) (fun _ kz => XS.iconst X0.here hx rfl (hb hby od_50_7_2) kz) ?_
  refine own_g (mkF m 4 #[.val (.ref a1), .unset] [(.int ((Int32.ofNat n) - (1 : Int32)))]) (fun _ kz => XS.isub X0.here hx rfl (hb hby od_50_7_3) rfl kz) ?_
  rw [show (Int32.ofNat n) - (1 : Int32) = Int32.ofNat (n - 1) from by obtain ⟨k, rfl⟩ : ∃ k, n = k + 1 := ⟨n - 1, by omega⟩; exact own_pred k]
  show own_E p e below _ (s₁.setTop (mkF m 4 #[.val (.ref a1), .unset] [(.int (Int32.ofNat (n - 1)))]))
  refine own_g (mkF m 5 #[.val (.ref a1), .val (.int (Int32.ofNat (n - 1)))] []) (fun _ kz => XS.istoreN X0.here hx rfl (hb hby od_50_7_4) rfl (l' := #[.val (.ref a1), .val (.int (Int32.ofNat (n - 1)))]) rfl kz) ?_
  exact loop (n - 1) _ _ _ (by omega) X0 e0 Z0 N0 (Keep.refl _ _) (A1.congr fun q hq => by simp [show ¬ n - 1 < q by omega])
theorem own_pd0 : parseMethodDescriptor "([J)V" = some ⟨[(.array .long)], none⟩ := by decide +kernel
theorem own_pd1 : parseMethodDescriptor "(J)J" = some ⟨[.long], some .long⟩ := by decide +kernel
set_option maxRecDepth 65536 in
set_option maxHeartbeats 40000000 in
theorem own_c_law (l : Launch) (Z : State) (a0 : Array Value) (hw : ∀ d ∈ tables_1, d.before a0 Z = true) (x0 : Int32) (x1 : Int64) (x2 : Int64) (x3 : Int64) (x4 : Int64) (h0 : Heap) (n0 : Nat) (Z0 : n0 ≤ h0.size) :
    own_Con l Z x code maxLocals ret tables_1 room_1 #[(.int x0), (.long x1), (.long x2), (.long x3), (.long x4)] h0 (fun v h L => v = some (.int 1) ∧ Fr n0 L) := by
  refine own_enter (plainFor_of_name own_pn0) ?_
  intro p e s m below meth c s₁ X0 e0 hx hZ hby hml hown hnm hret hlk
  refine own_cast (g' := (mkF m 0 #[.val (.int x0), .val (.long x1), .second, .val (.long x2), .second, .val (.long x3), .second, .val (.long x4), .second, .unset, .unset, .unset] [])) (by first | (simp [entryFrame, mkF, argsToLocals, Value.category, maxLocals]; done) | rfl) ?_
  have N0 := Fr.nil n0
  refine own_g (mkF m 1 #[.val (.int x0), .val (.long x1), .second, .val (.long x2), .second, .val (.long x3), .second, .val (.long x4), .second, .unset, .unset, .unset] [(.int x0)]) (fun _ kz => XS.iloadN X0.here hx rfl (hb hby at_0) rfl kz) ?_
  refine own_g (mkF m 2 #[.val (.int x0), .val (.long x1), .second, .val (.long x2), .second, .val (.long x3), .second, .val (.long x4), .second, .unset, .unset, .unset] [(.int (3 : Int32)), (.int x0)]) (fun _ kz => XS.iconst X0.here hx rfl (hb hby at_1) kz) ?_
  refine own_g (mkF m 3 #[.val (.int x0), .val (.long x1), .second, .val (.long x2), .second, .val (.long x3), .second, .val (.long x4), .second, .unset, .unset, .unset] [(.int (x0 &&& (3 : Int32)))]) (fun _ kz => XS.iand X0.here hx rfl (hb hby at_2) rfl kz) ?_
  refine own_g (mkF m 4 #[.val (.int x0), .val (.long x1), .second, .val (.long x2), .second, .val (.long x3), .second, .val (.long x4), .second, .unset, .unset, .unset] [(.int (1 : Int32)), (.int (x0 &&& (3 : Int32)))]) (fun _ kz => XS.iconst X0.here hx rfl (hb hby at_3) kz) ?_
  refine own_g (mkF m 5 #[.val (.int x0), .val (.long x1), .second, .val (.long x2), .second, .val (.long x3), .second, .val (.long x4), .second, .unset, .unset, .unset] [(.int ((x0 &&& (3 : Int32)) + (1 : Int32)))]) (fun _ kz => XS.iadd X0.here hx rfl (hb hby at_4) rfl kz) ?_
  rcases own_len4 x0 with hl | hl | hl | hl
  · rw [hl]
    show own_E p e below _ (s₁.setTop (mkF m 5 #[.val (.int x0), .val (.long x1), .second, .val (.long x2), .second, .val (.long x3), .second, .val (.long x4), .second, .unset, .unset, .unset] [(.int (1 : Int32))]))
    refine own_g (mkF m 7 #[.val (.int x0), .val (.long x1), .second, .val (.long x2), .second, .val (.long x3), .second, .val (.long x4), .second, .val (.int (1 : Int32)), .unset, .unset] []) (fun _ kz => XS.istore X0.here hx rfl (hb hby at_5) rfl (l' := #[.val (.int x0), .val (.long x1), .second, .val (.long x2), .second, .val (.long x3), .second, .val (.long x4), .second, .val (.int (1 : Int32)), .unset, .unset]) rfl kz) ?_
    refine own_g (mkF m 9 #[.val (.int x0), .val (.long x1), .second, .val (.long x2), .second, .val (.long x3), .second, .val (.long x4), .second, .val (.int (1 : Int32)), .unset, .unset] [(.int (1 : Int32))]) (fun _ kz => XS.iload X0.here hx rfl (hb hby at_7) rfl kz) ?_
    refine own_newJ X0 hx hZ e0 (own_w hw 0 rfl) (hb hby at_9) (by decide) (n := 1) rfl 1 (by decide) (by decide) (by decide) (by decide) ?_
    intro T8 h8 o8 g8 X8 e8 E8 A8
    have b9 : n0 ≤ o8 := Nat.le_trans Z0 (Nat.le_of_eq g8.symm)
    have s10 : n0 ≤ h8.size := Nat.le_trans Z0 E8.1
    show own_E p e below _ (T8.setTop (mkF m 11 #[.val (.int x0), .val (.long x1), .second, .val (.long x2), .second, .val (.long x3), .second, .val (.long x4), .second, .val (.int (1 : Int32)), .unset, .unset] [(.ref o8)]))
    refine own_g (mkF m 13 #[.val (.int x0), .val (.long x1), .second, .val (.long x2), .second, .val (.long x3), .second, .val (.long x4), .second, .val (.int (1 : Int32)), .val (.ref o8), .unset] []) (fun _ kz => XS.astore X8.here hx rfl (hb hby at_11) rfl rfl (l' := #[.val (.int x0), .val (.long x1), .second, .val (.long x2), .second, .val (.long x3), .second, .val (.long x4), .second, .val (.int (1 : Int32)), .val (.ref o8), .unset]) rfl kz) ?_
    refine own_g (mkF m 15 #[.val (.int x0), .val (.long x1), .second, .val (.long x2), .second, .val (.long x3), .second, .val (.long x4), .second, .val (.int (1 : Int32)), .val (.ref o8), .unset] [(.ref o8)]) (fun _ kz => XS.aload X8.here hx rfl (hb hby at_13) rfl rfl kz) ?_
    refine own_g (mkF m 16 #[.val (.int x0), .val (.long x1), .second, .val (.long x2), .second, .val (.long x3), .second, .val (.long x4), .second, .val (.int (1 : Int32)), .val (.ref o8), .unset] [(.int (0 : Int32)), (.ref o8)]) (fun _ kz => XS.iconst X8.here hx rfl (hb hby at_15) kz) ?_
    refine own_g (mkF m 17 #[.val (.int x0), .val (.long x1), .second, .val (.long x2), .second, .val (.long x3), .second, .val (.long x4), .second, .val (.int (1 : Int32)), .val (.ref o8), .unset] [(.long x1), (.int (0 : Int32)), (.ref o8)]) (fun _ kz => XS.lloadN X8.here hx rfl (hb hby at_16) rfl kz) ?_
    refine own_stJ X8 hx hZ e8 A8 (hb hby at_17) (by decide) (i := 0) rfl (by decide) ?_
    intro T11 h11 X11 e11 W11 A11
    have N11 := Fr.snoc X11 N0 b9
    have s12 : n0 ≤ h11.size := Nat.le_trans s10 (Keep.of_wr W11).1
    show own_E p e below _ (T11.setTop (mkF m 18 #[.val (.int x0), .val (.long x1), .second, .val (.long x2), .second, .val (.long x3), .second, .val (.long x4), .second, .val (.int (1 : Int32)), .val (.ref o8), .unset] []))
    refine own_g (mkF m 20 #[.val (.int x0), .val (.long x1), .second, .val (.long x2), .second, .val (.long x3), .second, .val (.long x4), .second, .val (.int (1 : Int32)), .val (.ref o8), .unset] [(.int (1 : Int32))]) (fun _ kz => XS.iload X11.here hx rfl (hb hby at_18) rfl kz) ?_
    refine own_g (mkF m 21 #[.val (.int x0), .val (.long x1), .second, .val (.long x2), .second, .val (.long x3), .second, .val (.long x4), .second, .val (.int (1 : Int32)), .val (.ref o8), .unset] [(.int (1 : Int32)), (.int (1 : Int32))]) (fun _ kz => XS.iconst X11.here hx rfl (hb hby at_20) kz) ?_
    refine own_g (mkF m 29 #[.val (.int x0), .val (.long x1), .second, .val (.long x2), .second, .val (.long x3), .second, .val (.long x4), .second, .val (.int (1 : Int32)), .val (.ref o8), .unset] []) (fun _ kz => XS.icmpYes X11.here hx rfl (pc0 := 21) (pc' := 29) rfl (hb hby at_21) rfl (flt (by decide)).2.2.2 (by decide) (by decide) kz) ?_
    refine own_g (mkF m 31 #[.val (.int x0), .val (.long x1), .second, .val (.long x2), .second, .val (.long x3), .second, .val (.long x4), .second, .val (.int (1 : Int32)), .val (.ref o8), .unset] [(.int (1 : Int32))]) (fun _ kz => XS.iload X11.here hx rfl (hb hby at_29) rfl kz) ?_
    refine own_g (mkF m 32 #[.val (.int x0), .val (.long x1), .second, .val (.long x2), .second, .val (.long x3), .second, .val (.long x4), .second, .val (.int (1 : Int32)), .val (.ref o8), .unset] [(.int (2 : Int32)), (.int (1 : Int32))]) (fun _ kz => XS.iconst X11.here hx rfl (hb hby at_31) kz) ?_
    refine own_g (mkF m 41 #[.val (.int x0), .val (.long x1), .second, .val (.long x2), .second, .val (.long x3), .second, .val (.long x4), .second, .val (.int (1 : Int32)), .val (.ref o8), .unset] []) (fun _ kz => XS.icmpYes X11.here hx rfl (pc0 := 32) (pc' := 41) rfl (hb hby at_32) rfl (flt (by decide)).2.2.2 (by decide) (by decide) kz) ?_
    refine own_g (mkF m 43 #[.val (.int x0), .val (.long x1), .second, .val (.long x2), .second, .val (.long x3), .second, .val (.long x4), .second, .val (.int (1 : Int32)), .val (.ref o8), .unset] [(.int (1 : Int32))]) (fun _ kz => XS.iload X11.here hx rfl (hb hby at_41) rfl kz) ?_
    refine own_g (mkF m 44 #[.val (.int x0), .val (.long x1), .second, .val (.long x2), .second, .val (.long x3), .second, .val (.long x4), .second, .val (.int (1 : Int32)), .val (.ref o8), .unset] [(.int (3 : Int32)), (.int (1 : Int32))]) (fun _ kz => XS.iconst X11.here hx rfl (hb hby at_43) kz) ?_
    refine own_g (mkF m 53 #[.val (.int x0), .val (.long x1), .second, .val (.long x2), .second, .val (.long x3), .second, .val (.long x4), .second, .val (.int (1 : Int32)), .val (.ref o8), .unset] []) (fun _ kz => XS.icmpYes X11.here hx rfl (pc0 := 44) (pc' := 53) rfl (hb hby at_44) rfl (flt (by decide)).2.2.2 (by decide) (by decide) kz) ?_
    refine own_g (mkF m 55 #[.val (.int x0), .val (.long x1), .second, .val (.long x2), .second, .val (.long x3), .second, .val (.long x4), .second, .val (.int (1 : Int32)), .val (.ref o8), .unset] [(.ref o8)]) (fun _ kz => XS.aload X11.here hx rfl (hb hby at_53) rfl rfl kz) ?_
    obtain ⟨F, hF, AF⟩ : ∃ F, F = (own_set (fun _ => (0 : Int64)) 0 x1) ∧ own_JA Z h11 o8 1 F := ⟨_, rfl, A11⟩
    have hF0 : F 0 = x1 := by rw [hF]; simp [own_set]
    refine own_callS (rest := []) (as := [(.ref o8)]) X11 hx hZ hown e11 (own_c_down l Z a0 hw o8 1 F h11 n0 s12 (by decide) (by decide) b9 AF) (own_w hw 1 rfl) (own_w hw 2 rfl) (own_w hw 3 rfl) (own_w hw 4 rfl) (by decide) own_pd0 rfl (by rw [hml]; rfl) rfl (hb hby at_55) 0 (by show 2 * 0 + _ ≤ _; exact Nat.le_of_eq rfl) (by decide) (by decide) (by decide) (by decide) ?_
    rintro _ T13 L13 X13 ⟨rfl, Nq13, K13, A13⟩
    have N13 := Fr.app N11 Nq13
    have s15 : n0 ≤ T13.heap.size := Nat.le_trans s12 K13.1
    show own_E p e below _ (T13.setTop (mkF m 58 #[.val (.int x0), .val (.long x1), .second, .val (.long x2), .second, .val (.long x3), .second, .val (.long x4), .second, .val (.int (1 : Int32)), .val (.ref o8), .unset] []))
    refine own_g (mkF m 60 #[.val (.int x0), .val (.long x1), .second, .val (.long x2), .second, .val (.long x3), .second, .val (.long x4), .second, .val (.int (1 : Int32)), .val (.ref o8), .unset] [(.ref o8)]) (fun _ kz => XS.aload X13.here hx rfl (hb hby at_58) rfl rfl kz) ?_
    refine own_lenJ X13 hx hZ rfl A13 (hb hby at_60) (z := (1 : Int32)) rfl ?_
    show own_E p e below _ (T13.setTop (mkF m 61 #[.val (.int x0), .val (.long x1), .second, .val (.long x2), .second, .val (.long x3), .second, .val (.long x4), .second, .val (.int (1 : Int32)), .val (.ref o8), .unset] [(.int (1 : Int32))]))
    refine own_g (mkF m 63 #[.val (.int x0), .val (.long x1), .second, .val (.long x2), .second, .val (.long x3), .second, .val (.long x4), .second, .val (.int (1 : Int32)), .val (.ref o8), .unset] [(.int (1 : Int32)), (.int (1 : Int32))]) (fun _ kz => XS.iload X13.here hx rfl (hb hby at_61) rfl kz) ?_
    refine own_g (mkF m 66 #[.val (.int x0), .val (.long x1), .second, .val (.long x2), .second, .val (.long x3), .second, .val (.long x4), .second, .val (.int (1 : Int32)), .val (.ref o8), .unset] []) (fun _ kz => XS.icmpNo X13.here hx rfl (hb hby at_63) rfl (teq (by decide)).2 kz) ?_
    refine own_g (mkF m 68 #[.val (.int x0), .val (.long x1), .second, .val (.long x2), .second, .val (.long x3), .second, .val (.long x4), .second, .val (.int (1 : Int32)), .val (.ref o8), .unset] [(.ref o8)]) (fun _ kz => XS.aload X13.here hx rfl (hb hby at_66) rfl rfl kz) ?_
    refine own_g (mkF m 69 #[.val (.int x0), .val (.long x1), .second, .val (.long x2), .second, .val (.long x3), .second, .val (.long x4), .second, .val (.int (1 : Int32)), .val (.ref o8), .unset] [(.int (0 : Int32)), (.ref o8)]) (fun _ kz => XS.iconst X13.here hx rfl (hb hby at_68) kz) ?_
    have hv16 : own_dn F 0 = (own_s1 x1) := by simp [own_dn, hF0]
    refine own_ildJ X13 hx hZ rfl A13 (hb hby at_69) (by decide) (i := 0) rfl (by decide) (x := (own_s1 x1)) hv16 ?_
    show own_E p e below _ (T13.setTop (mkF m 70 #[.val (.int x0), .val (.long x1), .second, .val (.long x2), .second, .val (.long x3), .second, .val (.long x4), .second, .val (.int (1 : Int32)), .val (.ref o8), .unset] [(.long (own_s1 x1))]))
    refine own_g (mkF m 71 #[.val (.int x0), .val (.long x1), .second, .val (.long x2), .second, .val (.long x3), .second, .val (.long x4), .second, .val (.int (1 : Int32)), .val (.ref o8), .unset] [(.long x1), (.long (own_s1 x1))]) (fun _ kz => XS.lloadN X13.here hx rfl (hb hby at_70) rfl kz) ?_
    refine own_g (mkF m 74 #[.val (.int x0), .val (.long x1), .second, .val (.long x2), .second, .val (.long x3), .second, .val (.long x4), .second, .val (.int (1 : Int32)), .val (.ref o8), .unset] [(.long (2 : Int64)), (.long x1), (.long (own_s1 x1))]) (fun _ kz => X13.ldc2Long hx hown (mvT hZ (own_w hw 5 rfl)) (g := (mkF m 71 #[.val (.int x0), .val (.long x1), .second, .val (.long x2), .second, .val (.long x3), .second, .val (.long x4), .second, .val (.int (1 : Int32)), .val (.ref o8), .unset] [(.long x1), (.long (own_s1 x1))])) rfl (hb hby at_71) _ kz) ?_
    refine own_g (mkF m 75 #[.val (.int x0), .val (.long x1), .second, .val (.long x2), .second, .val (.long x3), .second, .val (.long x4), .second, .val (.int (1 : Int32)), .val (.ref o8), .unset] [(.long (x1 * (2 : Int64))), (.long (own_s1 x1))]) (fun _ kz => XS.lmul X13.here hx rfl (hb hby at_74) rfl kz) ?_
    refine own_g (mkF m 76 #[.val (.int x0), .val (.long x1), .second, .val (.long x2), .second, .val (.long x3), .second, .val (.long x4), .second, .val (.int (1 : Int32)), .val (.ref o8), .unset] [(.int (lcmpW (own_s1 x1) (x1 * (2 : Int64))))]) (fun _ kz => XS.lcmp X13.here hx rfl (hb hby at_75) rfl kz) ?_
    refine own_g (mkF m 79 #[.val (.int x0), .val (.long x1), .second, .val (.long x2), .second, .val (.long x3), .second, .val (.long x4), .second, .val (.int (1 : Int32)), .val (.ref o8), .unset] []) (fun _ kz => XS.ifNo X13.here hx rfl (hb hby at_76) rfl ((if0 _ _).trans (teq (own_lcT (own_e1 _))).2) kz) ?_
    refine own_g (mkF m 80 #[.val (.int x0), .val (.long x1), .second, .val (.long x2), .second, .val (.long x3), .second, .val (.long x4), .second, .val (.int (1 : Int32)), .val (.ref o8), .unset] [(.int (1 : Int32))]) (fun _ kz => XS.iconst X13.here hx rfl (hb hby at_79) kz) ?_
    refine own_g (mkF m 84 #[.val (.int x0), .val (.long x1), .second, .val (.long x2), .second, .val (.long x3), .second, .val (.long x4), .second, .val (.int (1 : Int32)), .val (.ref o8), .unset] [(.int (1 : Int32))]) (fun _ kz => XS.goto X13.here hx rfl (pc0 := 80) (pc' := 84) rfl (hb hby at_80) (by decide) (by decide) kz) ?_
    refine own_g (mkF m 86 #[.val (.int x0), .val (.long x1), .second, .val (.long x2), .second, .val (.long x3), .second, .val (.long x4), .second, .val (.int (1 : Int32)), .val (.ref o8), .val (.int (1 : Int32))] []) (fun _ kz => XS.istore X13.here hx rfl (hb hby at_84) rfl (l' := #[.val (.int x0), .val (.long x1), .second, .val (.long x2), .second, .val (.long x3), .second, .val (.long x4), .second, .val (.int (1 : Int32)), .val (.ref o8), .val (.int (1 : Int32))]) rfl kz) ?_
    refine own_g (mkF m 88 #[.val (.int x0), .val (.long x1), .second, .val (.long x2), .second, .val (.long x3), .second, .val (.long x4), .second, .val (.int (1 : Int32)), .val (.ref o8), .val (.int (1 : Int32))] [(.int (1 : Int32))]) (fun _ kz => XS.iload X13.here hx rfl (hb hby at_86) rfl kz) ?_
    refine own_g (mkF m 89 #[.val (.int x0), .val (.long x1), .second, .val (.long x2), .second, .val (.long x3), .second, .val (.long x4), .second, .val (.int (1 : Int32)), .val (.ref o8), .val (.int (1 : Int32))] [(.int (1 : Int32)), (.int (1 : Int32))]) (fun _ kz => XS.iconst X13.here hx rfl (hb hby at_88) kz) ?_
    refine own_g (mkF m 122 #[.val (.int x0), .val (.long x1), .second, .val (.long x2), .second, .val (.long x3), .second, .val (.long x4), .second, .val (.int (1 : Int32)), .val (.ref o8), .val (.int (1 : Int32))] []) (fun _ kz => XS.icmpYes X13.here hx rfl (pc0 := 89) (pc' := 122) rfl (hb hby at_89) rfl (flt (by decide)).2.2.2 (by decide) (by decide) kz) ?_
    refine own_g (mkF m 124 #[.val (.int x0), .val (.long x1), .second, .val (.long x2), .second, .val (.long x3), .second, .val (.long x4), .second, .val (.int (1 : Int32)), .val (.ref o8), .val (.int (1 : Int32))] [(.int (1 : Int32))]) (fun _ kz => XS.iload X13.here hx rfl (hb hby at_122) rfl kz) ?_
    refine own_g (mkF m 125 #[.val (.int x0), .val (.long x1), .second, .val (.long x2), .second, .val (.long x3), .second, .val (.long x4), .second, .val (.int (1 : Int32)), .val (.ref o8), .val (.int (1 : Int32))] [(.int (2 : Int32)), (.int (1 : Int32))]) (fun _ kz => XS.iconst X13.here hx rfl (hb hby at_124) kz) ?_
    refine own_g (mkF m 159 #[.val (.int x0), .val (.long x1), .second, .val (.long x2), .second, .val (.long x3), .second, .val (.long x4), .second, .val (.int (1 : Int32)), .val (.ref o8), .val (.int (1 : Int32))] []) (fun _ kz => XS.icmpYes X13.here hx rfl (pc0 := 125) (pc' := 159) rfl (hb hby at_125) rfl (flt (by decide)).2.2.2 (by decide) (by decide) kz) ?_
    refine own_g (mkF m 161 #[.val (.int x0), .val (.long x1), .second, .val (.long x2), .second, .val (.long x3), .second, .val (.long x4), .second, .val (.int (1 : Int32)), .val (.ref o8), .val (.int (1 : Int32))] [(.int (1 : Int32))]) (fun _ kz => XS.iload X13.here hx rfl (hb hby at_159) rfl kz) ?_
    refine own_g (mkF m 162 #[.val (.int x0), .val (.long x1), .second, .val (.long x2), .second, .val (.long x3), .second, .val (.long x4), .second, .val (.int (1 : Int32)), .val (.ref o8), .val (.int (1 : Int32))] [(.int (3 : Int32)), (.int (1 : Int32))]) (fun _ kz => XS.iconst X13.here hx rfl (hb hby at_161) kz) ?_
    refine own_g (mkF m 197 #[.val (.int x0), .val (.long x1), .second, .val (.long x2), .second, .val (.long x3), .second, .val (.long x4), .second, .val (.int (1 : Int32)), .val (.ref o8), .val (.int (1 : Int32))] []) (fun _ kz => XS.icmpYes X13.here hx rfl (pc0 := 162) (pc' := 197) rfl (hb hby at_162) rfl (flt (by decide)).2.2.2 (by decide) (by decide) kz) ?_
    refine own_g (mkF m 199 #[.val (.int x0), .val (.long x1), .second, .val (.long x2), .second, .val (.long x3), .second, .val (.long x4), .second, .val (.int (1 : Int32)), .val (.ref o8), .val (.int (1 : Int32))] [(.int (1 : Int32))]) (fun _ kz => XS.iload X13.here hx rfl (hb hby at_197) rfl kz) ?_
    exact own_retZ X13 hx hret hlk (hb hby at_199) rfl (by decide) (by decide) ((⟨rfl, N13⟩))
  · rw [hl]
    show own_E p e below _ (s₁.setTop (mkF m 5 #[.val (.int x0), .val (.long x1), .second, .val (.long x2), .second, .val (.long x3), .second, .val (.long x4), .second, .unset, .unset, .unset] [(.int (2 : Int32))]))
    refine own_g (mkF m 7 #[.val (.int x0), .val (.long x1), .second, .val (.long x2), .second, .val (.long x3), .second, .val (.long x4), .second, .val (.int (2 : Int32)), .unset, .unset] []) (fun _ kz => XS.istore X0.here hx rfl (hb hby at_5) rfl (l' := #[.val (.int x0), .val (.long x1), .second, .val (.long x2), .second, .val (.long x3), .second, .val (.long x4), .second, .val (.int (2 : Int32)), .unset, .unset]) rfl kz) ?_
    refine own_g (mkF m 9 #[.val (.int x0), .val (.long x1), .second, .val (.long x2), .second, .val (.long x3), .second, .val (.long x4), .second, .val (.int (2 : Int32)), .unset, .unset] [(.int (2 : Int32))]) (fun _ kz => XS.iload X0.here hx rfl (hb hby at_7) rfl kz) ?_
    refine own_newJ X0 hx hZ e0 (own_w hw 0 rfl) (hb hby at_9) (by decide) (n := 2) rfl 2 (by decide) (by decide) (by decide) (by decide) ?_
    intro T17 h17 o17 g17 X17 e17 E17 A17
    have b18 : n0 ≤ o17 := Nat.le_trans Z0 (Nat.le_of_eq g17.symm)
    have s19 : n0 ≤ h17.size := Nat.le_trans Z0 E17.1
    show own_E p e below _ (T17.setTop (mkF m 11 #[.val (.int x0), .val (.long x1), .second, .val (.long x2), .second, .val (.long x3), .second, .val (.long x4), .second, .val (.int (2 : Int32)), .unset, .unset] [(.ref o17)]))
    refine own_g (mkF m 13 #[.val (.int x0), .val (.long x1), .second, .val (.long x2), .second, .val (.long x3), .second, .val (.long x4), .second, .val (.int (2 : Int32)), .val (.ref o17), .unset] []) (fun _ kz => XS.astore X17.here hx rfl (hb hby at_11) rfl rfl (l' := #[.val (.int x0), .val (.long x1), .second, .val (.long x2), .second, .val (.long x3), .second, .val (.long x4), .second, .val (.int (2 : Int32)), .val (.ref o17), .unset]) rfl kz) ?_
    refine own_g (mkF m 15 #[.val (.int x0), .val (.long x1), .second, .val (.long x2), .second, .val (.long x3), .second, .val (.long x4), .second, .val (.int (2 : Int32)), .val (.ref o17), .unset] [(.ref o17)]) (fun _ kz => XS.aload X17.here hx rfl (hb hby at_13) rfl rfl kz) ?_
    refine own_g (mkF m 16 #[.val (.int x0), .val (.long x1), .second, .val (.long x2), .second, .val (.long x3), .second, .val (.long x4), .second, .val (.int (2 : Int32)), .val (.ref o17), .unset] [(.int (0 : Int32)), (.ref o17)]) (fun _ kz => XS.iconst X17.here hx rfl (hb hby at_15) kz) ?_
    refine own_g (mkF m 17 #[.val (.int x0), .val (.long x1), .second, .val (.long x2), .second, .val (.long x3), .second, .val (.long x4), .second, .val (.int (2 : Int32)), .val (.ref o17), .unset] [(.long x1), (.int (0 : Int32)), (.ref o17)]) (fun _ kz => XS.lloadN X17.here hx rfl (hb hby at_16) rfl kz) ?_
    refine own_stJ X17 hx hZ e17 A17 (hb hby at_17) (by decide) (i := 0) rfl (by decide) ?_
    intro T20 h20 X20 e20 W20 A20
    have N20 := Fr.snoc X20 N0 b18
    have s21 : n0 ≤ h20.size := Nat.le_trans s19 (Keep.of_wr W20).1
    show own_E p e below _ (T20.setTop (mkF m 18 #[.val (.int x0), .val (.long x1), .second, .val (.long x2), .second, .val (.long x3), .second, .val (.long x4), .second, .val (.int (2 : Int32)), .val (.ref o17), .unset] []))
    refine own_g (mkF m 20 #[.val (.int x0), .val (.long x1), .second, .val (.long x2), .second, .val (.long x3), .second, .val (.long x4), .second, .val (.int (2 : Int32)), .val (.ref o17), .unset] [(.int (2 : Int32))]) (fun _ kz => XS.iload X20.here hx rfl (hb hby at_18) rfl kz) ?_
    refine own_g (mkF m 21 #[.val (.int x0), .val (.long x1), .second, .val (.long x2), .second, .val (.long x3), .second, .val (.long x4), .second, .val (.int (2 : Int32)), .val (.ref o17), .unset] [(.int (1 : Int32)), (.int (2 : Int32))]) (fun _ kz => XS.iconst X20.here hx rfl (hb hby at_20) kz) ?_
    refine own_g (mkF m 24 #[.val (.int x0), .val (.long x1), .second, .val (.long x2), .second, .val (.long x3), .second, .val (.long x4), .second, .val (.int (2 : Int32)), .val (.ref o17), .unset] []) (fun _ kz => XS.icmpNo X20.here hx rfl (hb hby at_21) rfl (tlt (by decide)).2.2.2 kz) ?_
    refine own_g (mkF m 26 #[.val (.int x0), .val (.long x1), .second, .val (.long x2), .second, .val (.long x3), .second, .val (.long x4), .second, .val (.int (2 : Int32)), .val (.ref o17), .unset] [(.ref o17)]) (fun _ kz => XS.aload X20.here hx rfl (hb hby at_24) rfl rfl kz) ?_
    refine own_g (mkF m 27 #[.val (.int x0), .val (.long x1), .second, .val (.long x2), .second, .val (.long x3), .second, .val (.long x4), .second, .val (.int (2 : Int32)), .val (.ref o17), .unset] [(.int (1 : Int32)), (.ref o17)]) (fun _ kz => XS.iconst X20.here hx rfl (hb hby at_26) kz) ?_
    refine own_g (mkF m 28 #[.val (.int x0), .val (.long x1), .second, .val (.long x2), .second, .val (.long x3), .second, .val (.long x4), .second, .val (.int (2 : Int32)), .val (.ref o17), .unset] [(.long x2), (.int (1 : Int32)), (.ref o17)]) (fun _ kz => XS.lloadN X20.here hx rfl (hb hby at_27) rfl kz) ?_
    refine own_stJ X20 hx hZ e20 A20 (hb hby at_28) (by decide) (i := 1) rfl (by decide) ?_
    intro T22 h22 X22 e22 W22 A22
    have N22 := Fr.snoc X22 N20 b18
    have s23 : n0 ≤ h22.size := Nat.le_trans s21 (Keep.of_wr W22).1
    show own_E p e below _ (T22.setTop (mkF m 29 #[.val (.int x0), .val (.long x1), .second, .val (.long x2), .second, .val (.long x3), .second, .val (.long x4), .second, .val (.int (2 : Int32)), .val (.ref o17), .unset] []))
    refine own_g (mkF m 31 #[.val (.int x0), .val (.long x1), .second, .val (.long x2), .second, .val (.long x3), .second, .val (.long x4), .second, .val (.int (2 : Int32)), .val (.ref o17), .unset] [(.int (2 : Int32))]) (fun _ kz => XS.iload X22.here hx rfl (hb hby at_29) rfl kz) ?_
    refine own_g (mkF m 32 #[.val (.int x0), .val (.long x1), .second, .val (.long x2), .second, .val (.long x3), .second, .val (.long x4), .second, .val (.int (2 : Int32)), .val (.ref o17), .unset] [(.int (2 : Int32)), (.int (2 : Int32))]) (fun _ kz => XS.iconst X22.here hx rfl (hb hby at_31) kz) ?_
    refine own_g (mkF m 41 #[.val (.int x0), .val (.long x1), .second, .val (.long x2), .second, .val (.long x3), .second, .val (.long x4), .second, .val (.int (2 : Int32)), .val (.ref o17), .unset] []) (fun _ kz => XS.icmpYes X22.here hx rfl (pc0 := 32) (pc' := 41) rfl (hb hby at_32) rfl (flt (by decide)).2.2.2 (by decide) (by decide) kz) ?_
    refine own_g (mkF m 43 #[.val (.int x0), .val (.long x1), .second, .val (.long x2), .second, .val (.long x3), .second, .val (.long x4), .second, .val (.int (2 : Int32)), .val (.ref o17), .unset] [(.int (2 : Int32))]) (fun _ kz => XS.iload X22.here hx rfl (hb hby at_41) rfl kz) ?_
    refine own_g (mkF m 44 #[.val (.int x0), .val (.long x1), .second, .val (.long x2), .second, .val (.long x3), .second, .val (.long x4), .second, .val (.int (2 : Int32)), .val (.ref o17), .unset] [(.int (3 : Int32)), (.int (2 : Int32))]) (fun _ kz => XS.iconst X22.here hx rfl (hb hby at_43) kz) ?_
    refine own_g (mkF m 53 #[.val (.int x0), .val (.long x1), .second, .val (.long x2), .second, .val (.long x3), .second, .val (.long x4), .second, .val (.int (2 : Int32)), .val (.ref o17), .unset] []) (fun _ kz => XS.icmpYes X22.here hx rfl (pc0 := 44) (pc' := 53) rfl (hb hby at_44) rfl (flt (by decide)).2.2.2 (by decide) (by decide) kz) ?_
    refine own_g (mkF m 55 #[.val (.int x0), .val (.long x1), .second, .val (.long x2), .second, .val (.long x3), .second, .val (.long x4), .second, .val (.int (2 : Int32)), .val (.ref o17), .unset] [(.ref o17)]) (fun _ kz => XS.aload X22.here hx rfl (hb hby at_53) rfl rfl kz) ?_
    obtain ⟨F, hF, AF⟩ : ∃ F, F = (own_set (own_set (fun _ => (0 : Int64)) 0 x1) 1 x2) ∧ own_JA Z h22 o17 2 F := ⟨_, rfl, A22⟩
    have hF0 : F 0 = x1 := by rw [hF]; simp [own_set]
    have hF1 : F 1 = x2 := by rw [hF]; simp [own_set]
    refine own_callS (rest := []) (as := [(.ref o17)]) X22 hx hZ hown e22 (own_c_down l Z a0 hw o17 2 F h22 n0 s23 (by decide) (by decide) b18 AF) (own_w hw 1 rfl) (own_w hw 2 rfl) (own_w hw 3 rfl) (own_w hw 4 rfl) (by decide) own_pd0 rfl (by rw [hml]; rfl) rfl (hb hby at_55) 0 (by show 2 * 0 + _ ≤ _; exact Nat.le_of_eq rfl) (by decide) (by decide) (by decide) (by decide) ?_
    rintro _ T24 L24 X24 ⟨rfl, Nq24, K24, A24⟩
    have N24 := Fr.app N22 Nq24
    have s26 : n0 ≤ T24.heap.size := Nat.le_trans s23 K24.1
    show own_E p e below _ (T24.setTop (mkF m 58 #[.val (.int x0), .val (.long x1), .second, .val (.long x2), .second, .val (.long x3), .second, .val (.long x4), .second, .val (.int (2 : Int32)), .val (.ref o17), .unset] []))
    refine own_g (mkF m 60 #[.val (.int x0), .val (.long x1), .second, .val (.long x2), .second, .val (.long x3), .second, .val (.long x4), .second, .val (.int (2 : Int32)), .val (.ref o17), .unset] [(.ref o17)]) (fun _ kz => XS.aload X24.here hx rfl (hb hby at_58) rfl rfl kz) ?_
    refine own_lenJ X24 hx hZ rfl A24 (hb hby at_60) (z := (2 : Int32)) rfl ?_
    show own_E p e below _ (T24.setTop (mkF m 61 #[.val (.int x0), .val (.long x1), .second, .val (.long x2), .second, .val (.long x3), .second, .val (.long x4), .second, .val (.int (2 : Int32)), .val (.ref o17), .unset] [(.int (2 : Int32))]))
    refine own_g (mkF m 63 #[.val (.int x0), .val (.long x1), .second, .val (.long x2), .second, .val (.long x3), .second, .val (.long x4), .second, .val (.int (2 : Int32)), .val (.ref o17), .unset] [(.int (2 : Int32)), (.int (2 : Int32))]) (fun _ kz => XS.iload X24.here hx rfl (hb hby at_61) rfl kz) ?_
    refine own_g (mkF m 66 #[.val (.int x0), .val (.long x1), .second, .val (.long x2), .second, .val (.long x3), .second, .val (.long x4), .second, .val (.int (2 : Int32)), .val (.ref o17), .unset] []) (fun _ kz => XS.icmpNo X24.here hx rfl (hb hby at_63) rfl (teq (by decide)).2 kz) ?_
    refine own_g (mkF m 68 #[.val (.int x0), .val (.long x1), .second, .val (.long x2), .second, .val (.long x3), .second, .val (.long x4), .second, .val (.int (2 : Int32)), .val (.ref o17), .unset] [(.ref o17)]) (fun _ kz => XS.aload X24.here hx rfl (hb hby at_66) rfl rfl kz) ?_
    refine own_g (mkF m 69 #[.val (.int x0), .val (.long x1), .second, .val (.long x2), .second, .val (.long x3), .second, .val (.long x4), .second, .val (.int (2 : Int32)), .val (.ref o17), .unset] [(.int (0 : Int32)), (.ref o17)]) (fun _ kz => XS.iconst X24.here hx rfl (hb hby at_68) kz) ?_
    have hv27 : own_dn F 0 = (own_s1 x1) := by simp [own_dn, hF0, hF1]
    refine own_ildJ X24 hx hZ rfl A24 (hb hby at_69) (by decide) (i := 0) rfl (by decide) (x := (own_s1 x1)) hv27 ?_
    show own_E p e below _ (T24.setTop (mkF m 70 #[.val (.int x0), .val (.long x1), .second, .val (.long x2), .second, .val (.long x3), .second, .val (.long x4), .second, .val (.int (2 : Int32)), .val (.ref o17), .unset] [(.long (own_s1 x1))]))
    refine own_g (mkF m 71 #[.val (.int x0), .val (.long x1), .second, .val (.long x2), .second, .val (.long x3), .second, .val (.long x4), .second, .val (.int (2 : Int32)), .val (.ref o17), .unset] [(.long x1), (.long (own_s1 x1))]) (fun _ kz => XS.lloadN X24.here hx rfl (hb hby at_70) rfl kz) ?_
    refine own_g (mkF m 74 #[.val (.int x0), .val (.long x1), .second, .val (.long x2), .second, .val (.long x3), .second, .val (.long x4), .second, .val (.int (2 : Int32)), .val (.ref o17), .unset] [(.long (2 : Int64)), (.long x1), (.long (own_s1 x1))]) (fun _ kz => X24.ldc2Long hx hown (mvT hZ (own_w hw 5 rfl)) (g := (mkF m 71 #[.val (.int x0), .val (.long x1), .second, .val (.long x2), .second, .val (.long x3), .second, .val (.long x4), .second, .val (.int (2 : Int32)), .val (.ref o17), .unset] [(.long x1), (.long (own_s1 x1))])) rfl (hb hby at_71) _ kz) ?_
    refine own_g (mkF m 75 #[.val (.int x0), .val (.long x1), .second, .val (.long x2), .second, .val (.long x3), .second, .val (.long x4), .second, .val (.int (2 : Int32)), .val (.ref o17), .unset] [(.long (x1 * (2 : Int64))), (.long (own_s1 x1))]) (fun _ kz => XS.lmul X24.here hx rfl (hb hby at_74) rfl kz) ?_
    refine own_g (mkF m 76 #[.val (.int x0), .val (.long x1), .second, .val (.long x2), .second, .val (.long x3), .second, .val (.long x4), .second, .val (.int (2 : Int32)), .val (.ref o17), .unset] [(.int (lcmpW (own_s1 x1) (x1 * (2 : Int64))))]) (fun _ kz => XS.lcmp X24.here hx rfl (hb hby at_75) rfl kz) ?_
    refine own_g (mkF m 79 #[.val (.int x0), .val (.long x1), .second, .val (.long x2), .second, .val (.long x3), .second, .val (.long x4), .second, .val (.int (2 : Int32)), .val (.ref o17), .unset] []) (fun _ kz => XS.ifNo X24.here hx rfl (hb hby at_76) rfl ((if0 _ _).trans (teq (own_lcT (own_e1 _))).2) kz) ?_
    refine own_g (mkF m 80 #[.val (.int x0), .val (.long x1), .second, .val (.long x2), .second, .val (.long x3), .second, .val (.long x4), .second, .val (.int (2 : Int32)), .val (.ref o17), .unset] [(.int (1 : Int32))]) (fun _ kz => XS.iconst X24.here hx rfl (hb hby at_79) kz) ?_
    refine own_g (mkF m 84 #[.val (.int x0), .val (.long x1), .second, .val (.long x2), .second, .val (.long x3), .second, .val (.long x4), .second, .val (.int (2 : Int32)), .val (.ref o17), .unset] [(.int (1 : Int32))]) (fun _ kz => XS.goto X24.here hx rfl (pc0 := 80) (pc' := 84) rfl (hb hby at_80) (by decide) (by decide) kz) ?_
    refine own_g (mkF m 86 #[.val (.int x0), .val (.long x1), .second, .val (.long x2), .second, .val (.long x3), .second, .val (.long x4), .second, .val (.int (2 : Int32)), .val (.ref o17), .val (.int (1 : Int32))] []) (fun _ kz => XS.istore X24.here hx rfl (hb hby at_84) rfl (l' := #[.val (.int x0), .val (.long x1), .second, .val (.long x2), .second, .val (.long x3), .second, .val (.long x4), .second, .val (.int (2 : Int32)), .val (.ref o17), .val (.int (1 : Int32))]) rfl kz) ?_
    refine own_g (mkF m 88 #[.val (.int x0), .val (.long x1), .second, .val (.long x2), .second, .val (.long x3), .second, .val (.long x4), .second, .val (.int (2 : Int32)), .val (.ref o17), .val (.int (1 : Int32))] [(.int (2 : Int32))]) (fun _ kz => XS.iload X24.here hx rfl (hb hby at_86) rfl kz) ?_
    refine own_g (mkF m 89 #[.val (.int x0), .val (.long x1), .second, .val (.long x2), .second, .val (.long x3), .second, .val (.long x4), .second, .val (.int (2 : Int32)), .val (.ref o17), .val (.int (1 : Int32))] [(.int (1 : Int32)), (.int (2 : Int32))]) (fun _ kz => XS.iconst X24.here hx rfl (hb hby at_88) kz) ?_
    refine own_g (mkF m 92 #[.val (.int x0), .val (.long x1), .second, .val (.long x2), .second, .val (.long x3), .second, .val (.long x4), .second, .val (.int (2 : Int32)), .val (.ref o17), .val (.int (1 : Int32))] []) (fun _ kz => XS.icmpNo X24.here hx rfl (hb hby at_89) rfl (tlt (by decide)).2.2.2 kz) ?_
    refine own_g (mkF m 94 #[.val (.int x0), .val (.long x1), .second, .val (.long x2), .second, .val (.long x3), .second, .val (.long x4), .second, .val (.int (2 : Int32)), .val (.ref o17), .val (.int (1 : Int32))] [(.int (1 : Int32))]) (fun _ kz => XS.iload X24.here hx rfl (hb hby at_92) rfl kz) ?_
    refine own_g (mkF m 97 #[.val (.int x0), .val (.long x1), .second, .val (.long x2), .second, .val (.long x3), .second, .val (.long x4), .second, .val (.int (2 : Int32)), .val (.ref o17), .val (.int (1 : Int32))] []) (fun _ kz => XS.ifNo X24.here hx rfl (hb hby at_94) rfl ((if0 _ _).trans (feq (by decide)).1) kz) ?_
    refine own_g (mkF m 99 #[.val (.int x0), .val (.long x1), .second, .val (.long x2), .second, .val (.long x3), .second, .val (.long x4), .second, .val (.int (2 : Int32)), .val (.ref o17), .val (.int (1 : Int32))] [(.ref o17)]) (fun _ kz => XS.aload X24.here hx rfl (hb hby at_97) rfl rfl kz) ?_
    refine own_g (mkF m 100 #[.val (.int x0), .val (.long x1), .second, .val (.long x2), .second, .val (.long x3), .second, .val (.long x4), .second, .val (.int (2 : Int32)), .val (.ref o17), .val (.int (1 : Int32))] [(.int (1 : Int32)), (.ref o17)]) (fun _ kz => XS.iconst X24.here hx rfl (hb hby at_99) kz) ?_
    have hv28 : own_dn F 1 = (own_s2 x2 x1) := by simp [own_dn, hF0, hF1]
    refine own_ildJ X24 hx hZ rfl A24 (hb hby at_100) (by decide) (i := 1) rfl (by decide) (x := (own_s2 x2 x1)) hv28 ?_
    show own_E p e below _ (T24.setTop (mkF m 101 #[.val (.int x0), .val (.long x1), .second, .val (.long x2), .second, .val (.long x3), .second, .val (.long x4), .second, .val (.int (2 : Int32)), .val (.ref o17), .val (.int (1 : Int32))] [(.long (own_s2 x2 x1))]))
    refine own_g (mkF m 102 #[.val (.int x0), .val (.long x1), .second, .val (.long x2), .second, .val (.long x3), .second, .val (.long x4), .second, .val (.int (2 : Int32)), .val (.ref o17), .val (.int (1 : Int32))] [(.long x2), (.long (own_s2 x2 x1))]) (fun _ kz => XS.lloadN X24.here hx rfl (hb hby at_101) rfl kz) ?_
    refine own_g (mkF m 105 #[.val (.int x0), .val (.long x1), .second, .val (.long x2), .second, .val (.long x3), .second, .val (.long x4), .second, .val (.int (2 : Int32)), .val (.ref o17), .val (.int (1 : Int32))] [(.long (2 : Int64)), (.long x2), (.long (own_s2 x2 x1))]) (fun _ kz => X24.ldc2Long hx hown (mvT hZ (own_w hw 5 rfl)) (g := (mkF m 102 #[.val (.int x0), .val (.long x1), .second, .val (.long x2), .second, .val (.long x3), .second, .val (.long x4), .second, .val (.int (2 : Int32)), .val (.ref o17), .val (.int (1 : Int32))] [(.long x2), (.long (own_s2 x2 x1))])) rfl (hb hby at_102) _ kz) ?_
    refine own_g (mkF m 106 #[.val (.int x0), .val (.long x1), .second, .val (.long x2), .second, .val (.long x3), .second, .val (.long x4), .second, .val (.int (2 : Int32)), .val (.ref o17), .val (.int (1 : Int32))] [(.long (x2 * (2 : Int64))), (.long (own_s2 x2 x1))]) (fun _ kz => XS.lmul X24.here hx rfl (hb hby at_105) rfl kz) ?_
    refine own_g (mkF m 107 #[.val (.int x0), .val (.long x1), .second, .val (.long x2), .second, .val (.long x3), .second, .val (.long x4), .second, .val (.int (2 : Int32)), .val (.ref o17), .val (.int (1 : Int32))] [(.long x1), (.long (x2 * (2 : Int64))), (.long (own_s2 x2 x1))]) (fun _ kz => XS.lloadN X24.here hx rfl (hb hby at_106) rfl kz) ?_
    refine own_callS (rest := [(.long (x2 * (2 : Int64))), (.long (own_s2 x2 x1))]) (as := [(.long x1)]) X24 hx hZ hown rfl (own_c_carry l Z a0 hw x1 T24.heap) (own_w hw 6 rfl) (own_w hw 7 rfl) (own_w hw 8 rfl) (own_w hw 9 rfl) (by decide) own_pd1 rfl (by rw [hml]; rfl) rfl (hb hby at_107) 4 (by show 2 * 0 + _ ≤ _; exact Nat.le_of_eq rfl) (by decide) (by decide) (by decide) (by decide) ?_
    rintro _ T29 L29 X29 ⟨rfl, rfl, e29⟩
    have N29 := Fr.app N24 (Fr.nil n0)
    show own_E p e below _ (T29.setTop (mkF m 110 #[.val (.int x0), .val (.long x1), .second, .val (.long x2), .second, .val (.long x3), .second, .val (.long x4), .second, .val (.int (2 : Int32)), .val (.ref o17), .val (.int (1 : Int32))] [(.long (own_carry x1)), (.long (x2 * (2 : Int64))), (.long (own_s2 x2 x1))]))
    refine own_g (mkF m 111 #[.val (.int x0), .val (.long x1), .second, .val (.long x2), .second, .val (.long x3), .second, .val (.long x4), .second, .val (.int (2 : Int32)), .val (.ref o17), .val (.int (1 : Int32))] [(.long ((x2 * (2 : Int64)) + (own_carry x1))), (.long (own_s2 x2 x1))]) (fun _ kz => XS.ladd X29.here hx rfl (hb hby at_110) rfl kz) ?_
    refine own_g (mkF m 112 #[.val (.int x0), .val (.long x1), .second, .val (.long x2), .second, .val (.long x3), .second, .val (.long x4), .second, .val (.int (2 : Int32)), .val (.ref o17), .val (.int (1 : Int32))] [(.int (lcmpW (own_s2 x2 x1) ((x2 * (2 : Int64)) + (own_carry x1))))]) (fun _ kz => XS.lcmp X29.here hx rfl (hb hby at_111) rfl kz) ?_
    refine own_g (mkF m 115 #[.val (.int x0), .val (.long x1), .second, .val (.long x2), .second, .val (.long x3), .second, .val (.long x4), .second, .val (.int (2 : Int32)), .val (.ref o17), .val (.int (1 : Int32))] []) (fun _ kz => XS.ifNo X29.here hx rfl (hb hby at_112) rfl ((if0 _ _).trans (teq (own_lcT (own_e2 _ _))).2) kz) ?_
    refine own_g (mkF m 116 #[.val (.int x0), .val (.long x1), .second, .val (.long x2), .second, .val (.long x3), .second, .val (.long x4), .second, .val (.int (2 : Int32)), .val (.ref o17), .val (.int (1 : Int32))] [(.int (1 : Int32))]) (fun _ kz => XS.iconst X29.here hx rfl (hb hby at_115) kz) ?_
    refine own_g (mkF m 120 #[.val (.int x0), .val (.long x1), .second, .val (.long x2), .second, .val (.long x3), .second, .val (.long x4), .second, .val (.int (2 : Int32)), .val (.ref o17), .val (.int (1 : Int32))] [(.int (1 : Int32))]) (fun _ kz => XS.goto X29.here hx rfl (pc0 := 116) (pc' := 120) rfl (hb hby at_116) (by decide) (by decide) kz) ?_
    refine own_g (mkF m 122 #[.val (.int x0), .val (.long x1), .second, .val (.long x2), .second, .val (.long x3), .second, .val (.long x4), .second, .val (.int (2 : Int32)), .val (.ref o17), .val (.int (1 : Int32))] []) (fun _ kz => XS.istore X29.here hx rfl (hb hby at_120) rfl (l' := #[.val (.int x0), .val (.long x1), .second, .val (.long x2), .second, .val (.long x3), .second, .val (.long x4), .second, .val (.int (2 : Int32)), .val (.ref o17), .val (.int (1 : Int32))]) rfl kz) ?_
    refine own_g (mkF m 124 #[.val (.int x0), .val (.long x1), .second, .val (.long x2), .second, .val (.long x3), .second, .val (.long x4), .second, .val (.int (2 : Int32)), .val (.ref o17), .val (.int (1 : Int32))] [(.int (2 : Int32))]) (fun _ kz => XS.iload X29.here hx rfl (hb hby at_122) rfl kz) ?_
    refine own_g (mkF m 125 #[.val (.int x0), .val (.long x1), .second, .val (.long x2), .second, .val (.long x3), .second, .val (.long x4), .second, .val (.int (2 : Int32)), .val (.ref o17), .val (.int (1 : Int32))] [(.int (2 : Int32)), (.int (2 : Int32))]) (fun _ kz => XS.iconst X29.here hx rfl (hb hby at_124) kz) ?_
    refine own_g (mkF m 159 #[.val (.int x0), .val (.long x1), .second, .val (.long x2), .second, .val (.long x3), .second, .val (.long x4), .second, .val (.int (2 : Int32)), .val (.ref o17), .val (.int (1 : Int32))] []) (fun _ kz => XS.icmpYes X29.here hx rfl (pc0 := 125) (pc' := 159) rfl (hb hby at_125) rfl (flt (by decide)).2.2.2 (by decide) (by decide) kz) ?_
    refine own_g (mkF m 161 #[.val (.int x0), .val (.long x1), .second, .val (.long x2), .second, .val (.long x3), .second, .val (.long x4), .second, .val (.int (2 : Int32)), .val (.ref o17), .val (.int (1 : Int32))] [(.int (2 : Int32))]) (fun _ kz => XS.iload X29.here hx rfl (hb hby at_159) rfl kz) ?_
    refine own_g (mkF m 162 #[.val (.int x0), .val (.long x1), .second, .val (.long x2), .second, .val (.long x3), .second, .val (.long x4), .second, .val (.int (2 : Int32)), .val (.ref o17), .val (.int (1 : Int32))] [(.int (3 : Int32)), (.int (2 : Int32))]) (fun _ kz => XS.iconst X29.here hx rfl (hb hby at_161) kz) ?_
    refine own_g (mkF m 197 #[.val (.int x0), .val (.long x1), .second, .val (.long x2), .second, .val (.long x3), .second, .val (.long x4), .second, .val (.int (2 : Int32)), .val (.ref o17), .val (.int (1 : Int32))] []) (fun _ kz => XS.icmpYes X29.here hx rfl (pc0 := 162) (pc' := 197) rfl (hb hby at_162) rfl (flt (by decide)).2.2.2 (by decide) (by decide) kz) ?_
    refine own_g (mkF m 199 #[.val (.int x0), .val (.long x1), .second, .val (.long x2), .second, .val (.long x3), .second, .val (.long x4), .second, .val (.int (2 : Int32)), .val (.ref o17), .val (.int (1 : Int32))] [(.int (1 : Int32))]) (fun _ kz => XS.iload X29.here hx rfl (hb hby at_197) rfl kz) ?_
    exact own_retZ X29 hx hret hlk (hb hby at_199) rfl (by decide) (by decide) (by first | exact ⟨rfl, N29⟩ | (rw [e29]; exact ⟨rfl, N29⟩))
  · rw [hl]
    show own_E p e below _ (s₁.setTop (mkF m 5 #[.val (.int x0), .val (.long x1), .second, .val (.long x2), .second, .val (.long x3), .second, .val (.long x4), .second, .unset, .unset, .unset] [(.int (3 : Int32))]))
    refine own_g (mkF m 7 #[.val (.int x0), .val (.long x1), .second, .val (.long x2), .second, .val (.long x3), .second, .val (.long x4), .second, .val (.int (3 : Int32)), .unset, .unset] []) (fun _ kz => XS.istore X0.here hx rfl (hb hby at_5) rfl (l' := #[.val (.int x0), .val (.long x1), .second, .val (.long x2), .second, .val (.long x3), .second, .val (.long x4), .second, .val (.int (3 : Int32)), .unset, .unset]) rfl kz) ?_
    refine own_g (mkF m 9 #[.val (.int x0), .val (.long x1), .second, .val (.long x2), .second, .val (.long x3), .second, .val (.long x4), .second, .val (.int (3 : Int32)), .unset, .unset] [(.int (3 : Int32))]) (fun _ kz => XS.iload X0.here hx rfl (hb hby at_7) rfl kz) ?_
    refine own_newJ X0 hx hZ e0 (own_w hw 0 rfl) (hb hby at_9) (by decide) (n := 3) rfl 3 (by decide) (by decide) (by decide) (by decide) ?_
    intro T30 h30 o30 g30 X30 e30 E30 A30
    have b31 : n0 ≤ o30 := Nat.le_trans Z0 (Nat.le_of_eq g30.symm)
    have s32 : n0 ≤ h30.size := Nat.le_trans Z0 E30.1
    show own_E p e below _ (T30.setTop (mkF m 11 #[.val (.int x0), .val (.long x1), .second, .val (.long x2), .second, .val (.long x3), .second, .val (.long x4), .second, .val (.int (3 : Int32)), .unset, .unset] [(.ref o30)]))
    refine own_g (mkF m 13 #[.val (.int x0), .val (.long x1), .second, .val (.long x2), .second, .val (.long x3), .second, .val (.long x4), .second, .val (.int (3 : Int32)), .val (.ref o30), .unset] []) (fun _ kz => XS.astore X30.here hx rfl (hb hby at_11) rfl rfl (l' := #[.val (.int x0), .val (.long x1), .second, .val (.long x2), .second, .val (.long x3), .second, .val (.long x4), .second, .val (.int (3 : Int32)), .val (.ref o30), .unset]) rfl kz) ?_
    refine own_g (mkF m 15 #[.val (.int x0), .val (.long x1), .second, .val (.long x2), .second, .val (.long x3), .second, .val (.long x4), .second, .val (.int (3 : Int32)), .val (.ref o30), .unset] [(.ref o30)]) (fun _ kz => XS.aload X30.here hx rfl (hb hby at_13) rfl rfl kz) ?_
    refine own_g (mkF m 16 #[.val (.int x0), .val (.long x1), .second, .val (.long x2), .second, .val (.long x3), .second, .val (.long x4), .second, .val (.int (3 : Int32)), .val (.ref o30), .unset] [(.int (0 : Int32)), (.ref o30)]) (fun _ kz => XS.iconst X30.here hx rfl (hb hby at_15) kz) ?_
    refine own_g (mkF m 17 #[.val (.int x0), .val (.long x1), .second, .val (.long x2), .second, .val (.long x3), .second, .val (.long x4), .second, .val (.int (3 : Int32)), .val (.ref o30), .unset] [(.long x1), (.int (0 : Int32)), (.ref o30)]) (fun _ kz => XS.lloadN X30.here hx rfl (hb hby at_16) rfl kz) ?_
    refine own_stJ X30 hx hZ e30 A30 (hb hby at_17) (by decide) (i := 0) rfl (by decide) ?_
    intro T33 h33 X33 e33 W33 A33
    have N33 := Fr.snoc X33 N0 b31
    have s34 : n0 ≤ h33.size := Nat.le_trans s32 (Keep.of_wr W33).1
    show own_E p e below _ (T33.setTop (mkF m 18 #[.val (.int x0), .val (.long x1), .second, .val (.long x2), .second, .val (.long x3), .second, .val (.long x4), .second, .val (.int (3 : Int32)), .val (.ref o30), .unset] []))
    refine own_g (mkF m 20 #[.val (.int x0), .val (.long x1), .second, .val (.long x2), .second, .val (.long x3), .second, .val (.long x4), .second, .val (.int (3 : Int32)), .val (.ref o30), .unset] [(.int (3 : Int32))]) (fun _ kz => XS.iload X33.here hx rfl (hb hby at_18) rfl kz) ?_
    refine own_g (mkF m 21 #[.val (.int x0), .val (.long x1), .second, .val (.long x2), .second, .val (.long x3), .second, .val (.long x4), .second, .val (.int (3 : Int32)), .val (.ref o30), .unset] [(.int (1 : Int32)), (.int (3 : Int32))]) (fun _ kz => XS.iconst X33.here hx rfl (hb hby at_20) kz) ?_
    refine own_g (mkF m 24 #[.val (.int x0), .val (.long x1), .second, .val (.long x2), .second, .val (.long x3), .second, .val (.long x4), .second, .val (.int (3 : Int32)), .val (.ref o30), .unset] []) (fun _ kz => XS.icmpNo X33.here hx rfl (hb hby at_21) rfl (tlt (by decide)).2.2.2 kz) ?_
    refine own_g (mkF m 26 #[.val (.int x0), .val (.long x1), .second, .val (.long x2), .second, .val (.long x3), .second, .val (.long x4), .second, .val (.int (3 : Int32)), .val (.ref o30), .unset] [(.ref o30)]) (fun _ kz => XS.aload X33.here hx rfl (hb hby at_24) rfl rfl kz) ?_
    refine own_g (mkF m 27 #[.val (.int x0), .val (.long x1), .second, .val (.long x2), .second, .val (.long x3), .second, .val (.long x4), .second, .val (.int (3 : Int32)), .val (.ref o30), .unset] [(.int (1 : Int32)), (.ref o30)]) (fun _ kz => XS.iconst X33.here hx rfl (hb hby at_26) kz) ?_
    refine own_g (mkF m 28 #[.val (.int x0), .val (.long x1), .second, .val (.long x2), .second, .val (.long x3), .second, .val (.long x4), .second, .val (.int (3 : Int32)), .val (.ref o30), .unset] [(.long x2), (.int (1 : Int32)), (.ref o30)]) (fun _ kz => XS.lloadN X33.here hx rfl (hb hby at_27) rfl kz) ?_
    refine own_stJ X33 hx hZ e33 A33 (hb hby at_28) (by decide) (i := 1) rfl (by decide) ?_
    intro T35 h35 X35 e35 W35 A35
    have N35 := Fr.snoc X35 N33 b31
    have s36 : n0 ≤ h35.size := Nat.le_trans s34 (Keep.of_wr W35).1
    show own_E p e below _ (T35.setTop (mkF m 29 #[.val (.int x0), .val (.long x1), .second, .val (.long x2), .second, .val (.long x3), .second, .val (.long x4), .second, .val (.int (3 : Int32)), .val (.ref o30), .unset] []))
    refine own_g (mkF m 31 #[.val (.int x0), .val (.long x1), .second, .val (.long x2), .second, .val (.long x3), .second, .val (.long x4), .second, .val (.int (3 : Int32)), .val (.ref o30), .unset] [(.int (3 : Int32))]) (fun _ kz => XS.iload X35.here hx rfl (hb hby at_29) rfl kz) ?_
    refine own_g (mkF m 32 #[.val (.int x0), .val (.long x1), .second, .val (.long x2), .second, .val (.long x3), .second, .val (.long x4), .second, .val (.int (3 : Int32)), .val (.ref o30), .unset] [(.int (2 : Int32)), (.int (3 : Int32))]) (fun _ kz => XS.iconst X35.here hx rfl (hb hby at_31) kz) ?_
    refine own_g (mkF m 35 #[.val (.int x0), .val (.long x1), .second, .val (.long x2), .second, .val (.long x3), .second, .val (.long x4), .second, .val (.int (3 : Int32)), .val (.ref o30), .unset] []) (fun _ kz => XS.icmpNo X35.here hx rfl (hb hby at_32) rfl (tlt (by decide)).2.2.2 kz) ?_
    refine own_g (mkF m 37 #[.val (.int x0), .val (.long x1), .second, .val (.long x2), .second, .val (.long x3), .second, .val (.long x4), .second, .val (.int (3 : Int32)), .val (.ref o30), .unset] [(.ref o30)]) (fun _ kz => XS.aload X35.here hx rfl (hb hby at_35) rfl rfl kz) ?_
    refine own_g (mkF m 38 #[.val (.int x0), .val (.long x1), .second, .val (.long x2), .second, .val (.long x3), .second, .val (.long x4), .second, .val (.int (3 : Int32)), .val (.ref o30), .unset] [(.int (2 : Int32)), (.ref o30)]) (fun _ kz => XS.iconst X35.here hx rfl (hb hby at_37) kz) ?_
    refine own_g (mkF m 40 #[.val (.int x0), .val (.long x1), .second, .val (.long x2), .second, .val (.long x3), .second, .val (.long x4), .second, .val (.int (3 : Int32)), .val (.ref o30), .unset] [(.long x3), (.int (2 : Int32)), (.ref o30)]) (fun _ kz => XS.lload X35.here hx rfl (hb hby at_38) rfl kz) ?_
    refine own_stJ X35 hx hZ e35 A35 (hb hby at_40) (by decide) (i := 2) rfl (by decide) ?_
    intro T37 h37 X37 e37 W37 A37
    have N37 := Fr.snoc X37 N35 b31
    have s38 : n0 ≤ h37.size := Nat.le_trans s36 (Keep.of_wr W37).1
    show own_E p e below _ (T37.setTop (mkF m 41 #[.val (.int x0), .val (.long x1), .second, .val (.long x2), .second, .val (.long x3), .second, .val (.long x4), .second, .val (.int (3 : Int32)), .val (.ref o30), .unset] []))
    refine own_g (mkF m 43 #[.val (.int x0), .val (.long x1), .second, .val (.long x2), .second, .val (.long x3), .second, .val (.long x4), .second, .val (.int (3 : Int32)), .val (.ref o30), .unset] [(.int (3 : Int32))]) (fun _ kz => XS.iload X37.here hx rfl (hb hby at_41) rfl kz) ?_
    refine own_g (mkF m 44 #[.val (.int x0), .val (.long x1), .second, .val (.long x2), .second, .val (.long x3), .second, .val (.long x4), .second, .val (.int (3 : Int32)), .val (.ref o30), .unset] [(.int (3 : Int32)), (.int (3 : Int32))]) (fun _ kz => XS.iconst X37.here hx rfl (hb hby at_43) kz) ?_
    refine own_g (mkF m 53 #[.val (.int x0), .val (.long x1), .second, .val (.long x2), .second, .val (.long x3), .second, .val (.long x4), .second, .val (.int (3 : Int32)), .val (.ref o30), .unset] []) (fun _ kz => XS.icmpYes X37.here hx rfl (pc0 := 44) (pc' := 53) rfl (hb hby at_44) rfl (flt (by decide)).2.2.2 (by decide) (by decide) kz) ?_
    refine own_g (mkF m 55 #[.val (.int x0), .val (.long x1), .second, .val (.long x2), .second, .val (.long x3), .second, .val (.long x4), .second, .val (.int (3 : Int32)), .val (.ref o30), .unset] [(.ref o30)]) (fun _ kz => XS.aload X37.here hx rfl (hb hby at_53) rfl rfl kz) ?_
    obtain ⟨F, hF, AF⟩ : ∃ F, F = (own_set (own_set (own_set (fun _ => (0 : Int64)) 0 x1) 1 x2) 2 x3) ∧ own_JA Z h37 o30 3 F := ⟨_, rfl, A37⟩
    have hF0 : F 0 = x1 := by rw [hF]; simp [own_set]
    have hF1 : F 1 = x2 := by rw [hF]; simp [own_set]
    have hF2 : F 2 = x3 := by rw [hF]; simp [own_set]
    refine own_callS (rest := []) (as := [(.ref o30)]) X37 hx hZ hown e37 (own_c_down l Z a0 hw o30 3 F h37 n0 s38 (by decide) (by decide) b31 AF) (own_w hw 1 rfl) (own_w hw 2 rfl) (own_w hw 3 rfl) (own_w hw 4 rfl) (by decide) own_pd0 rfl (by rw [hml]; rfl) rfl (hb hby at_55) 0 (by show 2 * 0 + _ ≤ _; exact Nat.le_of_eq rfl) (by decide) (by decide) (by decide) (by decide) ?_
    rintro _ T39 L39 X39 ⟨rfl, Nq39, K39, A39⟩
    have N39 := Fr.app N37 Nq39
    have s41 : n0 ≤ T39.heap.size := Nat.le_trans s38 K39.1
    show own_E p e below _ (T39.setTop (mkF m 58 #[.val (.int x0), .val (.long x1), .second, .val (.long x2), .second, .val (.long x3), .second, .val (.long x4), .second, .val (.int (3 : Int32)), .val (.ref o30), .unset] []))
    refine own_g (mkF m 60 #[.val (.int x0), .val (.long x1), .second, .val (.long x2), .second, .val (.long x3), .second, .val (.long x4), .second, .val (.int (3 : Int32)), .val (.ref o30), .unset] [(.ref o30)]) (fun _ kz => XS.aload X39.here hx rfl (hb hby at_58) rfl rfl kz) ?_
    refine own_lenJ X39 hx hZ rfl A39 (hb hby at_60) (z := (3 : Int32)) rfl ?_
    show own_E p e below _ (T39.setTop (mkF m 61 #[.val (.int x0), .val (.long x1), .second, .val (.long x2), .second, .val (.long x3), .second, .val (.long x4), .second, .val (.int (3 : Int32)), .val (.ref o30), .unset] [(.int (3 : Int32))]))
    refine own_g (mkF m 63 #[.val (.int x0), .val (.long x1), .second, .val (.long x2), .second, .val (.long x3), .second, .val (.long x4), .second, .val (.int (3 : Int32)), .val (.ref o30), .unset] [(.int (3 : Int32)), (.int (3 : Int32))]) (fun _ kz => XS.iload X39.here hx rfl (hb hby at_61) rfl kz) ?_
    refine own_g (mkF m 66 #[.val (.int x0), .val (.long x1), .second, .val (.long x2), .second, .val (.long x3), .second, .val (.long x4), .second, .val (.int (3 : Int32)), .val (.ref o30), .unset] []) (fun _ kz => XS.icmpNo X39.here hx rfl (hb hby at_63) rfl (teq (by decide)).2 kz) ?_
    refine own_g (mkF m 68 #[.val (.int x0), .val (.long x1), .second, .val (.long x2), .second, .val (.long x3), .second, .val (.long x4), .second, .val (.int (3 : Int32)), .val (.ref o30), .unset] [(.ref o30)]) (fun _ kz => XS.aload X39.here hx rfl (hb hby at_66) rfl rfl kz) ?_
    refine own_g (mkF m 69 #[.val (.int x0), .val (.long x1), .second, .val (.long x2), .second, .val (.long x3), .second, .val (.long x4), .second, .val (.int (3 : Int32)), .val (.ref o30), .unset] [(.int (0 : Int32)), (.ref o30)]) (fun _ kz => XS.iconst X39.here hx rfl (hb hby at_68) kz) ?_
    have hv42 : own_dn F 0 = (own_s1 x1) := by simp [own_dn, hF0, hF1, hF2]
    refine own_ildJ X39 hx hZ rfl A39 (hb hby at_69) (by decide) (i := 0) rfl (by decide) (x := (own_s1 x1)) hv42 ?_
    show own_E p e below _ (T39.setTop (mkF m 70 #[.val (.int x0), .val (.long x1), .second, .val (.long x2), .second, .val (.long x3), .second, .val (.long x4), .second, .val (.int (3 : Int32)), .val (.ref o30), .unset] [(.long (own_s1 x1))]))
    refine own_g (mkF m 71 #[.val (.int x0), .val (.long x1), .second, .val (.long x2), .second, .val (.long x3), .second, .val (.long x4), .second, .val (.int (3 : Int32)), .val (.ref o30), .unset] [(.long x1), (.long (own_s1 x1))]) (fun _ kz => XS.lloadN X39.here hx rfl (hb hby at_70) rfl kz) ?_
    refine own_g (mkF m 74 #[.val (.int x0), .val (.long x1), .second, .val (.long x2), .second, .val (.long x3), .second, .val (.long x4), .second, .val (.int (3 : Int32)), .val (.ref o30), .unset] [(.long (2 : Int64)), (.long x1), (.long (own_s1 x1))]) (fun _ kz => X39.ldc2Long hx hown (mvT hZ (own_w hw 5 rfl)) (g := (mkF m 71 #[.val (.int x0), .val (.long x1), .second, .val (.long x2), .second, .val (.long x3), .second, .val (.long x4), .second, .val (.int (3 : Int32)), .val (.ref o30), .unset] [(.long x1), (.long (own_s1 x1))])) rfl (hb hby at_71) _ kz) ?_
    refine own_g (mkF m 75 #[.val (.int x0), .val (.long x1), .second, .val (.long x2), .second, .val (.long x3), .second, .val (.long x4), .second, .val (.int (3 : Int32)), .val (.ref o30), .unset] [(.long (x1 * (2 : Int64))), (.long (own_s1 x1))]) (fun _ kz => XS.lmul X39.here hx rfl (hb hby at_74) rfl kz) ?_
    refine own_g (mkF m 76 #[.val (.int x0), .val (.long x1), .second, .val (.long x2), .second, .val (.long x3), .second, .val (.long x4), .second, .val (.int (3 : Int32)), .val (.ref o30), .unset] [(.int (lcmpW (own_s1 x1) (x1 * (2 : Int64))))]) (fun _ kz => XS.lcmp X39.here hx rfl (hb hby at_75) rfl kz) ?_
    refine own_g (mkF m 79 #[.val (.int x0), .val (.long x1), .second, .val (.long x2), .second, .val (.long x3), .second, .val (.long x4), .second, .val (.int (3 : Int32)), .val (.ref o30), .unset] []) (fun _ kz => XS.ifNo X39.here hx rfl (hb hby at_76) rfl ((if0 _ _).trans (teq (own_lcT (own_e1 _))).2) kz) ?_
    refine own_g (mkF m 80 #[.val (.int x0), .val (.long x1), .second, .val (.long x2), .second, .val (.long x3), .second, .val (.long x4), .second, .val (.int (3 : Int32)), .val (.ref o30), .unset] [(.int (1 : Int32))]) (fun _ kz => XS.iconst X39.here hx rfl (hb hby at_79) kz) ?_
    refine own_g (mkF m 84 #[.val (.int x0), .val (.long x1), .second, .val (.long x2), .second, .val (.long x3), .second, .val (.long x4), .second, .val (.int (3 : Int32)), .val (.ref o30), .unset] [(.int (1 : Int32))]) (fun _ kz => XS.goto X39.here hx rfl (pc0 := 80) (pc' := 84) rfl (hb hby at_80) (by decide) (by decide) kz) ?_
    refine own_g (mkF m 86 #[.val (.int x0), .val (.long x1), .second, .val (.long x2), .second, .val (.long x3), .second, .val (.long x4), .second, .val (.int (3 : Int32)), .val (.ref o30), .val (.int (1 : Int32))] []) (fun _ kz => XS.istore X39.here hx rfl (hb hby at_84) rfl (l' := #[.val (.int x0), .val (.long x1), .second, .val (.long x2), .second, .val (.long x3), .second, .val (.long x4), .second, .val (.int (3 : Int32)), .val (.ref o30), .val (.int (1 : Int32))]) rfl kz) ?_
    refine own_g (mkF m 88 #[.val (.int x0), .val (.long x1), .second, .val (.long x2), .second, .val (.long x3), .second, .val (.long x4), .second, .val (.int (3 : Int32)), .val (.ref o30), .val (.int (1 : Int32))] [(.int (3 : Int32))]) (fun _ kz => XS.iload X39.here hx rfl (hb hby at_86) rfl kz) ?_
    refine own_g (mkF m 89 #[.val (.int x0), .val (.long x1), .second, .val (.long x2), .second, .val (.long x3), .second, .val (.long x4), .second, .val (.int (3 : Int32)), .val (.ref o30), .val (.int (1 : Int32))] [(.int (1 : Int32)), (.int (3 : Int32))]) (fun _ kz => XS.iconst X39.here hx rfl (hb hby at_88) kz) ?_
    refine own_g (mkF m 92 #[.val (.int x0), .val (.long x1), .second, .val (.long x2), .second, .val (.long x3), .second, .val (.long x4), .second, .val (.int (3 : Int32)), .val (.ref o30), .val (.int (1 : Int32))] []) (fun _ kz => XS.icmpNo X39.here hx rfl (hb hby at_89) rfl (tlt (by decide)).2.2.2 kz) ?_
    refine own_g (mkF m 94 #[.val (.int x0), .val (.long x1), .second, .val (.long x2), .second, .val (.long x3), .second, .val (.long x4), .second, .val (.int (3 : Int32)), .val (.ref o30), .val (.int (1 : Int32))] [(.int (1 : Int32))]) (fun _ kz => XS.iload X39.here hx rfl (hb hby at_92) rfl kz) ?_
    refine own_g (mkF m 97 #[.val (.int x0), .val (.long x1), .second, .val (.long x2), .second, .val (.long x3), .second, .val (.long x4), .second, .val (.int (3 : Int32)), .val (.ref o30), .val (.int (1 : Int32))] []) (fun _ kz => XS.ifNo X39.here hx rfl (hb hby at_94) rfl ((if0 _ _).trans (feq (by decide)).1) kz) ?_
    refine own_g (mkF m 99 #[.val (.int x0), .val (.long x1), .second, .val (.long x2), .second, .val (.long x3), .second, .val (.long x4), .second, .val (.int (3 : Int32)), .val (.ref o30), .val (.int (1 : Int32))] [(.ref o30)]) (fun _ kz => XS.aload X39.here hx rfl (hb hby at_97) rfl rfl kz) ?_
    refine own_g (mkF m 100 #[.val (.int x0), .val (.long x1), .second, .val (.long x2), .second, .val (.long x3), .second, .val (.long x4), .second, .val (.int (3 : Int32)), .val (.ref o30), .val (.int (1 : Int32))] [(.int (1 : Int32)), (.ref o30)]) (fun _ kz => XS.iconst X39.here hx rfl (hb hby at_99) kz) ?_
    have hv43 : own_dn F 1 = (own_s2 x2 x1) := by simp [own_dn, hF0, hF1, hF2]
    refine own_ildJ X39 hx hZ rfl A39 (hb hby at_100) (by decide) (i := 1) rfl (by decide) (x := (own_s2 x2 x1)) hv43 ?_
    show own_E p e below _ (T39.setTop (mkF m 101 #[.val (.int x0), .val (.long x1), .second, .val (.long x2), .second, .val (.long x3), .second, .val (.long x4), .second, .val (.int (3 : Int32)), .val (.ref o30), .val (.int (1 : Int32))] [(.long (own_s2 x2 x1))]))
    refine own_g (mkF m 102 #[.val (.int x0), .val (.long x1), .second, .val (.long x2), .second, .val (.long x3), .second, .val (.long x4), .second, .val (.int (3 : Int32)), .val (.ref o30), .val (.int (1 : Int32))] [(.long x2), (.long (own_s2 x2 x1))]) (fun _ kz => XS.lloadN X39.here hx rfl (hb hby at_101) rfl kz) ?_
    refine own_g (mkF m 105 #[.val (.int x0), .val (.long x1), .second, .val (.long x2), .second, .val (.long x3), .second, .val (.long x4), .second, .val (.int (3 : Int32)), .val (.ref o30), .val (.int (1 : Int32))] [(.long (2 : Int64)), (.long x2), (.long (own_s2 x2 x1))]) (fun _ kz => X39.ldc2Long hx hown (mvT hZ (own_w hw 5 rfl)) (g := (mkF m 102 #[.val (.int x0), .val (.long x1), .second, .val (.long x2), .second, .val (.long x3), .second, .val (.long x4), .second, .val (.int (3 : Int32)), .val (.ref o30), .val (.int (1 : Int32))] [(.long x2), (.long (own_s2 x2 x1))])) rfl (hb hby at_102) _ kz) ?_
    refine own_g (mkF m 106 #[.val (.int x0), .val (.long x1), .second, .val (.long x2), .second, .val (.long x3), .second, .val (.long x4), .second, .val (.int (3 : Int32)), .val (.ref o30), .val (.int (1 : Int32))] [(.long (x2 * (2 : Int64))), (.long (own_s2 x2 x1))]) (fun _ kz => XS.lmul X39.here hx rfl (hb hby at_105) rfl kz) ?_
    refine own_g (mkF m 107 #[.val (.int x0), .val (.long x1), .second, .val (.long x2), .second, .val (.long x3), .second, .val (.long x4), .second, .val (.int (3 : Int32)), .val (.ref o30), .val (.int (1 : Int32))] [(.long x1), (.long (x2 * (2 : Int64))), (.long (own_s2 x2 x1))]) (fun _ kz => XS.lloadN X39.here hx rfl (hb hby at_106) rfl kz) ?_
    refine own_callS (rest := [(.long (x2 * (2 : Int64))), (.long (own_s2 x2 x1))]) (as := [(.long x1)]) X39 hx hZ hown rfl (own_c_carry l Z a0 hw x1 T39.heap) (own_w hw 6 rfl) (own_w hw 7 rfl) (own_w hw 8 rfl) (own_w hw 9 rfl) (by decide) own_pd1 rfl (by rw [hml]; rfl) rfl (hb hby at_107) 4 (by show 2 * 0 + _ ≤ _; exact Nat.le_of_eq rfl) (by decide) (by decide) (by decide) (by decide) ?_
    rintro _ T44 L44 X44 ⟨rfl, rfl, e44⟩
    have N44 := Fr.app N39 (Fr.nil n0)
    show own_E p e below _ (T44.setTop (mkF m 110 #[.val (.int x0), .val (.long x1), .second, .val (.long x2), .second, .val (.long x3), .second, .val (.long x4), .second, .val (.int (3 : Int32)), .val (.ref o30), .val (.int (1 : Int32))] [(.long (own_carry x1)), (.long (x2 * (2 : Int64))), (.long (own_s2 x2 x1))]))
    refine own_g (mkF m 111 #[.val (.int x0), .val (.long x1), .second, .val (.long x2), .second, .val (.long x3), .second, .val (.long x4), .second, .val (.int (3 : Int32)), .val (.ref o30), .val (.int (1 : Int32))] [(.long ((x2 * (2 : Int64)) + (own_carry x1))), (.long (own_s2 x2 x1))]) (fun _ kz => XS.ladd X44.here hx rfl (hb hby at_110) rfl kz) ?_
    refine own_g (mkF m 112 #[.val (.int x0), .val (.long x1), .second, .val (.long x2), .second, .val (.long x3), .second, .val (.long x4), .second, .val (.int (3 : Int32)), .val (.ref o30), .val (.int (1 : Int32))] [(.int (lcmpW (own_s2 x2 x1) ((x2 * (2 : Int64)) + (own_carry x1))))]) (fun _ kz => XS.lcmp X44.here hx rfl (hb hby at_111) rfl kz) ?_
    refine own_g (mkF m 115 #[.val (.int x0), .val (.long x1), .second, .val (.long x2), .second, .val (.long x3), .second, .val (.long x4), .second, .val (.int (3 : Int32)), .val (.ref o30), .val (.int (1 : Int32))] []) (fun _ kz => XS.ifNo X44.here hx rfl (hb hby at_112) rfl ((if0 _ _).trans (teq (own_lcT (own_e2 _ _))).2) kz) ?_
    refine own_g (mkF m 116 #[.val (.int x0), .val (.long x1), .second, .val (.long x2), .second, .val (.long x3), .second, .val (.long x4), .second, .val (.int (3 : Int32)), .val (.ref o30), .val (.int (1 : Int32))] [(.int (1 : Int32))]) (fun _ kz => XS.iconst X44.here hx rfl (hb hby at_115) kz) ?_
    refine own_g (mkF m 120 #[.val (.int x0), .val (.long x1), .second, .val (.long x2), .second, .val (.long x3), .second, .val (.long x4), .second, .val (.int (3 : Int32)), .val (.ref o30), .val (.int (1 : Int32))] [(.int (1 : Int32))]) (fun _ kz => XS.goto X44.here hx rfl (pc0 := 116) (pc' := 120) rfl (hb hby at_116) (by decide) (by decide) kz) ?_
    refine own_g (mkF m 122 #[.val (.int x0), .val (.long x1), .second, .val (.long x2), .second, .val (.long x3), .second, .val (.long x4), .second, .val (.int (3 : Int32)), .val (.ref o30), .val (.int (1 : Int32))] []) (fun _ kz => XS.istore X44.here hx rfl (hb hby at_120) rfl (l' := #[.val (.int x0), .val (.long x1), .second, .val (.long x2), .second, .val (.long x3), .second, .val (.long x4), .second, .val (.int (3 : Int32)), .val (.ref o30), .val (.int (1 : Int32))]) rfl kz) ?_
    refine own_g (mkF m 124 #[.val (.int x0), .val (.long x1), .second, .val (.long x2), .second, .val (.long x3), .second, .val (.long x4), .second, .val (.int (3 : Int32)), .val (.ref o30), .val (.int (1 : Int32))] [(.int (3 : Int32))]) (fun _ kz => XS.iload X44.here hx rfl (hb hby at_122) rfl kz) ?_
    refine own_g (mkF m 125 #[.val (.int x0), .val (.long x1), .second, .val (.long x2), .second, .val (.long x3), .second, .val (.long x4), .second, .val (.int (3 : Int32)), .val (.ref o30), .val (.int (1 : Int32))] [(.int (2 : Int32)), (.int (3 : Int32))]) (fun _ kz => XS.iconst X44.here hx rfl (hb hby at_124) kz) ?_
    refine own_g (mkF m 128 #[.val (.int x0), .val (.long x1), .second, .val (.long x2), .second, .val (.long x3), .second, .val (.long x4), .second, .val (.int (3 : Int32)), .val (.ref o30), .val (.int (1 : Int32))] []) (fun _ kz => XS.icmpNo X44.here hx rfl (hb hby at_125) rfl (tlt (by decide)).2.2.2 kz) ?_
    refine own_g (mkF m 130 #[.val (.int x0), .val (.long x1), .second, .val (.long x2), .second, .val (.long x3), .second, .val (.long x4), .second, .val (.int (3 : Int32)), .val (.ref o30), .val (.int (1 : Int32))] [(.int (1 : Int32))]) (fun _ kz => XS.iload X44.here hx rfl (hb hby at_128) rfl kz) ?_
    refine own_g (mkF m 133 #[.val (.int x0), .val (.long x1), .second, .val (.long x2), .second, .val (.long x3), .second, .val (.long x4), .second, .val (.int (3 : Int32)), .val (.ref o30), .val (.int (1 : Int32))] []) (fun _ kz => XS.ifNo X44.here hx rfl (hb hby at_130) rfl ((if0 _ _).trans (feq (by decide)).1) kz) ?_
    refine own_g (mkF m 135 #[.val (.int x0), .val (.long x1), .second, .val (.long x2), .second, .val (.long x3), .second, .val (.long x4), .second, .val (.int (3 : Int32)), .val (.ref o30), .val (.int (1 : Int32))] [(.ref o30)]) (fun _ kz => XS.aload X44.here hx rfl (hb hby at_133) rfl rfl kz) ?_
    refine own_g (mkF m 136 #[.val (.int x0), .val (.long x1), .second, .val (.long x2), .second, .val (.long x3), .second, .val (.long x4), .second, .val (.int (3 : Int32)), .val (.ref o30), .val (.int (1 : Int32))] [(.int (2 : Int32)), (.ref o30)]) (fun _ kz => XS.iconst X44.here hx rfl (hb hby at_135) kz) ?_
    have hv45 : own_dn F 2 = (own_s2 x3 x2) := by simp [own_dn, hF0, hF1, hF2]
    refine own_ildJ X44 hx hZ e44 A39 (hb hby at_136) (by decide) (i := 2) rfl (by decide) (x := (own_s2 x3 x2)) hv45 ?_
    show own_E p e below _ (T44.setTop (mkF m 137 #[.val (.int x0), .val (.long x1), .second, .val (.long x2), .second, .val (.long x3), .second, .val (.long x4), .second, .val (.int (3 : Int32)), .val (.ref o30), .val (.int (1 : Int32))] [(.long (own_s2 x3 x2))]))
    refine own_g (mkF m 139 #[.val (.int x0), .val (.long x1), .second, .val (.long x2), .second, .val (.long x3), .second, .val (.long x4), .second, .val (.int (3 : Int32)), .val (.ref o30), .val (.int (1 : Int32))] [(.long x3), (.long (own_s2 x3 x2))]) (fun _ kz => XS.lload X44.here hx rfl (hb hby at_137) rfl kz) ?_
    refine own_g (mkF m 142 #[.val (.int x0), .val (.long x1), .second, .val (.long x2), .second, .val (.long x3), .second, .val (.long x4), .second, .val (.int (3 : Int32)), .val (.ref o30), .val (.int (1 : Int32))] [(.long (2 : Int64)), (.long x3), (.long (own_s2 x3 x2))]) (fun _ kz => X44.ldc2Long hx hown (mvT hZ (own_w hw 5 rfl)) (g := (mkF m 139 #[.val (.int x0), .val (.long x1), .second, .val (.long x2), .second, .val (.long x3), .second, .val (.long x4), .second, .val (.int (3 : Int32)), .val (.ref o30), .val (.int (1 : Int32))] [(.long x3), (.long (own_s2 x3 x2))])) rfl (hb hby at_139) _ kz) ?_
    refine own_g (mkF m 143 #[.val (.int x0), .val (.long x1), .second, .val (.long x2), .second, .val (.long x3), .second, .val (.long x4), .second, .val (.int (3 : Int32)), .val (.ref o30), .val (.int (1 : Int32))] [(.long (x3 * (2 : Int64))), (.long (own_s2 x3 x2))]) (fun _ kz => XS.lmul X44.here hx rfl (hb hby at_142) rfl kz) ?_
    refine own_g (mkF m 144 #[.val (.int x0), .val (.long x1), .second, .val (.long x2), .second, .val (.long x3), .second, .val (.long x4), .second, .val (.int (3 : Int32)), .val (.ref o30), .val (.int (1 : Int32))] [(.long x2), (.long (x3 * (2 : Int64))), (.long (own_s2 x3 x2))]) (fun _ kz => XS.lloadN X44.here hx rfl (hb hby at_143) rfl kz) ?_
    refine own_callS (rest := [(.long (x3 * (2 : Int64))), (.long (own_s2 x3 x2))]) (as := [(.long x2)]) X44 hx hZ hown e44 (own_c_carry l Z a0 hw x2 T39.heap) (own_w hw 6 rfl) (own_w hw 7 rfl) (own_w hw 8 rfl) (own_w hw 9 rfl) (by decide) own_pd1 rfl (by rw [hml]; rfl) rfl (hb hby at_144) 4 (by show 2 * 0 + _ ≤ _; exact Nat.le_of_eq rfl) (by decide) (by decide) (by decide) (by decide) ?_
    rintro _ T46 L46 X46 ⟨rfl, rfl, e46⟩
    have N46 := Fr.app N44 (Fr.nil n0)
    show own_E p e below _ (T46.setTop (mkF m 147 #[.val (.int x0), .val (.long x1), .second, .val (.long x2), .second, .val (.long x3), .second, .val (.long x4), .second, .val (.int (3 : Int32)), .val (.ref o30), .val (.int (1 : Int32))] [(.long (own_carry x2)), (.long (x3 * (2 : Int64))), (.long (own_s2 x3 x2))]))
    refine own_g (mkF m 148 #[.val (.int x0), .val (.long x1), .second, .val (.long x2), .second, .val (.long x3), .second, .val (.long x4), .second, .val (.int (3 : Int32)), .val (.ref o30), .val (.int (1 : Int32))] [(.long ((x3 * (2 : Int64)) + (own_carry x2))), (.long (own_s2 x3 x2))]) (fun _ kz => XS.ladd X46.here hx rfl (hb hby at_147) rfl kz) ?_
    refine own_g (mkF m 149 #[.val (.int x0), .val (.long x1), .second, .val (.long x2), .second, .val (.long x3), .second, .val (.long x4), .second, .val (.int (3 : Int32)), .val (.ref o30), .val (.int (1 : Int32))] [(.int (lcmpW (own_s2 x3 x2) ((x3 * (2 : Int64)) + (own_carry x2))))]) (fun _ kz => XS.lcmp X46.here hx rfl (hb hby at_148) rfl kz) ?_
    refine own_g (mkF m 152 #[.val (.int x0), .val (.long x1), .second, .val (.long x2), .second, .val (.long x3), .second, .val (.long x4), .second, .val (.int (3 : Int32)), .val (.ref o30), .val (.int (1 : Int32))] []) (fun _ kz => XS.ifNo X46.here hx rfl (hb hby at_149) rfl ((if0 _ _).trans (teq (own_lcT (own_e2 _ _))).2) kz) ?_
    refine own_g (mkF m 153 #[.val (.int x0), .val (.long x1), .second, .val (.long x2), .second, .val (.long x3), .second, .val (.long x4), .second, .val (.int (3 : Int32)), .val (.ref o30), .val (.int (1 : Int32))] [(.int (1 : Int32))]) (fun _ kz => XS.iconst X46.here hx rfl (hb hby at_152) kz) ?_
    refine own_g (mkF m 157 #[.val (.int x0), .val (.long x1), .second, .val (.long x2), .second, .val (.long x3), .second, .val (.long x4), .second, .val (.int (3 : Int32)), .val (.ref o30), .val (.int (1 : Int32))] [(.int (1 : Int32))]) (fun _ kz => XS.goto X46.here hx rfl (pc0 := 153) (pc' := 157) rfl (hb hby at_153) (by decide) (by decide) kz) ?_
    refine own_g (mkF m 159 #[.val (.int x0), .val (.long x1), .second, .val (.long x2), .second, .val (.long x3), .second, .val (.long x4), .second, .val (.int (3 : Int32)), .val (.ref o30), .val (.int (1 : Int32))] []) (fun _ kz => XS.istore X46.here hx rfl (hb hby at_157) rfl (l' := #[.val (.int x0), .val (.long x1), .second, .val (.long x2), .second, .val (.long x3), .second, .val (.long x4), .second, .val (.int (3 : Int32)), .val (.ref o30), .val (.int (1 : Int32))]) rfl kz) ?_
    refine own_g (mkF m 161 #[.val (.int x0), .val (.long x1), .second, .val (.long x2), .second, .val (.long x3), .second, .val (.long x4), .second, .val (.int (3 : Int32)), .val (.ref o30), .val (.int (1 : Int32))] [(.int (3 : Int32))]) (fun _ kz => XS.iload X46.here hx rfl (hb hby at_159) rfl kz) ?_
    refine own_g (mkF m 162 #[.val (.int x0), .val (.long x1), .second, .val (.long x2), .second, .val (.long x3), .second, .val (.long x4), .second, .val (.int (3 : Int32)), .val (.ref o30), .val (.int (1 : Int32))] [(.int (3 : Int32)), (.int (3 : Int32))]) (fun _ kz => XS.iconst X46.here hx rfl (hb hby at_161) kz) ?_
    refine own_g (mkF m 197 #[.val (.int x0), .val (.long x1), .second, .val (.long x2), .second, .val (.long x3), .second, .val (.long x4), .second, .val (.int (3 : Int32)), .val (.ref o30), .val (.int (1 : Int32))] []) (fun _ kz => XS.icmpYes X46.here hx rfl (pc0 := 162) (pc' := 197) rfl (hb hby at_162) rfl (flt (by decide)).2.2.2 (by decide) (by decide) kz) ?_
    refine own_g (mkF m 199 #[.val (.int x0), .val (.long x1), .second, .val (.long x2), .second, .val (.long x3), .second, .val (.long x4), .second, .val (.int (3 : Int32)), .val (.ref o30), .val (.int (1 : Int32))] [(.int (1 : Int32))]) (fun _ kz => XS.iload X46.here hx rfl (hb hby at_197) rfl kz) ?_
    exact own_retZ X46 hx hret hlk (hb hby at_199) rfl (by decide) (by decide) (by first | exact ⟨rfl, N46⟩ | (rw [e46]; exact ⟨rfl, N46⟩))
  · rw [hl]
    show own_E p e below _ (s₁.setTop (mkF m 5 #[.val (.int x0), .val (.long x1), .second, .val (.long x2), .second, .val (.long x3), .second, .val (.long x4), .second, .unset, .unset, .unset] [(.int (4 : Int32))]))
    refine own_g (mkF m 7 #[.val (.int x0), .val (.long x1), .second, .val (.long x2), .second, .val (.long x3), .second, .val (.long x4), .second, .val (.int (4 : Int32)), .unset, .unset] []) (fun _ kz => XS.istore X0.here hx rfl (hb hby at_5) rfl (l' := #[.val (.int x0), .val (.long x1), .second, .val (.long x2), .second, .val (.long x3), .second, .val (.long x4), .second, .val (.int (4 : Int32)), .unset, .unset]) rfl kz) ?_
    refine own_g (mkF m 9 #[.val (.int x0), .val (.long x1), .second, .val (.long x2), .second, .val (.long x3), .second, .val (.long x4), .second, .val (.int (4 : Int32)), .unset, .unset] [(.int (4 : Int32))]) (fun _ kz => XS.iload X0.here hx rfl (hb hby at_7) rfl kz) ?_
    refine own_newJ X0 hx hZ e0 (own_w hw 0 rfl) (hb hby at_9) (by decide) (n := 4) rfl 4 (by decide) (by decide) (by decide) (by decide) ?_
    intro T47 h47 o47 g47 X47 e47 E47 A47
    have b48 : n0 ≤ o47 := Nat.le_trans Z0 (Nat.le_of_eq g47.symm)
    have s49 : n0 ≤ h47.size := Nat.le_trans Z0 E47.1
    show own_E p e below _ (T47.setTop (mkF m 11 #[.val (.int x0), .val (.long x1), .second, .val (.long x2), .second, .val (.long x3), .second, .val (.long x4), .second, .val (.int (4 : Int32)), .unset, .unset] [(.ref o47)]))
    refine own_g (mkF m 13 #[.val (.int x0), .val (.long x1), .second, .val (.long x2), .second, .val (.long x3), .second, .val (.long x4), .second, .val (.int (4 : Int32)), .val (.ref o47), .unset] []) (fun _ kz => XS.astore X47.here hx rfl (hb hby at_11) rfl rfl (l' := #[.val (.int x0), .val (.long x1), .second, .val (.long x2), .second, .val (.long x3), .second, .val (.long x4), .second, .val (.int (4 : Int32)), .val (.ref o47), .unset]) rfl kz) ?_
    refine own_g (mkF m 15 #[.val (.int x0), .val (.long x1), .second, .val (.long x2), .second, .val (.long x3), .second, .val (.long x4), .second, .val (.int (4 : Int32)), .val (.ref o47), .unset] [(.ref o47)]) (fun _ kz => XS.aload X47.here hx rfl (hb hby at_13) rfl rfl kz) ?_
    refine own_g (mkF m 16 #[.val (.int x0), .val (.long x1), .second, .val (.long x2), .second, .val (.long x3), .second, .val (.long x4), .second, .val (.int (4 : Int32)), .val (.ref o47), .unset] [(.int (0 : Int32)), (.ref o47)]) (fun _ kz => XS.iconst X47.here hx rfl (hb hby at_15) kz) ?_
    refine own_g (mkF m 17 #[.val (.int x0), .val (.long x1), .second, .val (.long x2), .second, .val (.long x3), .second, .val (.long x4), .second, .val (.int (4 : Int32)), .val (.ref o47), .unset] [(.long x1), (.int (0 : Int32)), (.ref o47)]) (fun _ kz => XS.lloadN X47.here hx rfl (hb hby at_16) rfl kz) ?_
    refine own_stJ X47 hx hZ e47 A47 (hb hby at_17) (by decide) (i := 0) rfl (by decide) ?_
    intro T50 h50 X50 e50 W50 A50
    have N50 := Fr.snoc X50 N0 b48
    have s51 : n0 ≤ h50.size := Nat.le_trans s49 (Keep.of_wr W50).1
    show own_E p e below _ (T50.setTop (mkF m 18 #[.val (.int x0), .val (.long x1), .second, .val (.long x2), .second, .val (.long x3), .second, .val (.long x4), .second, .val (.int (4 : Int32)), .val (.ref o47), .unset] []))
    refine own_g (mkF m 20 #[.val (.int x0), .val (.long x1), .second, .val (.long x2), .second, .val (.long x3), .second, .val (.long x4), .second, .val (.int (4 : Int32)), .val (.ref o47), .unset] [(.int (4 : Int32))]) (fun _ kz => XS.iload X50.here hx rfl (hb hby at_18) rfl kz) ?_
    refine own_g (mkF m 21 #[.val (.int x0), .val (.long x1), .second, .val (.long x2), .second, .val (.long x3), .second, .val (.long x4), .second, .val (.int (4 : Int32)), .val (.ref o47), .unset] [(.int (1 : Int32)), (.int (4 : Int32))]) (fun _ kz => XS.iconst X50.here hx rfl (hb hby at_20) kz) ?_
    refine own_g (mkF m 24 #[.val (.int x0), .val (.long x1), .second, .val (.long x2), .second, .val (.long x3), .second, .val (.long x4), .second, .val (.int (4 : Int32)), .val (.ref o47), .unset] []) (fun _ kz => XS.icmpNo X50.here hx rfl (hb hby at_21) rfl (tlt (by decide)).2.2.2 kz) ?_
    refine own_g (mkF m 26 #[.val (.int x0), .val (.long x1), .second, .val (.long x2), .second, .val (.long x3), .second, .val (.long x4), .second, .val (.int (4 : Int32)), .val (.ref o47), .unset] [(.ref o47)]) (fun _ kz => XS.aload X50.here hx rfl (hb hby at_24) rfl rfl kz) ?_
    refine own_g (mkF m 27 #[.val (.int x0), .val (.long x1), .second, .val (.long x2), .second, .val (.long x3), .second, .val (.long x4), .second, .val (.int (4 : Int32)), .val (.ref o47), .unset] [(.int (1 : Int32)), (.ref o47)]) (fun _ kz => XS.iconst X50.here hx rfl (hb hby at_26) kz) ?_
    refine own_g (mkF m 28 #[.val (.int x0), .val (.long x1), .second, .val (.long x2), .second, .val (.long x3), .second, .val (.long x4), .second, .val (.int (4 : Int32)), .val (.ref o47), .unset] [(.long x2), (.int (1 : Int32)), (.ref o47)]) (fun _ kz => XS.lloadN X50.here hx rfl (hb hby at_27) rfl kz) ?_
    refine own_stJ X50 hx hZ e50 A50 (hb hby at_28) (by decide) (i := 1) rfl (by decide) ?_
    intro T52 h52 X52 e52 W52 A52
    have N52 := Fr.snoc X52 N50 b48
    have s53 : n0 ≤ h52.size := Nat.le_trans s51 (Keep.of_wr W52).1
    show own_E p e below _ (T52.setTop (mkF m 29 #[.val (.int x0), .val (.long x1), .second, .val (.long x2), .second, .val (.long x3), .second, .val (.long x4), .second, .val (.int (4 : Int32)), .val (.ref o47), .unset] []))
    refine own_g (mkF m 31 #[.val (.int x0), .val (.long x1), .second, .val (.long x2), .second, .val (.long x3), .second, .val (.long x4), .second, .val (.int (4 : Int32)), .val (.ref o47), .unset] [(.int (4 : Int32))]) (fun _ kz => XS.iload X52.here hx rfl (hb hby at_29) rfl kz) ?_
    refine own_g (mkF m 32 #[.val (.int x0), .val (.long x1), .second, .val (.long x2), .second, .val (.long x3), .second, .val (.long x4), .second, .val (.int (4 : Int32)), .val (.ref o47), .unset] [(.int (2 : Int32)), (.int (4 : Int32))]) (fun _ kz => XS.iconst X52.here hx rfl (hb hby at_31) kz) ?_
    refine own_g (mkF m 35 #[.val (.int x0), .val (.long x1), .second, .val (.long x2), .second, .val (.long x3), .second, .val (.long x4), .second, .val (.int (4 : Int32)), .val (.ref o47), .unset] []) (fun _ kz => XS.icmpNo X52.here hx rfl (hb hby at_32) rfl (tlt (by decide)).2.2.2 kz) ?_
    refine own_g (mkF m 37 #[.val (.int x0), .val (.long x1), .second, .val (.long x2), .second, .val (.long x3), .second, .val (.long x4), .second, .val (.int (4 : Int32)), .val (.ref o47), .unset] [(.ref o47)]) (fun _ kz => XS.aload X52.here hx rfl (hb hby at_35) rfl rfl kz) ?_
    refine own_g (mkF m 38 #[.val (.int x0), .val (.long x1), .second, .val (.long x2), .second, .val (.long x3), .second, .val (.long x4), .second, .val (.int (4 : Int32)), .val (.ref o47), .unset] [(.int (2 : Int32)), (.ref o47)]) (fun _ kz => XS.iconst X52.here hx rfl (hb hby at_37) kz) ?_
    refine own_g (mkF m 40 #[.val (.int x0), .val (.long x1), .second, .val (.long x2), .second, .val (.long x3), .second, .val (.long x4), .second, .val (.int (4 : Int32)), .val (.ref o47), .unset] [(.long x3), (.int (2 : Int32)), (.ref o47)]) (fun _ kz => XS.lload X52.here hx rfl (hb hby at_38) rfl kz) ?_
    refine own_stJ X52 hx hZ e52 A52 (hb hby at_40) (by decide) (i := 2) rfl (by decide) ?_
    intro T54 h54 X54 e54 W54 A54
    have N54 := Fr.snoc X54 N52 b48
    have s55 : n0 ≤ h54.size := Nat.le_trans s53 (Keep.of_wr W54).1
    show own_E p e below _ (T54.setTop (mkF m 41 #[.val (.int x0), .val (.long x1), .second, .val (.long x2), .second, .val (.long x3), .second, .val (.long x4), .second, .val (.int (4 : Int32)), .val (.ref o47), .unset] []))
    refine own_g (mkF m 43 #[.val (.int x0), .val (.long x1), .second, .val (.long x2), .second, .val (.long x3), .second, .val (.long x4), .second, .val (.int (4 : Int32)), .val (.ref o47), .unset] [(.int (4 : Int32))]) (fun _ kz => XS.iload X54.here hx rfl (hb hby at_41) rfl kz) ?_
    refine own_g (mkF m 44 #[.val (.int x0), .val (.long x1), .second, .val (.long x2), .second, .val (.long x3), .second, .val (.long x4), .second, .val (.int (4 : Int32)), .val (.ref o47), .unset] [(.int (3 : Int32)), (.int (4 : Int32))]) (fun _ kz => XS.iconst X54.here hx rfl (hb hby at_43) kz) ?_
    refine own_g (mkF m 47 #[.val (.int x0), .val (.long x1), .second, .val (.long x2), .second, .val (.long x3), .second, .val (.long x4), .second, .val (.int (4 : Int32)), .val (.ref o47), .unset] []) (fun _ kz => XS.icmpNo X54.here hx rfl (hb hby at_44) rfl (tlt (by decide)).2.2.2 kz) ?_
    refine own_g (mkF m 49 #[.val (.int x0), .val (.long x1), .second, .val (.long x2), .second, .val (.long x3), .second, .val (.long x4), .second, .val (.int (4 : Int32)), .val (.ref o47), .unset] [(.ref o47)]) (fun _ kz => XS.aload X54.here hx rfl (hb hby at_47) rfl rfl kz) ?_
    refine own_g (mkF m 50 #[.val (.int x0), .val (.long x1), .second, .val (.long x2), .second, .val (.long x3), .second, .val (.long x4), .second, .val (.int (4 : Int32)), .val (.ref o47), .unset] [(.int (3 : Int32)), (.ref o47)]) (fun _ kz => XS.iconst X54.here hx rfl (hb hby at_49) kz) ?_
    refine own_g (mkF m 52 #[.val (.int x0), .val (.long x1), .second, .val (.long x2), .second, .val (.long x3), .second, .val (.long x4), .second, .val (.int (4 : Int32)), .val (.ref o47), .unset] [(.long x4), (.int (3 : Int32)), (.ref o47)]) (fun _ kz => XS.lload X54.here hx rfl (hb hby at_50) rfl kz) ?_
    refine own_stJ X54 hx hZ e54 A54 (hb hby at_52) (by decide) (i := 3) rfl (by decide) ?_
    intro T56 h56 X56 e56 W56 A56
    have N56 := Fr.snoc X56 N54 b48
    have s57 : n0 ≤ h56.size := Nat.le_trans s55 (Keep.of_wr W56).1
    show own_E p e below _ (T56.setTop (mkF m 53 #[.val (.int x0), .val (.long x1), .second, .val (.long x2), .second, .val (.long x3), .second, .val (.long x4), .second, .val (.int (4 : Int32)), .val (.ref o47), .unset] []))
    refine own_g (mkF m 55 #[.val (.int x0), .val (.long x1), .second, .val (.long x2), .second, .val (.long x3), .second, .val (.long x4), .second, .val (.int (4 : Int32)), .val (.ref o47), .unset] [(.ref o47)]) (fun _ kz => XS.aload X56.here hx rfl (hb hby at_53) rfl rfl kz) ?_
    obtain ⟨F, hF, AF⟩ : ∃ F, F = (own_set (own_set (own_set (own_set (fun _ => (0 : Int64)) 0 x1) 1 x2) 2 x3) 3 x4) ∧ own_JA Z h56 o47 4 F := ⟨_, rfl, A56⟩
    have hF0 : F 0 = x1 := by rw [hF]; simp [own_set]
    have hF1 : F 1 = x2 := by rw [hF]; simp [own_set]
    have hF2 : F 2 = x3 := by rw [hF]; simp [own_set]
    have hF3 : F 3 = x4 := by rw [hF]; simp [own_set]
    refine own_callS (rest := []) (as := [(.ref o47)]) X56 hx hZ hown e56 (own_c_down l Z a0 hw o47 4 F h56 n0 s57 (by decide) (by decide) b48 AF) (own_w hw 1 rfl) (own_w hw 2 rfl) (own_w hw 3 rfl) (own_w hw 4 rfl) (by decide) own_pd0 rfl (by rw [hml]; rfl) rfl (hb hby at_55) 0 (by show 2 * 0 + _ ≤ _; exact Nat.le_of_eq rfl) (by decide) (by decide) (by decide) (by decide) ?_
    rintro _ T58 L58 X58 ⟨rfl, Nq58, K58, A58⟩
    have N58 := Fr.app N56 Nq58
    have s60 : n0 ≤ T58.heap.size := Nat.le_trans s57 K58.1
    show own_E p e below _ (T58.setTop (mkF m 58 #[.val (.int x0), .val (.long x1), .second, .val (.long x2), .second, .val (.long x3), .second, .val (.long x4), .second, .val (.int (4 : Int32)), .val (.ref o47), .unset] []))
    refine own_g (mkF m 60 #[.val (.int x0), .val (.long x1), .second, .val (.long x2), .second, .val (.long x3), .second, .val (.long x4), .second, .val (.int (4 : Int32)), .val (.ref o47), .unset] [(.ref o47)]) (fun _ kz => XS.aload X58.here hx rfl (hb hby at_58) rfl rfl kz) ?_
    refine own_lenJ X58 hx hZ rfl A58 (hb hby at_60) (z := (4 : Int32)) rfl ?_
    show own_E p e below _ (T58.setTop (mkF m 61 #[.val (.int x0), .val (.long x1), .second, .val (.long x2), .second, .val (.long x3), .second, .val (.long x4), .second, .val (.int (4 : Int32)), .val (.ref o47), .unset] [(.int (4 : Int32))]))
    refine own_g (mkF m 63 #[.val (.int x0), .val (.long x1), .second, .val (.long x2), .second, .val (.long x3), .second, .val (.long x4), .second, .val (.int (4 : Int32)), .val (.ref o47), .unset] [(.int (4 : Int32)), (.int (4 : Int32))]) (fun _ kz => XS.iload X58.here hx rfl (hb hby at_61) rfl kz) ?_
    refine own_g (mkF m 66 #[.val (.int x0), .val (.long x1), .second, .val (.long x2), .second, .val (.long x3), .second, .val (.long x4), .second, .val (.int (4 : Int32)), .val (.ref o47), .unset] []) (fun _ kz => XS.icmpNo X58.here hx rfl (hb hby at_63) rfl (teq (by decide)).2 kz) ?_
    refine own_g (mkF m 68 #[.val (.int x0), .val (.long x1), .second, .val (.long x2), .second, .val (.long x3), .second, .val (.long x4), .second, .val (.int (4 : Int32)), .val (.ref o47), .unset] [(.ref o47)]) (fun _ kz => XS.aload X58.here hx rfl (hb hby at_66) rfl rfl kz) ?_
    refine own_g (mkF m 69 #[.val (.int x0), .val (.long x1), .second, .val (.long x2), .second, .val (.long x3), .second, .val (.long x4), .second, .val (.int (4 : Int32)), .val (.ref o47), .unset] [(.int (0 : Int32)), (.ref o47)]) (fun _ kz => XS.iconst X58.here hx rfl (hb hby at_68) kz) ?_
    have hv61 : own_dn F 0 = (own_s1 x1) := by simp [own_dn, hF0, hF1, hF2, hF3]
    refine own_ildJ X58 hx hZ rfl A58 (hb hby at_69) (by decide) (i := 0) rfl (by decide) (x := (own_s1 x1)) hv61 ?_
    show own_E p e below _ (T58.setTop (mkF m 70 #[.val (.int x0), .val (.long x1), .second, .val (.long x2), .second, .val (.long x3), .second, .val (.long x4), .second, .val (.int (4 : Int32)), .val (.ref o47), .unset] [(.long (own_s1 x1))]))
    refine own_g (mkF m 71 #[.val (.int x0), .val (.long x1), .second, .val (.long x2), .second, .val (.long x3), .second, .val (.long x4), .second, .val (.int (4 : Int32)), .val (.ref o47), .unset] [(.long x1), (.long (own_s1 x1))]) (fun _ kz => XS.lloadN X58.here hx rfl (hb hby at_70) rfl kz) ?_
    refine own_g (mkF m 74 #[.val (.int x0), .val (.long x1), .second, .val (.long x2), .second, .val (.long x3), .second, .val (.long x4), .second, .val (.int (4 : Int32)), .val (.ref o47), .unset] [(.long (2 : Int64)), (.long x1), (.long (own_s1 x1))]) (fun _ kz => X58.ldc2Long hx hown (mvT hZ (own_w hw 5 rfl)) (g := (mkF m 71 #[.val (.int x0), .val (.long x1), .second, .val (.long x2), .second, .val (.long x3), .second, .val (.long x4), .second, .val (.int (4 : Int32)), .val (.ref o47), .unset] [(.long x1), (.long (own_s1 x1))])) rfl (hb hby at_71) _ kz) ?_
    refine own_g (mkF m 75 #[.val (.int x0), .val (.long x1), .second, .val (.long x2), .second, .val (.long x3), .second, .val (.long x4), .second, .val (.int (4 : Int32)), .val (.ref o47), .unset] [(.long (x1 * (2 : Int64))), (.long (own_s1 x1))]) (fun _ kz => XS.lmul X58.here hx rfl (hb hby at_74) rfl kz) ?_
    refine own_g (mkF m 76 #[.val (.int x0), .val (.long x1), .second, .val (.long x2), .second, .val (.long x3), .second, .val (.long x4), .second, .val (.int (4 : Int32)), .val (.ref o47), .unset] [(.int (lcmpW (own_s1 x1) (x1 * (2 : Int64))))]) (fun _ kz => XS.lcmp X58.here hx rfl (hb hby at_75) rfl kz) ?_
    refine own_g (mkF m 79 #[.val (.int x0), .val (.long x1), .second, .val (.long x2), .second, .val (.long x3), .second, .val (.long x4), .second, .val (.int (4 : Int32)), .val (.ref o47), .unset] []) (fun _ kz => XS.ifNo X58.here hx rfl (hb hby at_76) rfl ((if0 _ _).trans (teq (own_lcT (own_e1 _))).2) kz) ?_
    refine own_g (mkF m 80 #[.val (.int x0), .val (.long x1), .second, .val (.long x2), .second, .val (.long x3), .second, .val (.long x4), .second, .val (.int (4 : Int32)), .val (.ref o47), .unset] [(.int (1 : Int32))]) (fun _ kz => XS.iconst X58.here hx rfl (hb hby at_79) kz) ?_
    refine own_g (mkF m 84 #[.val (.int x0), .val (.long x1), .second, .val (.long x2), .second, .val (.long x3), .second, .val (.long x4), .second, .val (.int (4 : Int32)), .val (.ref o47), .unset] [(.int (1 : Int32))]) (fun _ kz => XS.goto X58.here hx rfl (pc0 := 80) (pc' := 84) rfl (hb hby at_80) (by decide) (by decide) kz) ?_
    refine own_g (mkF m 86 #[.val (.int x0), .val (.long x1), .second, .val (.long x2), .second, .val (.long x3), .second, .val (.long x4), .second, .val (.int (4 : Int32)), .val (.ref o47), .val (.int (1 : Int32))] []) (fun _ kz => XS.istore X58.here hx rfl (hb hby at_84) rfl (l' := #[.val (.int x0), .val (.long x1), .second, .val (.long x2), .second, .val (.long x3), .second, .val (.long x4), .second, .val (.int (4 : Int32)), .val (.ref o47), .val (.int (1 : Int32))]) rfl kz) ?_
    refine own_g (mkF m 88 #[.val (.int x0), .val (.long x1), .second, .val (.long x2), .second, .val (.long x3), .second, .val (.long x4), .second, .val (.int (4 : Int32)), .val (.ref o47), .val (.int (1 : Int32))] [(.int (4 : Int32))]) (fun _ kz => XS.iload X58.here hx rfl (hb hby at_86) rfl kz) ?_
    refine own_g (mkF m 89 #[.val (.int x0), .val (.long x1), .second, .val (.long x2), .second, .val (.long x3), .second, .val (.long x4), .second, .val (.int (4 : Int32)), .val (.ref o47), .val (.int (1 : Int32))] [(.int (1 : Int32)), (.int (4 : Int32))]) (fun _ kz => XS.iconst X58.here hx rfl (hb hby at_88) kz) ?_
    refine own_g (mkF m 92 #[.val (.int x0), .val (.long x1), .second, .val (.long x2), .second, .val (.long x3), .second, .val (.long x4), .second, .val (.int (4 : Int32)), .val (.ref o47), .val (.int (1 : Int32))] []) (fun _ kz => XS.icmpNo X58.here hx rfl (hb hby at_89) rfl (tlt (by decide)).2.2.2 kz) ?_
    refine own_g (mkF m 94 #[.val (.int x0), .val (.long x1), .second, .val (.long x2), .second, .val (.long x3), .second, .val (.long x4), .second, .val (.int (4 : Int32)), .val (.ref o47), .val (.int (1 : Int32))] [(.int (1 : Int32))]) (fun _ kz => XS.iload X58.here hx rfl (hb hby at_92) rfl kz) ?_
    refine own_g (mkF m 97 #[.val (.int x0), .val (.long x1), .second, .val (.long x2), .second, .val (.long x3), .second, .val (.long x4), .second, .val (.int (4 : Int32)), .val (.ref o47), .val (.int (1 : Int32))] []) (fun _ kz => XS.ifNo X58.here hx rfl (hb hby at_94) rfl ((if0 _ _).trans (feq (by decide)).1) kz) ?_
    refine own_g (mkF m 99 #[.val (.int x0), .val (.long x1), .second, .val (.long x2), .second, .val (.long x3), .second, .val (.long x4), .second, .val (.int (4 : Int32)), .val (.ref o47), .val (.int (1 : Int32))] [(.ref o47)]) (fun _ kz => XS.aload X58.here hx rfl (hb hby at_97) rfl rfl kz) ?_
    refine own_g (mkF m 100 #[.val (.int x0), .val (.long x1), .second, .val (.long x2), .second, .val (.long x3), .second, .val (.long x4), .second, .val (.int (4 : Int32)), .val (.ref o47), .val (.int (1 : Int32))] [(.int (1 : Int32)), (.ref o47)]) (fun _ kz => XS.iconst X58.here hx rfl (hb hby at_99) kz) ?_
    have hv62 : own_dn F 1 = (own_s2 x2 x1) := by simp [own_dn, hF0, hF1, hF2, hF3]
    refine own_ildJ X58 hx hZ rfl A58 (hb hby at_100) (by decide) (i := 1) rfl (by decide) (x := (own_s2 x2 x1)) hv62 ?_
    show own_E p e below _ (T58.setTop (mkF m 101 #[.val (.int x0), .val (.long x1), .second, .val (.long x2), .second, .val (.long x3), .second, .val (.long x4), .second, .val (.int (4 : Int32)), .val (.ref o47), .val (.int (1 : Int32))] [(.long (own_s2 x2 x1))]))
    refine own_g (mkF m 102 #[.val (.int x0), .val (.long x1), .second, .val (.long x2), .second, .val (.long x3), .second, .val (.long x4), .second, .val (.int (4 : Int32)), .val (.ref o47), .val (.int (1 : Int32))] [(.long x2), (.long (own_s2 x2 x1))]) (fun _ kz => XS.lloadN X58.here hx rfl (hb hby at_101) rfl kz) ?_
    refine own_g (mkF m 105 #[.val (.int x0), .val (.long x1), .second, .val (.long x2), .second, .val (.long x3), .second, .val (.long x4), .second, .val (.int (4 : Int32)), .val (.ref o47), .val (.int (1 : Int32))] [(.long (2 : Int64)), (.long x2), (.long (own_s2 x2 x1))]) (fun _ kz => X58.ldc2Long hx hown (mvT hZ (own_w hw 5 rfl)) (g := (mkF m 102 #[.val (.int x0), .val (.long x1), .second, .val (.long x2), .second, .val (.long x3), .second, .val (.long x4), .second, .val (.int (4 : Int32)), .val (.ref o47), .val (.int (1 : Int32))] [(.long x2), (.long (own_s2 x2 x1))])) rfl (hb hby at_102) _ kz) ?_
    refine own_g (mkF m 106 #[.val (.int x0), .val (.long x1), .second, .val (.long x2), .second, .val (.long x3), .second, .val (.long x4), .second, .val (.int (4 : Int32)), .val (.ref o47), .val (.int (1 : Int32))] [(.long (x2 * (2 : Int64))), (.long (own_s2 x2 x1))]) (fun _ kz => XS.lmul X58.here hx rfl (hb hby at_105) rfl kz) ?_
    refine own_g (mkF m 107 #[.val (.int x0), .val (.long x1), .second, .val (.long x2), .second, .val (.long x3), .second, .val (.long x4), .second, .val (.int (4 : Int32)), .val (.ref o47), .val (.int (1 : Int32))] [(.long x1), (.long (x2 * (2 : Int64))), (.long (own_s2 x2 x1))]) (fun _ kz => XS.lloadN X58.here hx rfl (hb hby at_106) rfl kz) ?_
    refine own_callS (rest := [(.long (x2 * (2 : Int64))), (.long (own_s2 x2 x1))]) (as := [(.long x1)]) X58 hx hZ hown rfl (own_c_carry l Z a0 hw x1 T58.heap) (own_w hw 6 rfl) (own_w hw 7 rfl) (own_w hw 8 rfl) (own_w hw 9 rfl) (by decide) own_pd1 rfl (by rw [hml]; rfl) rfl (hb hby at_107) 4 (by show 2 * 0 + _ ≤ _; exact Nat.le_of_eq rfl) (by decide) (by decide) (by decide) (by decide) ?_
    rintro _ T63 L63 X63 ⟨rfl, rfl, e63⟩
    have N63 := Fr.app N58 (Fr.nil n0)
    show own_E p e below _ (T63.setTop (mkF m 110 #[.val (.int x0), .val (.long x1), .second, .val (.long x2), .second, .val (.long x3), .second, .val (.long x4), .second, .val (.int (4 : Int32)), .val (.ref o47), .val (.int (1 : Int32))] [(.long (own_carry x1)), (.long (x2 * (2 : Int64))), (.long (own_s2 x2 x1))]))
    refine own_g (mkF m 111 #[.val (.int x0), .val (.long x1), .second, .val (.long x2), .second, .val (.long x3), .second, .val (.long x4), .second, .val (.int (4 : Int32)), .val (.ref o47), .val (.int (1 : Int32))] [(.long ((x2 * (2 : Int64)) + (own_carry x1))), (.long (own_s2 x2 x1))]) (fun _ kz => XS.ladd X63.here hx rfl (hb hby at_110) rfl kz) ?_
    refine own_g (mkF m 112 #[.val (.int x0), .val (.long x1), .second, .val (.long x2), .second, .val (.long x3), .second, .val (.long x4), .second, .val (.int (4 : Int32)), .val (.ref o47), .val (.int (1 : Int32))] [(.int (lcmpW (own_s2 x2 x1) ((x2 * (2 : Int64)) + (own_carry x1))))]) (fun _ kz => XS.lcmp X63.here hx rfl (hb hby at_111) rfl kz) ?_
    refine own_g (mkF m 115 #[.val (.int x0), .val (.long x1), .second, .val (.long x2), .second, .val (.long x3), .second, .val (.long x4), .second, .val (.int (4 : Int32)), .val (.ref o47), .val (.int (1 : Int32))] []) (fun _ kz => XS.ifNo X63.here hx rfl (hb hby at_112) rfl ((if0 _ _).trans (teq (own_lcT (own_e2 _ _))).2) kz) ?_
    refine own_g (mkF m 116 #[.val (.int x0), .val (.long x1), .second, .val (.long x2), .second, .val (.long x3), .second, .val (.long x4), .second, .val (.int (4 : Int32)), .val (.ref o47), .val (.int (1 : Int32))] [(.int (1 : Int32))]) (fun _ kz => XS.iconst X63.here hx rfl (hb hby at_115) kz) ?_
    refine own_g (mkF m 120 #[.val (.int x0), .val (.long x1), .second, .val (.long x2), .second, .val (.long x3), .second, .val (.long x4), .second, .val (.int (4 : Int32)), .val (.ref o47), .val (.int (1 : Int32))] [(.int (1 : Int32))]) (fun _ kz => XS.goto X63.here hx rfl (pc0 := 116) (pc' := 120) rfl (hb hby at_116) (by decide) (by decide) kz) ?_
    refine own_g (mkF m 122 #[.val (.int x0), .val (.long x1), .second, .val (.long x2), .second, .val (.long x3), .second, .val (.long x4), .second, .val (.int (4 : Int32)), .val (.ref o47), .val (.int (1 : Int32))] []) (fun _ kz => XS.istore X63.here hx rfl (hb hby at_120) rfl (l' := #[.val (.int x0), .val (.long x1), .second, .val (.long x2), .second, .val (.long x3), .second, .val (.long x4), .second, .val (.int (4 : Int32)), .val (.ref o47), .val (.int (1 : Int32))]) rfl kz) ?_
    refine own_g (mkF m 124 #[.val (.int x0), .val (.long x1), .second, .val (.long x2), .second, .val (.long x3), .second, .val (.long x4), .second, .val (.int (4 : Int32)), .val (.ref o47), .val (.int (1 : Int32))] [(.int (4 : Int32))]) (fun _ kz => XS.iload X63.here hx rfl (hb hby at_122) rfl kz) ?_
    refine own_g (mkF m 125 #[.val (.int x0), .val (.long x1), .second, .val (.long x2), .second, .val (.long x3), .second, .val (.long x4), .second, .val (.int (4 : Int32)), .val (.ref o47), .val (.int (1 : Int32))] [(.int (2 : Int32)), (.int (4 : Int32))]) (fun _ kz => XS.iconst X63.here hx rfl (hb hby at_124) kz) ?_
    refine own_g (mkF m 128 #[.val (.int x0), .val (.long x1), .second, .val (.long x2), .second, .val (.long x3), .second, .val (.long x4), .second, .val (.int (4 : Int32)), .val (.ref o47), .val (.int (1 : Int32))] []) (fun _ kz => XS.icmpNo X63.here hx rfl (hb hby at_125) rfl (tlt (by decide)).2.2.2 kz) ?_
    refine own_g (mkF m 130 #[.val (.int x0), .val (.long x1), .second, .val (.long x2), .second, .val (.long x3), .second, .val (.long x4), .second, .val (.int (4 : Int32)), .val (.ref o47), .val (.int (1 : Int32))] [(.int (1 : Int32))]) (fun _ kz => XS.iload X63.here hx rfl (hb hby at_128) rfl kz) ?_
    refine own_g (mkF m 133 #[.val (.int x0), .val (.long x1), .second, .val (.long x2), .second, .val (.long x3), .second, .val (.long x4), .second, .val (.int (4 : Int32)), .val (.ref o47), .val (.int (1 : Int32))] []) (fun _ kz => XS.ifNo X63.here hx rfl (hb hby at_130) rfl ((if0 _ _).trans (feq (by decide)).1) kz) ?_
    refine own_g (mkF m 135 #[.val (.int x0), .val (.long x1), .second, .val (.long x2), .second, .val (.long x3), .second, .val (.long x4), .second, .val (.int (4 : Int32)), .val (.ref o47), .val (.int (1 : Int32))] [(.ref o47)]) (fun _ kz => XS.aload X63.here hx rfl (hb hby at_133) rfl rfl kz) ?_
    refine own_g (mkF m 136 #[.val (.int x0), .val (.long x1), .second, .val (.long x2), .second, .val (.long x3), .second, .val (.long x4), .second, .val (.int (4 : Int32)), .val (.ref o47), .val (.int (1 : Int32))] [(.int (2 : Int32)), (.ref o47)]) (fun _ kz => XS.iconst X63.here hx rfl (hb hby at_135) kz) ?_
    have hv64 : own_dn F 2 = (own_s2 x3 x2) := by simp [own_dn, hF0, hF1, hF2, hF3]
    refine own_ildJ X63 hx hZ e63 A58 (hb hby at_136) (by decide) (i := 2) rfl (by decide) (x := (own_s2 x3 x2)) hv64 ?_
    show own_E p e below _ (T63.setTop (mkF m 137 #[.val (.int x0), .val (.long x1), .second, .val (.long x2), .second, .val (.long x3), .second, .val (.long x4), .second, .val (.int (4 : Int32)), .val (.ref o47), .val (.int (1 : Int32))] [(.long (own_s2 x3 x2))]))
    refine own_g (mkF m 139 #[.val (.int x0), .val (.long x1), .second, .val (.long x2), .second, .val (.long x3), .second, .val (.long x4), .second, .val (.int (4 : Int32)), .val (.ref o47), .val (.int (1 : Int32))] [(.long x3), (.long (own_s2 x3 x2))]) (fun _ kz => XS.lload X63.here hx rfl (hb hby at_137) rfl kz) ?_
    refine own_g (mkF m 142 #[.val (.int x0), .val (.long x1), .second, .val (.long x2), .second, .val (.long x3), .second, .val (.long x4), .second, .val (.int (4 : Int32)), .val (.ref o47), .val (.int (1 : Int32))] [(.long (2 : Int64)), (.long x3), (.long (own_s2 x3 x2))]) (fun _ kz => X63.ldc2Long hx hown (mvT hZ (own_w hw 5 rfl)) (g := (mkF m 139 #[.val (.int x0), .val (.long x1), .second, .val (.long x2), .second, .val (.long x3), .second, .val (.long x4), .second, .val (.int (4 : Int32)), .val (.ref o47), .val (.int (1 : Int32))] [(.long x3), (.long (own_s2 x3 x2))])) rfl (hb hby at_139) _ kz) ?_
    refine own_g (mkF m 143 #[.val (.int x0), .val (.long x1), .second, .val (.long x2), .second, .val (.long x3), .second, .val (.long x4), .second, .val (.int (4 : Int32)), .val (.ref o47), .val (.int (1 : Int32))] [(.long (x3 * (2 : Int64))), (.long (own_s2 x3 x2))]) (fun _ kz => XS.lmul X63.here hx rfl (hb hby at_142) rfl kz) ?_
    refine own_g (mkF m 144 #[.val (.int x0), .val (.long x1), .second, .val (.long x2), .second, .val (.long x3), .second, .val (.long x4), .second, .val (.int (4 : Int32)), .val (.ref o47), .val (.int (1 : Int32))] [(.long x2), (.long (x3 * (2 : Int64))), (.long (own_s2 x3 x2))]) (fun _ kz => XS.lloadN X63.here hx rfl (hb hby at_143) rfl kz) ?_
    refine own_callS (rest := [(.long (x3 * (2 : Int64))), (.long (own_s2 x3 x2))]) (as := [(.long x2)]) X63 hx hZ hown e63 (own_c_carry l Z a0 hw x2 T58.heap) (own_w hw 6 rfl) (own_w hw 7 rfl) (own_w hw 8 rfl) (own_w hw 9 rfl) (by decide) own_pd1 rfl (by rw [hml]; rfl) rfl (hb hby at_144) 4 (by show 2 * 0 + _ ≤ _; exact Nat.le_of_eq rfl) (by decide) (by decide) (by decide) (by decide) ?_
    rintro _ T65 L65 X65 ⟨rfl, rfl, e65⟩
    have N65 := Fr.app N63 (Fr.nil n0)
    show own_E p e below _ (T65.setTop (mkF m 147 #[.val (.int x0), .val (.long x1), .second, .val (.long x2), .second, .val (.long x3), .second, .val (.long x4), .second, .val (.int (4 : Int32)), .val (.ref o47), .val (.int (1 : Int32))] [(.long (own_carry x2)), (.long (x3 * (2 : Int64))), (.long (own_s2 x3 x2))]))
    refine own_g (mkF m 148 #[.val (.int x0), .val (.long x1), .second, .val (.long x2), .second, .val (.long x3), .second, .val (.long x4), .second, .val (.int (4 : Int32)), .val (.ref o47), .val (.int (1 : Int32))] [(.long ((x3 * (2 : Int64)) + (own_carry x2))), (.long (own_s2 x3 x2))]) (fun _ kz => XS.ladd X65.here hx rfl (hb hby at_147) rfl kz) ?_
    refine own_g (mkF m 149 #[.val (.int x0), .val (.long x1), .second, .val (.long x2), .second, .val (.long x3), .second, .val (.long x4), .second, .val (.int (4 : Int32)), .val (.ref o47), .val (.int (1 : Int32))] [(.int (lcmpW (own_s2 x3 x2) ((x3 * (2 : Int64)) + (own_carry x2))))]) (fun _ kz => XS.lcmp X65.here hx rfl (hb hby at_148) rfl kz) ?_
    refine own_g (mkF m 152 #[.val (.int x0), .val (.long x1), .second, .val (.long x2), .second, .val (.long x3), .second, .val (.long x4), .second, .val (.int (4 : Int32)), .val (.ref o47), .val (.int (1 : Int32))] []) (fun _ kz => XS.ifNo X65.here hx rfl (hb hby at_149) rfl ((if0 _ _).trans (teq (own_lcT (own_e2 _ _))).2) kz) ?_
    refine own_g (mkF m 153 #[.val (.int x0), .val (.long x1), .second, .val (.long x2), .second, .val (.long x3), .second, .val (.long x4), .second, .val (.int (4 : Int32)), .val (.ref o47), .val (.int (1 : Int32))] [(.int (1 : Int32))]) (fun _ kz => XS.iconst X65.here hx rfl (hb hby at_152) kz) ?_
    refine own_g (mkF m 157 #[.val (.int x0), .val (.long x1), .second, .val (.long x2), .second, .val (.long x3), .second, .val (.long x4), .second, .val (.int (4 : Int32)), .val (.ref o47), .val (.int (1 : Int32))] [(.int (1 : Int32))]) (fun _ kz => XS.goto X65.here hx rfl (pc0 := 153) (pc' := 157) rfl (hb hby at_153) (by decide) (by decide) kz) ?_
    refine own_g (mkF m 159 #[.val (.int x0), .val (.long x1), .second, .val (.long x2), .second, .val (.long x3), .second, .val (.long x4), .second, .val (.int (4 : Int32)), .val (.ref o47), .val (.int (1 : Int32))] []) (fun _ kz => XS.istore X65.here hx rfl (hb hby at_157) rfl (l' := #[.val (.int x0), .val (.long x1), .second, .val (.long x2), .second, .val (.long x3), .second, .val (.long x4), .second, .val (.int (4 : Int32)), .val (.ref o47), .val (.int (1 : Int32))]) rfl kz) ?_
    refine own_g (mkF m 161 #[.val (.int x0), .val (.long x1), .second, .val (.long x2), .second, .val (.long x3), .second, .val (.long x4), .second, .val (.int (4 : Int32)), .val (.ref o47), .val (.int (1 : Int32))] [(.int (4 : Int32))]) (fun _ kz => XS.iload X65.here hx rfl (hb hby at_159) rfl kz) ?_
    refine own_g (mkF m 162 #[.val (.int x0), .val (.long x1), .second, .val (.long x2), .second, .val (.long x3), .second, .val (.long x4), .second, .val (.int (4 : Int32)), .val (.ref o47), .val (.int (1 : Int32))] [(.int (3 : Int32)), (.int (4 : Int32))]) (fun _ kz => XS.iconst X65.here hx rfl (hb hby at_161) kz) ?_
    refine own_g (mkF m 165 #[.val (.int x0), .val (.long x1), .second, .val (.long x2), .second, .val (.long x3), .second, .val (.long x4), .second, .val (.int (4 : Int32)), .val (.ref o47), .val (.int (1 : Int32))] []) (fun _ kz => XS.icmpNo X65.here hx rfl (hb hby at_162) rfl (tlt (by decide)).2.2.2 kz) ?_
    refine own_g (mkF m 167 #[.val (.int x0), .val (.long x1), .second, .val (.long x2), .second, .val (.long x3), .second, .val (.long x4), .second, .val (.int (4 : Int32)), .val (.ref o47), .val (.int (1 : Int32))] [(.int (1 : Int32))]) (fun _ kz => XS.iload X65.here hx rfl (hb hby at_165) rfl kz) ?_
    refine own_g (mkF m 170 #[.val (.int x0), .val (.long x1), .second, .val (.long x2), .second, .val (.long x3), .second, .val (.long x4), .second, .val (.int (4 : Int32)), .val (.ref o47), .val (.int (1 : Int32))] []) (fun _ kz => XS.ifNo X65.here hx rfl (hb hby at_167) rfl ((if0 _ _).trans (feq (by decide)).1) kz) ?_
    refine own_g (mkF m 172 #[.val (.int x0), .val (.long x1), .second, .val (.long x2), .second, .val (.long x3), .second, .val (.long x4), .second, .val (.int (4 : Int32)), .val (.ref o47), .val (.int (1 : Int32))] [(.ref o47)]) (fun _ kz => XS.aload X65.here hx rfl (hb hby at_170) rfl rfl kz) ?_
    refine own_g (mkF m 173 #[.val (.int x0), .val (.long x1), .second, .val (.long x2), .second, .val (.long x3), .second, .val (.long x4), .second, .val (.int (4 : Int32)), .val (.ref o47), .val (.int (1 : Int32))] [(.int (3 : Int32)), (.ref o47)]) (fun _ kz => XS.iconst X65.here hx rfl (hb hby at_172) kz) ?_
    have hv66 : own_dn F 3 = (own_s2 x4 x3) := by simp [own_dn, hF0, hF1, hF2, hF3]
    refine own_ildJ X65 hx hZ e65 A58 (hb hby at_173) (by decide) (i := 3) rfl (by decide) (x := (own_s2 x4 x3)) hv66 ?_
    show own_E p e below _ (T65.setTop (mkF m 174 #[.val (.int x0), .val (.long x1), .second, .val (.long x2), .second, .val (.long x3), .second, .val (.long x4), .second, .val (.int (4 : Int32)), .val (.ref o47), .val (.int (1 : Int32))] [(.long (own_s2 x4 x3))]))
    refine own_g (mkF m 176 #[.val (.int x0), .val (.long x1), .second, .val (.long x2), .second, .val (.long x3), .second, .val (.long x4), .second, .val (.int (4 : Int32)), .val (.ref o47), .val (.int (1 : Int32))] [(.long x4), (.long (own_s2 x4 x3))]) (fun _ kz => XS.lload X65.here hx rfl (hb hby at_174) rfl kz) ?_
    refine own_g (mkF m 179 #[.val (.int x0), .val (.long x1), .second, .val (.long x2), .second, .val (.long x3), .second, .val (.long x4), .second, .val (.int (4 : Int32)), .val (.ref o47), .val (.int (1 : Int32))] [(.long (2 : Int64)), (.long x4), (.long (own_s2 x4 x3))]) (fun _ kz => X65.ldc2Long hx hown (mvT hZ (own_w hw 5 rfl)) (g := (mkF m 176 #[.val (.int x0), .val (.long x1), .second, .val (.long x2), .second, .val (.long x3), .second, .val (.long x4), .second, .val (.int (4 : Int32)), .val (.ref o47), .val (.int (1 : Int32))] [(.long x4), (.long (own_s2 x4 x3))])) rfl (hb hby at_176) _ kz) ?_
    refine own_g (mkF m 180 #[.val (.int x0), .val (.long x1), .second, .val (.long x2), .second, .val (.long x3), .second, .val (.long x4), .second, .val (.int (4 : Int32)), .val (.ref o47), .val (.int (1 : Int32))] [(.long (x4 * (2 : Int64))), (.long (own_s2 x4 x3))]) (fun _ kz => XS.lmul X65.here hx rfl (hb hby at_179) rfl kz) ?_
    refine own_g (mkF m 182 #[.val (.int x0), .val (.long x1), .second, .val (.long x2), .second, .val (.long x3), .second, .val (.long x4), .second, .val (.int (4 : Int32)), .val (.ref o47), .val (.int (1 : Int32))] [(.long x3), (.long (x4 * (2 : Int64))), (.long (own_s2 x4 x3))]) (fun _ kz => XS.lload X65.here hx rfl (hb hby at_180) rfl kz) ?_
    refine own_callS (rest := [(.long (x4 * (2 : Int64))), (.long (own_s2 x4 x3))]) (as := [(.long x3)]) X65 hx hZ hown e65 (own_c_carry l Z a0 hw x3 T58.heap) (own_w hw 6 rfl) (own_w hw 7 rfl) (own_w hw 8 rfl) (own_w hw 9 rfl) (by decide) own_pd1 rfl (by rw [hml]; rfl) rfl (hb hby at_182) 4 (by show 2 * 0 + _ ≤ _; exact Nat.le_of_eq rfl) (by decide) (by decide) (by decide) (by decide) ?_
    rintro _ T67 L67 X67 ⟨rfl, rfl, e67⟩
    have N67 := Fr.app N65 (Fr.nil n0)
    show own_E p e below _ (T67.setTop (mkF m 185 #[.val (.int x0), .val (.long x1), .second, .val (.long x2), .second, .val (.long x3), .second, .val (.long x4), .second, .val (.int (4 : Int32)), .val (.ref o47), .val (.int (1 : Int32))] [(.long (own_carry x3)), (.long (x4 * (2 : Int64))), (.long (own_s2 x4 x3))]))
    refine own_g (mkF m 186 #[.val (.int x0), .val (.long x1), .second, .val (.long x2), .second, .val (.long x3), .second, .val (.long x4), .second, .val (.int (4 : Int32)), .val (.ref o47), .val (.int (1 : Int32))] [(.long ((x4 * (2 : Int64)) + (own_carry x3))), (.long (own_s2 x4 x3))]) (fun _ kz => XS.ladd X67.here hx rfl (hb hby at_185) rfl kz) ?_
    refine own_g (mkF m 187 #[.val (.int x0), .val (.long x1), .second, .val (.long x2), .second, .val (.long x3), .second, .val (.long x4), .second, .val (.int (4 : Int32)), .val (.ref o47), .val (.int (1 : Int32))] [(.int (lcmpW (own_s2 x4 x3) ((x4 * (2 : Int64)) + (own_carry x3))))]) (fun _ kz => XS.lcmp X67.here hx rfl (hb hby at_186) rfl kz) ?_
    refine own_g (mkF m 190 #[.val (.int x0), .val (.long x1), .second, .val (.long x2), .second, .val (.long x3), .second, .val (.long x4), .second, .val (.int (4 : Int32)), .val (.ref o47), .val (.int (1 : Int32))] []) (fun _ kz => XS.ifNo X67.here hx rfl (hb hby at_187) rfl ((if0 _ _).trans (teq (own_lcT (own_e2 _ _))).2) kz) ?_
    refine own_g (mkF m 191 #[.val (.int x0), .val (.long x1), .second, .val (.long x2), .second, .val (.long x3), .second, .val (.long x4), .second, .val (.int (4 : Int32)), .val (.ref o47), .val (.int (1 : Int32))] [(.int (1 : Int32))]) (fun _ kz => XS.iconst X67.here hx rfl (hb hby at_190) kz) ?_
    refine own_g (mkF m 195 #[.val (.int x0), .val (.long x1), .second, .val (.long x2), .second, .val (.long x3), .second, .val (.long x4), .second, .val (.int (4 : Int32)), .val (.ref o47), .val (.int (1 : Int32))] [(.int (1 : Int32))]) (fun _ kz => XS.goto X67.here hx rfl (pc0 := 191) (pc' := 195) rfl (hb hby at_191) (by decide) (by decide) kz) ?_
    refine own_g (mkF m 197 #[.val (.int x0), .val (.long x1), .second, .val (.long x2), .second, .val (.long x3), .second, .val (.long x4), .second, .val (.int (4 : Int32)), .val (.ref o47), .val (.int (1 : Int32))] []) (fun _ kz => XS.istore X67.here hx rfl (hb hby at_195) rfl (l' := #[.val (.int x0), .val (.long x1), .second, .val (.long x2), .second, .val (.long x3), .second, .val (.long x4), .second, .val (.int (4 : Int32)), .val (.ref o47), .val (.int (1 : Int32))]) rfl kz) ?_
    refine own_g (mkF m 199 #[.val (.int x0), .val (.long x1), .second, .val (.long x2), .second, .val (.long x3), .second, .val (.long x4), .second, .val (.int (4 : Int32)), .val (.ref o47), .val (.int (1 : Int32))] [(.int (1 : Int32))]) (fun _ kz => XS.iload X67.here hx rfl (hb hby at_197) rfl kz) ?_
    exact own_retZ X67 hx hret hlk (hb hby at_199) rfl (by decide) (by decide) (by first | exact ⟨rfl, N67⟩ | (rw [e67]; exact ⟨rfl, N67⟩))
theorem own_comes {Post : Tables → Env → Array Value → State → Outcome → State → Prop} (hpost : ∀ tb e args s v u, (limb_1_1.after args s (.returned v) u = true ∧ limb_1_2.after args s (.returned v) u = true ∧ True) → FrameEnd s (.returned v) u (Jvm.fieldLocs frame_1_writes args s ++ Jvm.arrayLocs frame_1_arrays args s ++ Jvm.staticLocs frame_1_statics s) 16 128 → Post tb e args s (.returned v) u) :
    ArmFor flags0 classFile x code maxLocals ret World_1 tables_1 room_1 Calls_1 rest_1 Pre_1 Post := by
  intro l hfl _ _ p e ha hc hk s m args below hf hA hF happ hP
  obtain ⟨hcalls, hrest, hpre⟩ := hP
  obtain ⟨-, -, -, hnamed, -, -, -, hat⟩ := (Spec.applies_iff hf).mp happ
  obtain ⟨hg, hn⟩ := and_e (Cond.before_iff.mp (show (Jvm.Cond.and given_1 narrow_1).before args s = true from hpre))
  obtain ⟨hcount, r0⟩ := and_e hg
  obtain ⟨q0, r1⟩ := and_e r0
  obtain ⟨q1, r2⟩ := and_e r1
  obtain ⟨q2, r3⟩ := and_e r2
  obtain ⟨q3, r4⟩ := and_e r3
  obtain ⟨w0, w1, w2, w3, w4, rfl⟩ : ∃ w0 w1 w2 w3 w4 : Value, args = #[w0, w1, w2, w3, w4] := by
    have hs : args.size = 5 := by simpa [Cond.value, given_1] using hcount
    obtain ⟨L⟩ := args
    match L, hs with
    | [w0, w1, w2, w3, w4], _ => exact ⟨w0, w1, w2, w3, w4, rfl⟩
  have hw := fun d (hd : d ∈ tables_1) => atoms_spec (ws := Jvm.Cond.code x code maxLocals ret :: tables_1) hat d (List.mem_cons_of_mem _ hd)
  obtain ⟨i0, e0⟩ := is_v q0
  obtain rfl : w0 = (.int i0) := Option.some.inj e0
  obtain ⟨i1, e1⟩ := isL_v q1
  obtain rfl : w1 = (.long i1) := Option.some.inj e1
  obtain ⟨i2, e2⟩ := isL_v q2
  obtain rfl : w2 = (.long i2) := Option.some.inj e2
  obtain ⟨i3, e3⟩ := isL_v q3
  obtain rfl : w3 = (.long i3) := Option.some.inj e3
  obtain ⟨i4, e4⟩ := isL_v r4
  obtain rfl : w4 = (.long i4) := Option.some.inj e4
  obtain ⟨n, o, h1, h2, h3, _, L, rfl, ⟨rfl, N⟩, hq⟩ := own_c_law l s _ hw i0 i1 i2 i3 i4 s.heap s.heap.size (Nat.le_refl _) p e ha hc hk s m _ below hf ((Spec.applies_iff_loose hf).mp happ).1 ⟨rfl, State.Warmed39.refl s, rfl⟩ trivial
  refine ⟨n, _, h1, h2, h3, hpost _ _ _ _ _ _ ⟨Cond.after_iff.mpr rfl, Cond.after_iff.mpr (eq_i res_at (Term.int_eval (1)) rfl), trivial⟩ ⟨hq.1, hq.2.1, (hq.2.2.sift fun y hy => Or.inr (N y hy)).mono (by decide) (by decide)⟩⟩
theorem main_1_1 : Claimed_1_1 := own_comes fun _ _ _ _ _ _ h hF => ⟨h.1, hF⟩
theorem main_1_2 : Claimed_1_2 := own_comes fun _ _ _ _ _ _ h hF => ⟨h.2.1, hF⟩
end Jvm.Pilot.@@N@@
namespace Jvm.Pilot.@@N@@
open Jvm Jvm.ClassFile Sem Op Lib Jvm.Free Jvm.Stand Jvm.Pilot.@@N@@.Jvm.D
/-! MADE BY PROGRAM (witnessworld.py) out of the Statement's table words and the real class files: 11 classes; the members and pool entries that the words name. The judged class is class 1, her method 2. -/
namespace start1
open Jvm.ClassFile
def u (s : String) : CpInfo := .utf8 (stringToUtf16 s)
/-- a pool by its gaps: so many unusable entries, then the entry; so many at the end -/
def gap : Nat → List CpInfo → List CpInfo
  | 0, r => r
  | n + 1, r => .unusable :: gap n r
def poolList (es : List (Nat × CpInfo)) (last : Nat) : List CpInfo := es.foldr (fun e r => gap e.1 (e.2 :: r)) (gap last [])
def pool (es : List (Nat × CpInfo)) (last : Nat) : Array CpInfo := ⟨poolList es last⟩
def fileOf (pool : Array CpInfo) (this : Nat) (attrs : Array Attribute := #[]) (ms : Array MethodInfo := #[]) (fl : Nat := 33) (sup : Nat := 0) (ifs : Array Nat := #[]) (fds : Array FieldInfo := #[]) : ClassFile where
  minorVersion := 0
  majorVersion := 65
  constantPool := pool
  accessFlags := fl
  thisClass := this
  superClass := sup
  interfaces := ifs
  fields := fds
  methods := ms
  attributes := attrs
def plain (name : String) (sup : Option ClassId) : Class where
  name := name
  kind := .ordinary
  loader := none
  accessFlags := 33
  super := sup
  interfaces := #[]
  cf := none
  fields := #[]
  methods := #[]
  instanceTypes := #[]
  staticTypes := #[]
  resolved := #[]
  callSites := []
  init := .initialized
  statics := none
  mirror := none

def pool0 : Array CpInfo := pool [(5, u "<init>"), (0, u "()V"), (1, .class_ 10), (1, u "java/lang/Object")] 113

def k0m0 : Method := { name := "<init>", desc := "()V", sig := { parameters := [], returnType := none }, accessFlags := 1, code := none }
/-- java/lang/Object -/
def k0 : Class := { plain "java/lang/Object" none with
  accessFlags := 33
  interfaces := #[]
  cf := some (fileOf pool0 8 #[] #[{ accessFlags := 1, nameIndex := 5, descriptorIndex := 6, attributes := #[] }] 33 0 #[] #[])
  fields := #[]
  methods := #[k0m0]
  instanceTypes := #[]
  staticTypes := #[]
  resolved := Array.replicate 124 none
  statics := none }

def pool1 : Array CpInfo := pool [(2, .class_ 4), (1, u "java/lang/Object"), (0, u "<init>"), (0, u "()V"), (0, .methodref 8 9), (0, .class_ 10), (0, .nameAndType 11 12), (0, u "com/example/deliver/deliver/topics/TopicLevels"), (0, u "goDown"), (0, u "([J)V"), (0, .long 2), (1, .methodref 16 17), (0, .class_ 18), (0, .nameAndType 19 20), (0, u "com/example/deliver/deliver/topics/TopicLevelsGoDownPinLaw"), (0, u "carry"), (0, u "(J)J"), (3, u "law"), (0, u "(IJJJJ)Z")] 4

def k1m0 : Method := { name := "<init>", desc := "()V", sig := { parameters := [], returnType := none }, accessFlags := 2, code := none }
def k1c1 : Code := { maxStack := 4, maxLocals := 2, code := method_2_code, exceptionTable := #[], attributes := #[] }
def k1m1 : Method := { name := "carry", desc := "(J)J", sig := { parameters := [.long], returnType := some .long }, accessFlags := 10, code := some k1c1 }
def k1c2 : Code := { maxStack := 6, maxLocals := 12, code := code, exceptionTable := #[], attributes := #[] }
def k1m2 : Method := { name := "law", desc := "(IJJJJ)Z", sig := { parameters := [.int, .long, .long, .long, .long], returnType := some .boolean }, accessFlags := 9, code := some k1c2 }
/-- com/example/deliver/deliver/topics/TopicLevelsGoDownPinLaw -/
def k1 : Class := { plain "com/example/deliver/deliver/topics/TopicLevelsGoDownPinLaw" (some 0) with
  accessFlags := 49
  interfaces := #[]
  cf := some (fileOf pool1 16 #[] #[{ accessFlags := 2, nameIndex := 5, descriptorIndex := 6, attributes := #[] }, { accessFlags := 10, nameIndex := 19, descriptorIndex := 20, attributes := #[] }, { accessFlags := 9, nameIndex := 24, descriptorIndex := 25, attributes := #[] }] 49 2 #[] #[])
  fields := #[]
  methods := #[k1m0, k1m1, k1m2]
  instanceTypes := #[]
  staticTypes := #[]
  resolved := Array.replicate 30 none
  statics := none }

def pool2 : Array CpInfo := pool [(2, .class_ 4), (1, u "java/lang/Object"), (6, .class_ 13), (1, u "com/example/deliver/deliver/topics/TopicLevels"), (0, u "levelsByName"), (0, u "Ljava/util/Map;"), (8, u "namespaceUri"), (3, u "Ljava/lang/String;"), (8, u "depth"), (0, u "I"), (4, u "everyLevel"), (0, u "[J"), (2, u "noLevel"), (39, u "goDown"), (0, u "([J)V")] 28

def k2c0 : Code := { maxStack := 7, maxLocals := 2, code := prog_50_method_7_code, exceptionTable := #[], attributes := #[] }
def k2m0 : Method := { name := "goDown", desc := "([J)V", sig := { parameters := [(.array .long)], returnType := none }, accessFlags := 8, code := some k2c0 }
/-- com/example/deliver/deliver/topics/TopicLevels -/
def k2 : Class := { plain "com/example/deliver/deliver/topics/TopicLevels" (some 0) with
  accessFlags := 33
  interfaces := #[]
  cf := some (fileOf pool2 11 #[] #[{ accessFlags := 8, nameIndex := 87, descriptorIndex := 88, attributes := #[] }] 33 2 #[] #[{ accessFlags := 18, nameIndex := 24, descriptorIndex := 28, attributes := #[] }, { accessFlags := 18, nameIndex := 37, descriptorIndex := 38, attributes := #[] }, { accessFlags := 18, nameIndex := 43, descriptorIndex := 44, attributes := #[] }, { accessFlags := 18, nameIndex := 47, descriptorIndex := 44, attributes := #[] }, { accessFlags := 18, nameIndex := 14, descriptorIndex := 15, attributes := #[] }])
  fields := #[{ name := "namespaceUri", type := (.object "java/lang/String"), accessFlags := 18, slot := 0, constantValue := 0 }, { name := "depth", type := .int, accessFlags := 18, slot := 1, constantValue := 0 }, { name := "everyLevel", type := (.array .long), accessFlags := 18, slot := 2, constantValue := 0 }, { name := "noLevel", type := (.array .long), accessFlags := 18, slot := 3, constantValue := 0 }, { name := "levelsByName", type := (.object "java/util/Map"), accessFlags := 18, slot := 4, constantValue := 0 }]
  methods := #[k2m0]
  instanceTypes := #[(.object "java/lang/String"), .int, (.array .long), (.array .long), (.object "java/util/Map")]
  staticTypes := #[]
  resolved := Array.replicate 117 none
  statics := none }

def pool3 : Array CpInfo := pool [(1, u "java/lang/Cloneable"), (0, .class_ 1), (0, u "java/lang/Object"), (0, .class_ 3)] 3

/-- java/lang/Cloneable -/
def k3 : Class := { plain "java/lang/Cloneable" (some 0) with
  accessFlags := 1537
  interfaces := #[]
  cf := some (fileOf pool3 2 #[] #[] 1537 4 #[] #[])
  fields := #[]
  methods := #[]
  instanceTypes := #[]
  staticTypes := #[]
  resolved := Array.replicate 8 none
  statics := none }

def pool4 : Array CpInfo := pool [(1, u "java/io/Serializable"), (0, .class_ 1), (0, u "java/lang/Object"), (0, .class_ 3)] 3

/-- java/io/Serializable -/
def k4 : Class := { plain "java/io/Serializable" (some 0) with
  accessFlags := 1537
  interfaces := #[]
  cf := some (fileOf pool4 2 #[] #[] 1537 4 #[] #[])
  fields := #[]
  methods := #[]
  instanceTypes := #[]
  staticTypes := #[]
  resolved := Array.replicate 8 none
  statics := none }

/-- the primitive byte -/
def k5 : Class := { plain "byte" none with kind := .primitive 'B', accessFlags := 0x411 }
/-- [B -/
def k6 : Class := { plain "[B" (some 0) with kind := .array 5 .byte, interfaces := #[3, 4], accessFlags := 1041 }

/-- the primitive int -/
def k7 : Class := { plain "int" none with kind := .primitive 'I', accessFlags := 0x411 }
/-- [I -/
def k8 : Class := { plain "[I" (some 0) with kind := .array 7 .int, interfaces := #[3, 4], accessFlags := 1041 }

/-- the primitive long -/
def k9 : Class := { plain "long" none with kind := .primitive 'J', accessFlags := 0x411 }
/-- [J -/
def k10 : Class := { plain "[J" (some 0) with kind := .array 9 .long, interfaces := #[3, 4], accessFlags := 1041 }

def heap : Heap := #[]
def classes : Array Class := #[k0, k1, k2, k3, k4, k5, k6, k7, k8, k9, k10]
def interned : List (Array UInt16 × Addr) := []
def slotsUsed : Nat := 0
def theMethod : MethodId := ⟨1, 2⟩
def args0 : Array Value := #[.int 5, .long 7, .long 3, .long 1, .long 2]
def aboutOver (below : List Frame) : State where
  vm := { classes := classes, interned := interned.toArray }
  heap := heap
  slotsUsed := slotsUsed
  threads := #[{ frames := .invoking theMethod args0 :: below }]
def below0 : List Frame := [.native { method := ⟨0, 0⟩, args := #[] }]
def about1 : State := aboutOver below0
def p0 : Program := .bare "" "" ""
def e0 : Env := launch0.env 0 0 0
theorem w_frames : about1.frames = Frame.invoking theMethod args0 :: below0 := rfl
set_option maxRecDepth 65536 in
theorem w_args : argsFit about1.vm theMethod args0 = true := by decide +kernel
set_option maxRecDepth 65536 in
theorem w_heap : heapFits about1 = true := by decide +kernel
set_option maxRecDepth 65536 in
theorem w_runnable : about1.curStatus? = some .runnable := by decide +kernel
set_option maxRecDepth 65536 in
theorem w_alone : about1.alone = true := by decide +kernel
set_option maxRecDepth 65536 in
theorem w_named : about1.methodNamed? x = some theMethod := by decide +kernel
set_option maxRecDepth 65536 in
theorem w_hears : about1.hears theMethod below0 = true := by decide +kernel
set_option maxRecDepth 65536 in
theorem w_ripe : about1.ripe theMethod args0 below0 = true := by decide +kernel
theorem w_running : about1.status = .running := rfl
set_option maxRecDepth 65536 in
theorem w_room : about1.hasRoom e0.platform room_1 = true :=
  launch0.hasRoom_least _ room_1 (by decide +kernel) (by decide +kernel) (by decide +kernel) (by decide +kernel) (by decide +kernel) (by decide +kernel)
theorem allAtoms_all (ts : List Jvm.Cond) (a : Array Jvm.Value) (st : Jvm.State) : (allAtoms ts).before a st = ts.all (fun c => c.before a st) := by
  induction ts with
  | nil => rfl
  | cons c t ih =>
    show (Jvm.Cond.and c (allAtoms t)).before a st = _
    rw [Jvm.Cond.before_and, ih, List.all_cons]
def words1 : List Jvm.Cond := Jvm.Cond.code x code maxLocals ret :: tables_1
/-- a 'code' word, met by the world's own term for the bytes: nothing is compared byte by byte -/
theorem code_word {y : MethodName} {bytes : ByteArray} {mx : Nat} {rt : Option FieldType} {a : Array Value} {s : State} {m : MethodId} {meth : Method} {c : Code} (h1 : s.methodNamed? y = some m) (h2 : s.vm.method? m = some meth) (h3 : meth.code = some c) (h4 : c.code = bytes)
    (h5 : (c.maxLocals == mx && c.exceptionTable.isEmpty && decide (c.maxStack ≤ mostOperands) && decide (meth.sig.returnType = rt) && !meth.locks && decide (parseMethodDescriptor y.desc = some meth.sig)) = true) : (Jvm.Cond.code y bytes mx rt).before a s = true := by
  simp only [Bool.and_eq_true, beq_iff_eq, Bool.not_eq_true', decide_eq_true_eq] at h5
  obtain ⟨⟨⟨⟨⟨g1, g2⟩, g3⟩, g4⟩, g5⟩, g6⟩ := h5
  simp [Cond.before, Cond.holds, Cond.value, h1, h2, h3, h4, g1, g2, g3, g4, g5, g6]
def isCode : Jvm.Cond → Bool
  | .code _ _ _ _ => true
  | _ => false
theorem all_split {L : List Jvm.Cond} {P : Jvm.Cond → Bool} (h1 : L.all (fun c => isCode c || P c) = true) (h2 : ∀ c ∈ L.filter isCode, P c = true) : L.all P = true := by
  refine List.all_eq_true.mpr fun c hc => ?_
  have h := List.all_eq_true.mp h1 c hc
  rcases Bool.eq_false_or_eq_true (isCode c) with hi | hi
  · exact h2 c (List.mem_filter.mpr ⟨hc, hi⟩)
  · simpa [hi] using h
set_option maxRecDepth 65536 in
theorem w_c0 : (Jvm.Cond.code x code maxLocals ret).before args0 about1 = true := code_word (m := ⟨1, 2⟩) (meth := k1m2) (c := k1c2) (by decide +kernel) rfl rfl rfl (by decide +kernel)
set_option maxRecDepth 65536 in
theorem w_c1 : (Jvm.Cond.code ({ cls := "com/example/deliver/deliver/topics/TopicLevels", name := "goDown", desc := "([J)V" } : Jvm.MethodName) prog_50_method_7_code (2 : Nat) (Option.none : Option Jvm.ClassFile.FieldType)).before args0 about1 = true := code_word (m := ⟨2, 0⟩) (meth := k2m0) (c := k2c0) (by decide +kernel) rfl rfl rfl (by decide +kernel)
set_option maxRecDepth 65536 in
theorem w_c2 : (Jvm.Cond.code ({ cls := "com/example/deliver/deliver/topics/TopicLevelsGoDownPinLaw", name := "carry", desc := "(J)J" } : Jvm.MethodName) method_2_code (2 : Nat) (Option.some Jvm.ClassFile.FieldType.long)).before args0 about1 = true := code_word (m := ⟨1, 1⟩) (meth := k1m1) (c := k1c1) (by decide +kernel) rfl rfl rfl (by decide +kernel)
def codes1 : List Jvm.Cond := [Jvm.Cond.code x code maxLocals ret, Jvm.Cond.code ({ cls := "com/example/deliver/deliver/topics/TopicLevels", name := "goDown", desc := "([J)V" } : Jvm.MethodName) prog_50_method_7_code (2 : Nat) (Option.none : Option Jvm.ClassFile.FieldType), Jvm.Cond.code ({ cls := "com/example/deliver/deliver/topics/TopicLevelsGoDownPinLaw", name := "carry", desc := "(J)J" } : Jvm.MethodName) method_2_code (2 : Nat) (Option.some Jvm.ClassFile.FieldType.long)]
set_option maxRecDepth 65536 in
theorem codes_eq : words1.filter isCode = codes1 := rfl
theorem w_codes : ∀ c ∈ words1.filter isCode, c.before args0 about1 = true := by
  rw [codes_eq]
  intro c hc
  simp only [codes1, List.mem_cons, List.not_mem_nil, or_false] at hc
  rcases hc with rfl | rfl | rfl
  · exact w_c0
  · exact w_c1
  · exact w_c2
set_option maxRecDepth 65536 in
theorem w_t1 : words1.all (fun c => isCode c || c.before args0 about1) = true := by decide +kernel
theorem w_tables : (allAtoms (Jvm.Cond.code x code maxLocals ret :: tables_1)).before args0 about1 = true := by
  rw [allAtoms_all]
  show words1.all (fun c => c.before args0 about1) = true
  refine all_split ?_ w_codes
  rw [w_t1]
set_option maxRecDepth 65536 in
theorem w_case : (Jvm.Cond.and given_1 narrow_1).before args0 about1 = true := by decide +kernel
theorem w_applies : (headSpec (Jvm.Cond.code x code maxLocals ret :: tables_1) room_1).applies x e0.platform about1 = true :=
  (Spec.applies_iff w_frames).mpr ⟨w_running, w_runnable, w_alone, w_named, w_hears, w_ripe, w_room, w_tables⟩
theorem atStart : AtStart classFile x code maxLocals ret World_1 tables_1 room_1 Calls_1 rest_1 Pre_1 launch0 p0 e0 about1 theMethod args0 below0 :=
  ⟨lists_1, trivial, launch0.admits_env _ _ _, launch0.least_env, fairChoices_fair.cas, fairChoices_fair.clock, w_frames, w_args, w_heap, w_applies, trivial, trivial, w_case⟩
end start1
theorem witness_1 : WitnessClaimed_1 := ⟨start1.p0, start1.e0, start1.about1, start1.theMethod, start1.args0, start1.below0, start1.atStart⟩
end Jvm.Pilot.@@N@@
