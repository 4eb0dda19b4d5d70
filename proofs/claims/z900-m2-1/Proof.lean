import JvmDerived
import JvmDerived.Pilot.@@N@@Statement
import JvmDerived.Pilot.@@N@@Code
set_option linter.unusedVariables false
set_option linter.unusedSimpArgs false
namespace Jvm.Pilot.@@N@@
open Jvm Jvm.ClassFile Sem Op Lib Jvm.Free Jvm.Stand Jvm.LawKit Jvm.RoadKit Bundle Jvm.Pilot.@@N@@.Jvm.D
section Own
variable {p : Program} {l : Launch} {e : Env} {R : Room} {s : State} {m : MethodId} {args : Array Value} {below : List Frame} {meth : Method} {c : Code} {T : State} {locs : List Loc} {cells slots : Nat} {Z : State} {a0 : Array Value} {h : Heap} {P : State → Outcome → Prop} {pc pc' : Nat} {Ls Ls' : Array Slot} {st : List Value}
/-- from the state A the run comes to an end of which P speaks -/
def Dn (p : Program) (e : Env) (below : List Frame) (P : State → Outcome → Prop) (A : State) : Prop := ∃ s₂ o, Steps p.tables e below A s₂ ∧ P s₂ o
/-- the invocation has ended, returned, and Q holds of what it returned, the heap and the places written -/
def PQ (below : List Frame) (s : State) (Q : Option Value → Heap → List Loc → Prop) (k n : Nat) (s₂ : State) (o : Outcome) : Prop :=
  s₂.status = .running ∧ Ended s₂ below o ∧ ∃ v L, o = .returned v ∧ Q v s₂.heap L ∧ FrameEnd s o s₂ L k n
theorem go {A B : State} (w : ∀ t, Steps p.tables e below B t → Steps p.tables e below A t) (k : Dn p e below P B) : Dn p e below P A := by
  obtain ⟨s₂, o, h1, h2⟩ := k
  exact ⟨s₂, o, w _ h1, h2⟩
theorem goS {A B : State} (w : Steps p.tables e below A B) (k : Dn p e below P B) : Dn p e below P A := by
  obtain ⟨s₂, o, h1, h2⟩ := k
  exact ⟨s₂, o, w.trans h1, h2⟩
/-- a method's contract, at given arguments and a given heap -/
abbrev Ctr (l : Launch) (Z : State) (y : MethodName) (bytes : ByteArray) (maxL : Nat) (ret : Option FieldType) (ws : List Jvm.Cond) (R : Room) (as' : Array Value) (h0 : Heap) (Q : Option Value → Heap → List Loc → Prop) : Prop :=
  MetFree l y (head1 (Jvm.Cond.code y bytes maxL ret :: ws) R) (fun a U => a = as' ∧ Z.Warmed39 U.vm ∧ U.heap = h0) (fun _ _ _ _ _ => True) (fun _ U o U' => ∃ v L, o = .returned v ∧ Q v U'.heap L ∧ FrameEnd U o U' L R.cells R.slots)
theorem ctr_mk {y : MethodName} {bytes : ByteArray} {maxL : Nat} {ret : Option FieldType} {ws : List Jvm.Cond} {as' : Array Value} {h0 : Heap} {Q : Option Value → Heap → List Loc → Prop} {own mn : String} (hpl : plainFor y = true) (ho : y.cls = own) (hmn : y.name = mn)
    (body : ∀ (p : Program) (e : Env) (s : State) (m : MethodId) (below : List Frame) (meth : Method) (c : Code) (T : State), Stand p l e R s m as' below meth c T [] 0 0 → p.tables.exec = Jvm.exec → c.code = bytes → c.maxLocals = maxL → Z.Warmed39 s.vm → s.vm.findClass own = some m.cls → meth.name = mn → meth.sig.returnType = ret → meth.locks = false → T.heap = h0 →
      Dn p e below (PQ below s Q R.cells R.slots) (T.setTop (entryFrame m as' maxL))) : Ctr l Z y bytes maxL ret ws R as' h0 Q := by
  subst ho hmn
  refine MetFree.of_bodySF hpl hisR ?_
  intro p e s m args below meth c s₁ Bd hml hP hK
  obtain ⟨rfl, hZ, hh⟩ := hP
  have e0 : s₁.heap = h0 := by rw [← hh, Bd.state]; rfl
  obtain ⟨s₂, o, h1, h2, h3, h4⟩ := body p e s m below meth c s₁ (Stand.of_body Bd) Bd.exec Bd.bytes hml hZ (findClass_of_methodNamed Bd.named) (name_of_methodNamed Bd.named Bd.method).1 Bd.returns Bd.notSynchronized e0
  exact ⟨s₂, o, h1, h2, h3, h4⟩
theorem o_entry {g : JFrame} {as' : Array Value} {maxL : Nat} (q : entryFrame m as' maxL = g) (k : Dn p e below P (T.setTop g)) : Dn p e below P (T.setTop (entryFrame m as' maxL)) := q ▸ k
theorem fin_of {Q : Option Value → Heap → List Loc → Prop} {k n : Nat} {v : Option Value} {A : State} (X : Stand p l e R s m args below meth c T locs cells slots) (hlk : meth.locks = false) (hv : meth.sig.returnType = none → v = none) (hc : cells ≤ k) (hs : slots ≤ n) (hQ : Q v T.heap locs)
    (w : ∀ fs, (∀ (f : JFrame) (acts : List Action), f.method = m → f.locked = none → f.entered = [] → (doReturn e (T.setTop f) acts v).1 = T.setFrames fs) → Steps p.tables e below A (T.setFrames fs)) : Dn p e below (PQ below s Q k n) A := by
  obtain ⟨fs, hr, hrun, hended, hW, hsame⟩ := X.leave (v := v) hv hlk
  exact ⟨_, _, w fs hr, hrun, hended, _, _, rfl, hQ, ⟨_, rfl⟩, hW, hsame.mono hc hs⟩
theorem finI {Q : Option Value → Heap → List Loc → Prop} {k n : Nat} (X : Stand p l e R s m args below meth c T locs cells slots) (hx : p.tables.exec = Jvm.exec) (hlk : meth.locks = false) {z : Int32} (hret : meth.sig.returnType = some .int) (hd : decode c.code pc = .ok (.ireturn, 1)) (hc : cells ≤ k) (hs : slots ≤ n) (hQ : Q (some (.int z)) T.heap locs) :
    Dn p e below (PQ below s Q k n) (T.setTop (mkF m pc Ls (.int z :: st))) :=
  fin_of X hlk (fun q => by rw [hret] at q; cases q) hc hs hQ (fun fs hr => retOut X hx hret rfl (Or.inl ⟨rfl, Or.inl rfl, _, rfl⟩) hd hr)
theorem finN {Q : Option Value → Heap → List Loc → Prop} {k n : Nat} (X : Stand p l e R s m args below meth c T locs cells slots) (hx : p.tables.exec = Jvm.exec) (hlk : meth.locks = false) {z : Int32} {t : FieldType} (hret : meth.sig.returnType = some t) (ht : t = .boolean ∨ t = .byte ∨ t = .char ∨ t = .short) (hd : decode c.code pc = .ok (.ireturn, 1)) (hc : cells ≤ k) (hs : slots ≤ n) (hQ : Q (some (.int (nar t z))) T.heap locs) :
    Dn p e below (PQ below s Q k n) (T.setTop (mkF m pc Ls (.int z :: st))) :=
  fin_of X hlk (fun q => by rw [hret] at q; cases q) hc hs hQ (fun fs hr => retN X hx hret ht hd hr)
theorem finJ {Q : Option Value → Heap → List Loc → Prop} {k n : Nat} (X : Stand p l e R s m args below meth c T locs cells slots) (hx : p.tables.exec = Jvm.exec) (hlk : meth.locks = false) {z : Int64} (hret : meth.sig.returnType = some .long) (hd : decode c.code pc = .ok (.lreturn, 1)) (hc : cells ≤ k) (hs : slots ≤ n) (hQ : Q (some (.long z)) T.heap locs) :
    Dn p e below (PQ below s Q k n) (T.setTop (mkF m pc Ls (.long z :: st))) :=
  fin_of X hlk (fun q => by rw [hret] at q; cases q) hc hs hQ (fun fs hr => retOut X hx hret rfl (Or.inr (Or.inl ⟨rfl, rfl, _, rfl⟩)) hd hr)
theorem finA {Q : Option Value → Heap → List Loc → Prop} {k n : Nat} (X : Stand p l e R s m args below meth c T locs cells slots) (hx : p.tables.exec = Jvm.exec) (hlk : meth.locks = false) {w : Value} {t : FieldType} (hw : w.isRef = true) (hret : meth.sig.returnType = some t) (ht : t.isReference = true) (hn : narrow t w = w) (hd : decode c.code pc = .ok (.areturn, 1)) (hc : cells ≤ k) (hs : slots ≤ n) (hQ : Q (some w) T.heap locs) :
    Dn p e below (PQ below s Q k n) (T.setTop (mkF m pc Ls (w :: st))) :=
  fin_of X hlk (fun q => by rw [hret] at q; cases q) hc hs hQ (fun fs hr => retOut X hx hret hn (Or.inr (Or.inr (Or.inr (Or.inr ⟨rfl, ht, hw⟩)))) hd hr)
theorem finV {Q : Option Value → Heap → List Loc → Prop} {k n : Nat} (X : Stand p l e R s m args below meth c T locs cells slots) (hx : p.tables.exec = Jvm.exec) (hlk : meth.locks = false) (hret : meth.sig.returnType = none) (hd : decode c.code pc = .ok (.return_, 1)) (hc : cells ≤ k) (hs : slots ≤ n) (hQ : Q none T.heap locs) :
    Dn p e below (PQ below s Q k n) (T.setTop (mkF m pc Ls [])) :=
  fin_of X hlk (fun _ => rfl) hc hs hQ (fun fs hr => X.returnOut hx hret hd hr)
theorem o_iload (X : Stand p l e R s m args below meth c T locs cells slots) (hx : p.tables.exec = Jvm.exec) {k : Nat} {v : Int32} (hd : decode c.code pc = .ok (.iload k, 2)) (hp : pc + 2 = pc') (hl : Ls[k]? = some (.val (.int v))) (K : Dn p e below P (T.setTop (mkF m pc' Ls (.int v :: st)))) : Dn p e below P (T.setTop (mkF m pc Ls st)) := by
  subst hp
  obtain ⟨s₂, o, h1, h2⟩ := K
  exact ⟨s₂, o, XS.iload X.here hx rfl hd hl h1, h2⟩
theorem o_iloadN (X : Stand p l e R s m args below meth c T locs cells slots) (hx : p.tables.exec = Jvm.exec) {k : Fin 4} {v : Int32} (hd : decode c.code pc = .ok (.iload_n k, 1)) (hp : pc + 1 = pc') (hl : Ls[k.val]? = some (.val (.int v))) (K : Dn p e below P (T.setTop (mkF m pc' Ls (.int v :: st)))) : Dn p e below P (T.setTop (mkF m pc Ls st)) := by
  subst hp
  obtain ⟨s₂, o, h1, h2⟩ := K
  exact ⟨s₂, o, XS.iloadN X.here hx rfl hd hl h1, h2⟩
theorem o_istore (X : Stand p l e R s m args below meth c T locs cells slots) (hx : p.tables.exec = Jvm.exec) {k : Nat} {v : Int32} (hd : decode c.code pc = .ok (.istore k, 2)) (hp : pc + 2 = pc') (hl : storeLocals Ls k (.int v) = some Ls') (K : Dn p e below P (T.setTop (mkF m pc' Ls' st))) : Dn p e below P (T.setTop (mkF m pc Ls (.int v :: st))) := by
  subst hp
  obtain ⟨s₂, o, h1, h2⟩ := K
  exact ⟨s₂, o, XS.istore X.here hx rfl hd rfl hl h1, h2⟩
theorem o_istoreN (X : Stand p l e R s m args below meth c T locs cells slots) (hx : p.tables.exec = Jvm.exec) {k : Fin 4} {v : Int32} (hd : decode c.code pc = .ok (.istore_n k, 1)) (hp : pc + 1 = pc') (hl : storeLocals Ls k.val (.int v) = some Ls') (K : Dn p e below P (T.setTop (mkF m pc' Ls' st))) : Dn p e below P (T.setTop (mkF m pc Ls (.int v :: st))) := by
  subst hp
  obtain ⟨s₂, o, h1, h2⟩ := K
  exact ⟨s₂, o, XS.istoreN X.here hx rfl hd rfl hl h1, h2⟩
theorem o_lload (X : Stand p l e R s m args below meth c T locs cells slots) (hx : p.tables.exec = Jvm.exec) {k : Nat} {v : Int64} (hd : decode c.code pc = .ok (.lload k, 2)) (hp : pc + 2 = pc') (hl : Ls[k]? = some (.val (.long v))) (K : Dn p e below P (T.setTop (mkF m pc' Ls (.long v :: st)))) : Dn p e below P (T.setTop (mkF m pc Ls st)) := by
  subst hp
  obtain ⟨s₂, o, h1, h2⟩ := K
  exact ⟨s₂, o, XS.lload X.here hx rfl hd hl h1, h2⟩
theorem o_lloadN (X : Stand p l e R s m args below meth c T locs cells slots) (hx : p.tables.exec = Jvm.exec) {k : Fin 4} {v : Int64} (hd : decode c.code pc = .ok (.lload_n k, 1)) (hp : pc + 1 = pc') (hl : Ls[k.val]? = some (.val (.long v))) (K : Dn p e below P (T.setTop (mkF m pc' Ls (.long v :: st)))) : Dn p e below P (T.setTop (mkF m pc Ls st)) := by
  subst hp
  obtain ⟨s₂, o, h1, h2⟩ := K
  exact ⟨s₂, o, XS.lloadN X.here hx rfl hd hl h1, h2⟩
theorem o_lstore (X : Stand p l e R s m args below meth c T locs cells slots) (hx : p.tables.exec = Jvm.exec) {k : Nat} {v : Int64} (hd : decode c.code pc = .ok (.lstore k, 2)) (hp : pc + 2 = pc') (hl : storeLocals Ls k (.long v) = some Ls') (K : Dn p e below P (T.setTop (mkF m pc' Ls' st))) : Dn p e below P (T.setTop (mkF m pc Ls (.long v :: st))) := by
  subst hp
  obtain ⟨s₂, o, h1, h2⟩ := K
  exact ⟨s₂, o, XS.lstore X.here hx rfl hd rfl hl h1, h2⟩
theorem o_lstoreN (X : Stand p l e R s m args below meth c T locs cells slots) (hx : p.tables.exec = Jvm.exec) {k : Fin 4} {v : Int64} (hd : decode c.code pc = .ok (.lstore_n k, 1)) (hp : pc + 1 = pc') (hl : storeLocals Ls k.val (.long v) = some Ls') (K : Dn p e below P (T.setTop (mkF m pc' Ls' st))) : Dn p e below P (T.setTop (mkF m pc Ls (.long v :: st))) := by
  subst hp
  obtain ⟨s₂, o, h1, h2⟩ := K
  exact ⟨s₂, o, XS.lstoreN X.here hx rfl hd rfl hl h1, h2⟩
theorem o_aload (X : Stand p l e R s m args below meth c T locs cells slots) (hx : p.tables.exec = Jvm.exec) {k : Nat} {v : Value} (hd : decode c.code pc = .ok (.aload k, 2)) (hp : pc + 2 = pc') (hl : Ls[k]? = some (.val v)) (hv : v.isRef = true) (K : Dn p e below P (T.setTop (mkF m pc' Ls (v :: st)))) : Dn p e below P (T.setTop (mkF m pc Ls st)) := by
  subst hp
  obtain ⟨s₂, o, h1, h2⟩ := K
  exact ⟨s₂, o, XS.aload X.here hx rfl hd hl hv h1, h2⟩
theorem o_aloadN (X : Stand p l e R s m args below meth c T locs cells slots) (hx : p.tables.exec = Jvm.exec) {k : Fin 4} {v : Value} (hd : decode c.code pc = .ok (.aload_n k, 1)) (hp : pc + 1 = pc') (hl : Ls[k.val]? = some (.val v)) (hv : v.isRef = true) (K : Dn p e below P (T.setTop (mkF m pc' Ls (v :: st)))) : Dn p e below P (T.setTop (mkF m pc Ls st)) := by
  subst hp
  obtain ⟨s₂, o, h1, h2⟩ := K
  exact ⟨s₂, o, XS.aloadN X.here hx rfl hd hl hv h1, h2⟩
theorem o_astore (X : Stand p l e R s m args below meth c T locs cells slots) (hx : p.tables.exec = Jvm.exec) {k : Nat} {v : Value} (hd : decode c.code pc = .ok (.astore k, 2)) (hp : pc + 2 = pc') (hv : v.isRef = true) (hl : storeLocals Ls k v = some Ls') (K : Dn p e below P (T.setTop (mkF m pc' Ls' st))) : Dn p e below P (T.setTop (mkF m pc Ls (v :: st))) := by
  subst hp
  obtain ⟨s₂, o, h1, h2⟩ := K
  exact ⟨s₂, o, XS.astore X.here hx rfl hd rfl hv hl h1, h2⟩
theorem o_astoreN (X : Stand p l e R s m args below meth c T locs cells slots) (hx : p.tables.exec = Jvm.exec) {k : Fin 4} {v : Value} (hd : decode c.code pc = .ok (.astore_n k, 1)) (hp : pc + 1 = pc') (hv : v.isRef = true) (hl : storeLocals Ls k.val v = some Ls') (K : Dn p e below P (T.setTop (mkF m pc' Ls' st))) : Dn p e below P (T.setTop (mkF m pc Ls (v :: st))) := by
  subst hp
  obtain ⟨s₂, o, h1, h2⟩ := K
  exact ⟨s₂, o, XS.astoreN X.here hx rfl hd rfl hv hl h1, h2⟩
theorem o_iconst (X : Stand p l e R s m args below meth c T locs cells slots) (hx : p.tables.exec = Jvm.exec) {i : Int} {v : Int32} (hd : decode c.code pc = .ok (.iconst i, 1)) (hp : pc + 1 = pc') (hv : Int32.ofInt i = v) (K : Dn p e below P (T.setTop (mkF m pc' Ls (.int v :: st)))) : Dn p e below P (T.setTop (mkF m pc Ls st)) := by
  subst hp hv
  obtain ⟨s₂, o, h1, h2⟩ := K
  exact ⟨s₂, o, XS.iconst X.here hx rfl hd h1, h2⟩
theorem o_bipush (X : Stand p l e R s m args below meth c T locs cells slots) (hx : p.tables.exec = Jvm.exec) {i : Int} {v : Int32} (hd : decode c.code pc = .ok (.bipush i, 2)) (hp : pc + 2 = pc') (hv : (Int8.ofInt i).toInt32 = v) (K : Dn p e below P (T.setTop (mkF m pc' Ls (.int v :: st)))) : Dn p e below P (T.setTop (mkF m pc Ls st)) := by
  subst hp hv
  obtain ⟨s₂, o, h1, h2⟩ := K
  exact ⟨s₂, o, XS.bipush X.here hx rfl hd h1, h2⟩
theorem o_sipush (X : Stand p l e R s m args below meth c T locs cells slots) (hx : p.tables.exec = Jvm.exec) {i : Int} {v : Int32} (hd : decode c.code pc = .ok (.sipush i, 3)) (hp : pc + 3 = pc') (hv : (Int16.ofInt i).toInt32 = v) (K : Dn p e below P (T.setTop (mkF m pc' Ls (.int v :: st)))) : Dn p e below P (T.setTop (mkF m pc Ls st)) := by
  subst hp hv
  obtain ⟨s₂, o, h1, h2⟩ := K
  exact ⟨s₂, o, XS.sipush X.here hx rfl hd h1, h2⟩
theorem o_lconst (X : Stand p l e R s m args below meth c T locs cells slots) (hx : p.tables.exec = Jvm.exec) {k : Fin 2} {v : Int64} (hd : decode c.code pc = .ok (.lconst k, 1)) (hp : pc + 1 = pc') (hv : Int64.ofNat k = v) (K : Dn p e below P (T.setTop (mkF m pc' Ls (.long v :: st)))) : Dn p e below P (T.setTop (mkF m pc Ls st)) := by
  subst hp hv
  obtain ⟨s₂, o, h1, h2⟩ := K
  exact ⟨s₂, o, XS.lconst X.here hx rfl hd h1, h2⟩
theorem o_aconstNull (X : Stand p l e R s m args below meth c T locs cells slots) (hx : p.tables.exec = Jvm.exec)  (hd : decode c.code pc = .ok (.aconst_null, 1)) (hp : pc + 1 = pc')  (K : Dn p e below P (T.setTop (mkF m pc' Ls (.null :: st)))) : Dn p e below P (T.setTop (mkF m pc Ls st)) := by
  subst hp
  obtain ⟨s₂, o, h1, h2⟩ := K
  exact ⟨s₂, o, XS.aconstNull X.here hx rfl hd  h1, h2⟩
theorem o_iadd (X : Stand p l e R s m args below meth c T locs cells slots) (hx : p.tables.exec = Jvm.exec) {x y : Int32} (hd : decode c.code pc = .ok (.iadd, 1)) (hp : pc + 1 = pc')  (K : Dn p e below P (T.setTop (mkF m pc' Ls (.int (x + y) :: st)))) : Dn p e below P (T.setTop (mkF m pc Ls (.int y :: .int x :: st))) := by
  subst hp
  obtain ⟨s₂, o, h1, h2⟩ := K
  exact ⟨s₂, o, XS.iadd X.here hx rfl hd rfl h1, h2⟩
theorem o_isub (X : Stand p l e R s m args below meth c T locs cells slots) (hx : p.tables.exec = Jvm.exec) {x y : Int32} (hd : decode c.code pc = .ok (.isub, 1)) (hp : pc + 1 = pc')  (K : Dn p e below P (T.setTop (mkF m pc' Ls (.int (x - y) :: st)))) : Dn p e below P (T.setTop (mkF m pc Ls (.int y :: .int x :: st))) := by
  subst hp
  obtain ⟨s₂, o, h1, h2⟩ := K
  exact ⟨s₂, o, XS.isub X.here hx rfl hd rfl h1, h2⟩
theorem o_imul (X : Stand p l e R s m args below meth c T locs cells slots) (hx : p.tables.exec = Jvm.exec) {x y : Int32} (hd : decode c.code pc = .ok (.imul, 1)) (hp : pc + 1 = pc')  (K : Dn p e below P (T.setTop (mkF m pc' Ls (.int (x * y) :: st)))) : Dn p e below P (T.setTop (mkF m pc Ls (.int y :: .int x :: st))) := by
  subst hp
  obtain ⟨s₂, o, h1, h2⟩ := K
  exact ⟨s₂, o, XS.imul X.here hx rfl hd rfl h1, h2⟩
theorem o_iand (X : Stand p l e R s m args below meth c T locs cells slots) (hx : p.tables.exec = Jvm.exec) {x y : Int32} (hd : decode c.code pc = .ok (.iand, 1)) (hp : pc + 1 = pc')  (K : Dn p e below P (T.setTop (mkF m pc' Ls (.int (x &&& y) :: st)))) : Dn p e below P (T.setTop (mkF m pc Ls (.int y :: .int x :: st))) := by
  subst hp
  obtain ⟨s₂, o, h1, h2⟩ := K
  exact ⟨s₂, o, XS.iand X.here hx rfl hd rfl h1, h2⟩
theorem o_ior (X : Stand p l e R s m args below meth c T locs cells slots) (hx : p.tables.exec = Jvm.exec) {x y : Int32} (hd : decode c.code pc = .ok (.ior, 1)) (hp : pc + 1 = pc')  (K : Dn p e below P (T.setTop (mkF m pc' Ls (.int (x ||| y) :: st)))) : Dn p e below P (T.setTop (mkF m pc Ls (.int y :: .int x :: st))) := by
  subst hp
  obtain ⟨s₂, o, h1, h2⟩ := K
  exact ⟨s₂, o, XS.ior X.here hx rfl hd rfl h1, h2⟩
theorem o_ixor (X : Stand p l e R s m args below meth c T locs cells slots) (hx : p.tables.exec = Jvm.exec) {x y : Int32} (hd : decode c.code pc = .ok (.ixor, 1)) (hp : pc + 1 = pc')  (K : Dn p e below P (T.setTop (mkF m pc' Ls (.int (x ^^^ y) :: st)))) : Dn p e below P (T.setTop (mkF m pc Ls (.int y :: .int x :: st))) := by
  subst hp
  obtain ⟨s₂, o, h1, h2⟩ := K
  exact ⟨s₂, o, XS.ixor X.here hx rfl hd rfl h1, h2⟩
theorem o_ladd (X : Stand p l e R s m args below meth c T locs cells slots) (hx : p.tables.exec = Jvm.exec) {x y : Int64} (hd : decode c.code pc = .ok (.ladd, 1)) (hp : pc + 1 = pc')  (K : Dn p e below P (T.setTop (mkF m pc' Ls (.long (x + y) :: st)))) : Dn p e below P (T.setTop (mkF m pc Ls (.long y :: .long x :: st))) := by
  subst hp
  obtain ⟨s₂, o, h1, h2⟩ := K
  exact ⟨s₂, o, XS.ladd X.here hx rfl hd rfl h1, h2⟩
theorem o_lsub (X : Stand p l e R s m args below meth c T locs cells slots) (hx : p.tables.exec = Jvm.exec) {x y : Int64} (hd : decode c.code pc = .ok (.lsub, 1)) (hp : pc + 1 = pc')  (K : Dn p e below P (T.setTop (mkF m pc' Ls (.long (x - y) :: st)))) : Dn p e below P (T.setTop (mkF m pc Ls (.long y :: .long x :: st))) := by
  subst hp
  obtain ⟨s₂, o, h1, h2⟩ := K
  exact ⟨s₂, o, XS.lsub X.here hx rfl hd rfl h1, h2⟩
theorem o_lmul (X : Stand p l e R s m args below meth c T locs cells slots) (hx : p.tables.exec = Jvm.exec) {x y : Int64} (hd : decode c.code pc = .ok (.lmul, 1)) (hp : pc + 1 = pc')  (K : Dn p e below P (T.setTop (mkF m pc' Ls (.long (x * y) :: st)))) : Dn p e below P (T.setTop (mkF m pc Ls (.long y :: .long x :: st))) := by
  subst hp
  obtain ⟨s₂, o, h1, h2⟩ := K
  exact ⟨s₂, o, XS.lmul X.here hx rfl hd rfl h1, h2⟩
theorem o_land (X : Stand p l e R s m args below meth c T locs cells slots) (hx : p.tables.exec = Jvm.exec) {x y : Int64} (hd : decode c.code pc = .ok (.land, 1)) (hp : pc + 1 = pc')  (K : Dn p e below P (T.setTop (mkF m pc' Ls (.long (x &&& y) :: st)))) : Dn p e below P (T.setTop (mkF m pc Ls (.long y :: .long x :: st))) := by
  subst hp
  obtain ⟨s₂, o, h1, h2⟩ := K
  exact ⟨s₂, o, XS.land X.here hx rfl hd rfl h1, h2⟩
theorem o_lor (X : Stand p l e R s m args below meth c T locs cells slots) (hx : p.tables.exec = Jvm.exec) {x y : Int64} (hd : decode c.code pc = .ok (.lor, 1)) (hp : pc + 1 = pc')  (K : Dn p e below P (T.setTop (mkF m pc' Ls (.long (x ||| y) :: st)))) : Dn p e below P (T.setTop (mkF m pc Ls (.long y :: .long x :: st))) := by
  subst hp
  obtain ⟨s₂, o, h1, h2⟩ := K
  exact ⟨s₂, o, XS.lor X.here hx rfl hd rfl h1, h2⟩
theorem o_lxor (X : Stand p l e R s m args below meth c T locs cells slots) (hx : p.tables.exec = Jvm.exec) {x y : Int64} (hd : decode c.code pc = .ok (.lxor, 1)) (hp : pc + 1 = pc')  (K : Dn p e below P (T.setTop (mkF m pc' Ls (.long (x ^^^ y) :: st)))) : Dn p e below P (T.setTop (mkF m pc Ls (.long y :: .long x :: st))) := by
  subst hp
  obtain ⟨s₂, o, h1, h2⟩ := K
  exact ⟨s₂, o, XS.lxor X.here hx rfl hd rfl h1, h2⟩
theorem o_ishl (X : Stand p l e R s m args below meth c T locs cells slots) (hx : p.tables.exec = Jvm.exec) {x : Int32} {y : Int32} (hd : decode c.code pc = .ok (.ishl, 1)) (hp : pc + 1 = pc')  (K : Dn p e below P (T.setTop (mkF m pc' Ls (.int (x <<< (y &&& 31)) :: st)))) : Dn p e below P (T.setTop (mkF m pc Ls (.int y :: .int x :: st))) := by
  subst hp
  obtain ⟨s₂, o, h1, h2⟩ := K
  exact ⟨s₂, o, XS.ishl X.here hx rfl hd rfl h1, h2⟩
theorem o_ishr (X : Stand p l e R s m args below meth c T locs cells slots) (hx : p.tables.exec = Jvm.exec) {x : Int32} {y : Int32} (hd : decode c.code pc = .ok (.ishr, 1)) (hp : pc + 1 = pc')  (K : Dn p e below P (T.setTop (mkF m pc' Ls (.int (x >>> (y &&& 31)) :: st)))) : Dn p e below P (T.setTop (mkF m pc Ls (.int y :: .int x :: st))) := by
  subst hp
  obtain ⟨s₂, o, h1, h2⟩ := K
  exact ⟨s₂, o, XS.ishr X.here hx rfl hd rfl h1, h2⟩
theorem o_iushr (X : Stand p l e R s m args below meth c T locs cells slots) (hx : p.tables.exec = Jvm.exec) {x : Int32} {y : Int32} (hd : decode c.code pc = .ok (.iushr, 1)) (hp : pc + 1 = pc')  (K : Dn p e below P (T.setTop (mkF m pc' Ls (.int ((x.toUInt32 >>> (y &&& 31).toUInt32).toInt32) :: st)))) : Dn p e below P (T.setTop (mkF m pc Ls (.int y :: .int x :: st))) := by
  subst hp
  obtain ⟨s₂, o, h1, h2⟩ := K
  exact ⟨s₂, o, XS.iushr X.here hx rfl hd rfl h1, h2⟩
theorem o_lshl (X : Stand p l e R s m args below meth c T locs cells slots) (hx : p.tables.exec = Jvm.exec) {x : Int64} {y : Int32} (hd : decode c.code pc = .ok (.lshl, 1)) (hp : pc + 1 = pc')  (K : Dn p e below P (T.setTop (mkF m pc' Ls (.long (x <<< (y &&& 0x3f).toInt64) :: st)))) : Dn p e below P (T.setTop (mkF m pc Ls (.int y :: .long x :: st))) := by
  subst hp
  obtain ⟨s₂, o, h1, h2⟩ := K
  exact ⟨s₂, o, XS.lshl X.here hx rfl hd rfl h1, h2⟩
theorem o_lshr (X : Stand p l e R s m args below meth c T locs cells slots) (hx : p.tables.exec = Jvm.exec) {x : Int64} {y : Int32} (hd : decode c.code pc = .ok (.lshr, 1)) (hp : pc + 1 = pc')  (K : Dn p e below P (T.setTop (mkF m pc' Ls (.long (x >>> (y &&& 0x3f).toInt64) :: st)))) : Dn p e below P (T.setTop (mkF m pc Ls (.int y :: .long x :: st))) := by
  subst hp
  obtain ⟨s₂, o, h1, h2⟩ := K
  exact ⟨s₂, o, XS.lshr X.here hx rfl hd rfl h1, h2⟩
theorem o_lushr (X : Stand p l e R s m args below meth c T locs cells slots) (hx : p.tables.exec = Jvm.exec) {x : Int64} {y : Int32} (hd : decode c.code pc = .ok (.lushr, 1)) (hp : pc + 1 = pc')  (K : Dn p e below P (T.setTop (mkF m pc' Ls (.long ((x.toUInt64 >>> (y &&& 0x3f).toInt64.toUInt64).toInt64) :: st)))) : Dn p e below P (T.setTop (mkF m pc Ls (.int y :: .long x :: st))) := by
  subst hp
  obtain ⟨s₂, o, h1, h2⟩ := K
  exact ⟨s₂, o, XS.lushr X.here hx rfl hd rfl h1, h2⟩
theorem o_ineg (X : Stand p l e R s m args below meth c T locs cells slots) (hx : p.tables.exec = Jvm.exec) {x : Int32} (hd : decode c.code pc = .ok (.ineg, 1)) (hp : pc + 1 = pc')  (K : Dn p e below P (T.setTop (mkF m pc' Ls (.int (-x) :: st)))) : Dn p e below P (T.setTop (mkF m pc Ls (.int x :: st))) := by
  subst hp
  obtain ⟨s₂, o, h1, h2⟩ := K
  exact ⟨s₂, o, XS.ineg X.here hx rfl hd rfl h1, h2⟩
theorem o_lneg (X : Stand p l e R s m args below meth c T locs cells slots) (hx : p.tables.exec = Jvm.exec) {x : Int64} (hd : decode c.code pc = .ok (.lneg, 1)) (hp : pc + 1 = pc')  (K : Dn p e below P (T.setTop (mkF m pc' Ls (.long (-x) :: st)))) : Dn p e below P (T.setTop (mkF m pc Ls (.long x :: st))) := by
  subst hp
  obtain ⟨s₂, o, h1, h2⟩ := K
  exact ⟨s₂, o, XS.lneg X.here hx rfl hd rfl h1, h2⟩
theorem o_i2l (X : Stand p l e R s m args below meth c T locs cells slots) (hx : p.tables.exec = Jvm.exec) {x : Int32} (hd : decode c.code pc = .ok (.i2l, 1)) (hp : pc + 1 = pc')  (K : Dn p e below P (T.setTop (mkF m pc' Ls (.long (x.toInt64) :: st)))) : Dn p e below P (T.setTop (mkF m pc Ls (.int x :: st))) := by
  subst hp
  obtain ⟨s₂, o, h1, h2⟩ := K
  exact ⟨s₂, o, XS.i2l X.here hx rfl hd rfl h1, h2⟩
theorem o_l2i (X : Stand p l e R s m args below meth c T locs cells slots) (hx : p.tables.exec = Jvm.exec) {x : Int64} (hd : decode c.code pc = .ok (.l2i, 1)) (hp : pc + 1 = pc')  (K : Dn p e below P (T.setTop (mkF m pc' Ls (.int (x.toInt32) :: st)))) : Dn p e below P (T.setTop (mkF m pc Ls (.long x :: st))) := by
  subst hp
  obtain ⟨s₂, o, h1, h2⟩ := K
  exact ⟨s₂, o, XS.l2i X.here hx rfl hd rfl h1, h2⟩
theorem o_i2b (X : Stand p l e R s m args below meth c T locs cells slots) (hx : p.tables.exec = Jvm.exec) {x : Int32} (hd : decode c.code pc = .ok (.i2b, 1)) (hp : pc + 1 = pc')  (K : Dn p e below P (T.setTop (mkF m pc' Ls (.int (x.toInt8.toInt32) :: st)))) : Dn p e below P (T.setTop (mkF m pc Ls (.int x :: st))) := by
  subst hp
  obtain ⟨s₂, o, h1, h2⟩ := K
  exact ⟨s₂, o, XS.i2b X.here hx rfl hd rfl h1, h2⟩
theorem o_i2s (X : Stand p l e R s m args below meth c T locs cells slots) (hx : p.tables.exec = Jvm.exec) {x : Int32} (hd : decode c.code pc = .ok (.i2s, 1)) (hp : pc + 1 = pc')  (K : Dn p e below P (T.setTop (mkF m pc' Ls (.int (x.toInt16.toInt32) :: st)))) : Dn p e below P (T.setTop (mkF m pc Ls (.int x :: st))) := by
  subst hp
  obtain ⟨s₂, o, h1, h2⟩ := K
  exact ⟨s₂, o, XS.i2s X.here hx rfl hd rfl h1, h2⟩
theorem o_i2c (X : Stand p l e R s m args below meth c T locs cells slots) (hx : p.tables.exec = Jvm.exec) {x : Int32} (hd : decode c.code pc = .ok (.i2c, 1)) (hp : pc + 1 = pc')  (K : Dn p e below P (T.setTop (mkF m pc' Ls (.int (x.toUInt32.toUInt16.toUInt32.toInt32) :: st)))) : Dn p e below P (T.setTop (mkF m pc Ls (.int x :: st))) := by
  subst hp
  obtain ⟨s₂, o, h1, h2⟩ := K
  exact ⟨s₂, o, XS.i2c X.here hx rfl hd rfl h1, h2⟩
theorem o_idiv (X : Stand p l e R s m args below meth c T locs cells slots) (hx : p.tables.exec = Jvm.exec) {x y : Int32} (hd : decode c.code pc = .ok (.idiv, 1)) (hp : pc + 1 = pc') (hy : y ≠ 0) (K : Dn p e below P (T.setTop (mkF m pc' Ls (.int (x / y) :: st)))) : Dn p e below P (T.setTop (mkF m pc Ls (.int y :: .int x :: st))) := by
  subst hp
  obtain ⟨s₂, o, h1, h2⟩ := K
  exact ⟨s₂, o, XS.idiv X.here hx rfl hd rfl hy h1, h2⟩
theorem o_ldiv (X : Stand p l e R s m args below meth c T locs cells slots) (hx : p.tables.exec = Jvm.exec) {x y : Int64} (hd : decode c.code pc = .ok (.ldiv, 1)) (hp : pc + 1 = pc') (hy : y ≠ 0) (K : Dn p e below P (T.setTop (mkF m pc' Ls (.long (x / y) :: st)))) : Dn p e below P (T.setTop (mkF m pc Ls (.long y :: .long x :: st))) := by
  subst hp
  obtain ⟨s₂, o, h1, h2⟩ := K
  exact ⟨s₂, o, XS.ldiv X.here hx rfl hd rfl hy h1, h2⟩
theorem o_irem (X : Stand p l e R s m args below meth c T locs cells slots) (hx : p.tables.exec = Jvm.exec) {x y : Int32} (hd : decode c.code pc = .ok (.irem, 1)) (hp : pc + 1 = pc') (hy : y ≠ 0) (K : Dn p e below P (T.setTop (mkF m pc' Ls (.int (x % y) :: st)))) : Dn p e below P (T.setTop (mkF m pc Ls (.int y :: .int x :: st))) := by
  subst hp
  obtain ⟨s₂, o, h1, h2⟩ := K
  exact ⟨s₂, o, iremM X hx rfl hd rfl hy h1, h2⟩
theorem o_lcmp (X : Stand p l e R s m args below meth c T locs cells slots) (hx : p.tables.exec = Jvm.exec) {x y : Int64} (hd : decode c.code pc = .ok (.lcmp, 1)) (hp : pc + 1 = pc')  (K : Dn p e below P (T.setTop (mkF m pc' Ls (.int (lcmpW x y) :: st)))) : Dn p e below P (T.setTop (mkF m pc Ls (.long y :: .long x :: st))) := by
  subst hp
  obtain ⟨s₂, o, h1, h2⟩ := K
  exact ⟨s₂, o, XS.lcmp X.here hx rfl hd rfl h1, h2⟩
theorem o_dup (X : Stand p l e R s m args below meth c T locs cells slots) (hx : p.tables.exec = Jvm.exec) {v : Value} (hd : decode c.code pc = .ok (.dup, 1)) (hp : pc + 1 = pc') (hv : v.category = 1) (K : Dn p e below P (T.setTop (mkF m pc' Ls (v :: v :: st)))) : Dn p e below P (T.setTop (mkF m pc Ls (v :: st))) := by
  subst hp
  obtain ⟨s₂, o, h1, h2⟩ := K
  exact ⟨s₂, o, XS.dup X.here hx rfl hd rfl hv h1, h2⟩
theorem o_pop (X : Stand p l e R s m args below meth c T locs cells slots) (hx : p.tables.exec = Jvm.exec) {v : Value} (hd : decode c.code pc = .ok (.pop, 1)) (hp : pc + 1 = pc') (hv : v.category = 1) (K : Dn p e below P (T.setTop (mkF m pc' Ls st))) : Dn p e below P (T.setTop (mkF m pc Ls (v :: st))) := by
  subst hp
  obtain ⟨s₂, o, h1, h2⟩ := K
  exact ⟨s₂, o, XS.pop X.here hx rfl hd rfl hv h1, h2⟩
theorem o_dupX1 (X : Stand p l e R s m args below meth c T locs cells slots) (hx : p.tables.exec = Jvm.exec) {v w : Value} (hd : decode c.code pc = .ok (.dup_x1, 1)) (hp : pc + 1 = pc') (hv : v.category = 1) (hw : w.category = 1) (K : Dn p e below P (T.setTop (mkF m pc' Ls (v :: w :: v :: st)))) : Dn p e below P (T.setTop (mkF m pc Ls (v :: w :: st))) := by
  subst hp
  obtain ⟨s₂, o, h1, h2⟩ := K
  exact ⟨s₂, o, XS.dupX1 X.here hx rfl hd rfl hv hw h1, h2⟩
theorem o_iinc (X : Stand p l e R s m args below meth c T locs cells slots) (hx : p.tables.exec = Jvm.exec) {k : Nat} {i : Int} {x v : Int32} (hd : decode c.code pc = .ok (.iinc k i, 3)) (hp : pc + 3 = pc') (hv : Int32.ofInt i = v) (hl : Ls[k]? = some (.val (.int x))) (hl' : storeLocals Ls k (.int (x + v)) = some Ls') (K : Dn p e below P (T.setTop (mkF m pc' Ls' st))) : Dn p e below P (T.setTop (mkF m pc Ls st)) := by
  subst hp hv
  obtain ⟨s₂, o, h1, h2⟩ := K
  exact ⟨s₂, o, XS.iinc X.here hx rfl hd hl hl' h1, h2⟩
theorem o_goto (X : Stand p l e R s m args below meth c T locs cells slots) (hx : p.tables.exec = Jvm.exec) {i : Int} (hd : decode c.code pc = .ok (.goto i, 3)) (ho : 0 ≤ (pc : Int) + i) (hp : ((pc : Int) + i).toNat = pc') (K : Dn p e below P (T.setTop (mkF m pc' Ls st))) : Dn p e below P (T.setTop (mkF m pc Ls st)) := by
  obtain ⟨s₂, o, h1, h2⟩ := K
  exact ⟨s₂, o, XS.goto X.here hx rfl (pc0 := pc) rfl hd ho hp h1, h2⟩
theorem o_if_eq (X : Stand p l e R s m args below meth c T locs cells slots) (hx : p.tables.exec = Jvm.exec) {x : Int32} {i : Int} {pt : Nat} (hd : decode c.code pc = .ok (.ifCond .eq i, 3)) (hp : pc + 3 = pc') (ho : 0 ≤ (pc : Int) + i) (ht : ((pc : Int) + i).toNat = pt) (Kt : x = (0 : Int32) → Dn p e below P (T.setTop (mkF m pt Ls st))) (Kf : ¬ (x = (0 : Int32)) → Dn p e below P (T.setTop (mkF m pc' Ls st))) : Dn p e below P (T.setTop (mkF m pc Ls (.int x :: st))) := by
  subst hp
  by_cases hq : x = (0 : Int32)
  · obtain ⟨s₂, o, h1, h2⟩ := Kt hq
    exact ⟨s₂, o, XS.ifYes X.here hx rfl (pc0 := pc) rfl hd rfl ((if0 _ _).trans (teq hq).1) ho ht h1, h2⟩
  · obtain ⟨s₂, o, h1, h2⟩ := Kf hq
    exact ⟨s₂, o, XS.ifNo X.here hx rfl hd rfl ((if0 _ _).trans (feq hq).1) h1, h2⟩
theorem o_icmp_eq (X : Stand p l e R s m args below meth c T locs cells slots) (hx : p.tables.exec = Jvm.exec) {x y : Int32} {i : Int} {pt : Nat} (hd : decode c.code pc = .ok (.if_icmp .eq i, 3)) (hp : pc + 3 = pc') (ho : 0 ≤ (pc : Int) + i) (ht : ((pc : Int) + i).toNat = pt) (Kt : x = y → Dn p e below P (T.setTop (mkF m pt Ls st))) (Kf : ¬ (x = y) → Dn p e below P (T.setTop (mkF m pc' Ls st))) : Dn p e below P (T.setTop (mkF m pc Ls (.int y :: .int x :: st))) := by
  subst hp
  by_cases hq : x = y
  · obtain ⟨s₂, o, h1, h2⟩ := Kt hq
    exact ⟨s₂, o, XS.icmpYes X.here hx rfl (pc0 := pc) rfl hd rfl (teq hq).1 ho ht h1, h2⟩
  · obtain ⟨s₂, o, h1, h2⟩ := Kf hq
    exact ⟨s₂, o, XS.icmpNo X.here hx rfl hd rfl (feq hq).1 h1, h2⟩
theorem o_lif_eq (X : Stand p l e R s m args below meth c T locs cells slots) (hx : p.tables.exec = Jvm.exec) {x y : Int64} {i : Int} {pt : Nat} (hd : decode c.code pc = .ok (.ifCond .eq i, 3)) (hp : pc + 3 = pc') (ho : 0 ≤ (pc : Int) + i) (ht : ((pc : Int) + i).toNat = pt) (Kt : x = y → Dn p e below P (T.setTop (mkF m pt Ls st))) (Kf : ¬ (x = y) → Dn p e below P (T.setTop (mkF m pc' Ls st))) : Dn p e below P (T.setTop (mkF m pc Ls (.int (lcmpW x y) :: st))) := by
  subst hp
  by_cases hq : x = y
  · obtain ⟨s₂, o, h1, h2⟩ := Kt hq
    exact ⟨s₂, o, XS.ifYes X.here hx rfl (pc0 := pc) rfl hd rfl ((if0 _ _).trans (teq ((lw_eq x y).mpr hq)).1) ho ht h1, h2⟩
  · obtain ⟨s₂, o, h1, h2⟩ := Kf hq
    exact ⟨s₂, o, XS.ifNo X.here hx rfl hd rfl ((if0 _ _).trans (feq (fun z => hq ((lw_eq x y).mp z))).1) h1, h2⟩
theorem o_if_ne (X : Stand p l e R s m args below meth c T locs cells slots) (hx : p.tables.exec = Jvm.exec) {x : Int32} {i : Int} {pt : Nat} (hd : decode c.code pc = .ok (.ifCond .ne i, 3)) (hp : pc + 3 = pc') (ho : 0 ≤ (pc : Int) + i) (ht : ((pc : Int) + i).toNat = pt) (Kt : ¬ (x = (0 : Int32)) → Dn p e below P (T.setTop (mkF m pt Ls st))) (Kf : x = (0 : Int32) → Dn p e below P (T.setTop (mkF m pc' Ls st))) : Dn p e below P (T.setTop (mkF m pc Ls (.int x :: st))) := by
  subst hp
  by_cases hq : x = (0 : Int32)
  · obtain ⟨s₂, o, h1, h2⟩ := Kf hq
    exact ⟨s₂, o, XS.ifNo X.here hx rfl hd rfl ((if0 _ _).trans (teq hq).2) h1, h2⟩
  · obtain ⟨s₂, o, h1, h2⟩ := Kt hq
    exact ⟨s₂, o, XS.ifYes X.here hx rfl (pc0 := pc) rfl hd rfl ((if0 _ _).trans (feq hq).2) ho ht h1, h2⟩
theorem o_icmp_ne (X : Stand p l e R s m args below meth c T locs cells slots) (hx : p.tables.exec = Jvm.exec) {x y : Int32} {i : Int} {pt : Nat} (hd : decode c.code pc = .ok (.if_icmp .ne i, 3)) (hp : pc + 3 = pc') (ho : 0 ≤ (pc : Int) + i) (ht : ((pc : Int) + i).toNat = pt) (Kt : ¬ (x = y) → Dn p e below P (T.setTop (mkF m pt Ls st))) (Kf : x = y → Dn p e below P (T.setTop (mkF m pc' Ls st))) : Dn p e below P (T.setTop (mkF m pc Ls (.int y :: .int x :: st))) := by
  subst hp
  by_cases hq : x = y
  · obtain ⟨s₂, o, h1, h2⟩ := Kf hq
    exact ⟨s₂, o, XS.icmpNo X.here hx rfl hd rfl (teq hq).2 h1, h2⟩
  · obtain ⟨s₂, o, h1, h2⟩ := Kt hq
    exact ⟨s₂, o, XS.icmpYes X.here hx rfl (pc0 := pc) rfl hd rfl (feq hq).2 ho ht h1, h2⟩
theorem o_lif_ne (X : Stand p l e R s m args below meth c T locs cells slots) (hx : p.tables.exec = Jvm.exec) {x y : Int64} {i : Int} {pt : Nat} (hd : decode c.code pc = .ok (.ifCond .ne i, 3)) (hp : pc + 3 = pc') (ho : 0 ≤ (pc : Int) + i) (ht : ((pc : Int) + i).toNat = pt) (Kt : ¬ (x = y) → Dn p e below P (T.setTop (mkF m pt Ls st))) (Kf : x = y → Dn p e below P (T.setTop (mkF m pc' Ls st))) : Dn p e below P (T.setTop (mkF m pc Ls (.int (lcmpW x y) :: st))) := by
  subst hp
  by_cases hq : x = y
  · obtain ⟨s₂, o, h1, h2⟩ := Kf hq
    exact ⟨s₂, o, XS.ifNo X.here hx rfl hd rfl ((if0 _ _).trans (teq ((lw_eq x y).mpr hq)).2) h1, h2⟩
  · obtain ⟨s₂, o, h1, h2⟩ := Kt hq
    exact ⟨s₂, o, XS.ifYes X.here hx rfl (pc0 := pc) rfl hd rfl ((if0 _ _).trans (feq (fun z => hq ((lw_eq x y).mp z))).2) ho ht h1, h2⟩
theorem o_if_lt (X : Stand p l e R s m args below meth c T locs cells slots) (hx : p.tables.exec = Jvm.exec) {x : Int32} {i : Int} {pt : Nat} (hd : decode c.code pc = .ok (.ifCond .lt i, 3)) (hp : pc + 3 = pc') (ho : 0 ≤ (pc : Int) + i) (ht : ((pc : Int) + i).toNat = pt) (Kt : x < (0 : Int32) → Dn p e below P (T.setTop (mkF m pt Ls st))) (Kf : ¬ (x < (0 : Int32)) → Dn p e below P (T.setTop (mkF m pc' Ls st))) : Dn p e below P (T.setTop (mkF m pc Ls (.int x :: st))) := by
  subst hp
  by_cases hq : x < (0 : Int32)
  · obtain ⟨s₂, o, h1, h2⟩ := Kt hq
    exact ⟨s₂, o, XS.ifYes X.here hx rfl (pc0 := pc) rfl hd rfl ((if0 _ _).trans (tlt hq).1) ho ht h1, h2⟩
  · obtain ⟨s₂, o, h1, h2⟩ := Kf hq
    exact ⟨s₂, o, XS.ifNo X.here hx rfl hd rfl ((if0 _ _).trans (flt hq).1) h1, h2⟩
theorem o_icmp_lt (X : Stand p l e R s m args below meth c T locs cells slots) (hx : p.tables.exec = Jvm.exec) {x y : Int32} {i : Int} {pt : Nat} (hd : decode c.code pc = .ok (.if_icmp .lt i, 3)) (hp : pc + 3 = pc') (ho : 0 ≤ (pc : Int) + i) (ht : ((pc : Int) + i).toNat = pt) (Kt : x < y → Dn p e below P (T.setTop (mkF m pt Ls st))) (Kf : ¬ (x < y) → Dn p e below P (T.setTop (mkF m pc' Ls st))) : Dn p e below P (T.setTop (mkF m pc Ls (.int y :: .int x :: st))) := by
  subst hp
  by_cases hq : x < y
  · obtain ⟨s₂, o, h1, h2⟩ := Kt hq
    exact ⟨s₂, o, XS.icmpYes X.here hx rfl (pc0 := pc) rfl hd rfl (tlt hq).1 ho ht h1, h2⟩
  · obtain ⟨s₂, o, h1, h2⟩ := Kf hq
    exact ⟨s₂, o, XS.icmpNo X.here hx rfl hd rfl (flt hq).1 h1, h2⟩
theorem o_lif_lt (X : Stand p l e R s m args below meth c T locs cells slots) (hx : p.tables.exec = Jvm.exec) {x y : Int64} {i : Int} {pt : Nat} (hd : decode c.code pc = .ok (.ifCond .lt i, 3)) (hp : pc + 3 = pc') (ho : 0 ≤ (pc : Int) + i) (ht : ((pc : Int) + i).toNat = pt) (Kt : x < y → Dn p e below P (T.setTop (mkF m pt Ls st))) (Kf : ¬ (x < y) → Dn p e below P (T.setTop (mkF m pc' Ls st))) : Dn p e below P (T.setTop (mkF m pc Ls (.int (lcmpW x y) :: st))) := by
  subst hp
  by_cases hq : x < y
  · obtain ⟨s₂, o, h1, h2⟩ := Kt hq
    exact ⟨s₂, o, XS.ifYes X.here hx rfl (pc0 := pc) rfl hd rfl ((if0 _ _).trans (tlt ((lw_lt x y).mpr hq)).1) ho ht h1, h2⟩
  · obtain ⟨s₂, o, h1, h2⟩ := Kf hq
    exact ⟨s₂, o, XS.ifNo X.here hx rfl hd rfl ((if0 _ _).trans (flt (fun z => hq ((lw_lt x y).mp z))).1) h1, h2⟩
theorem o_if_ge (X : Stand p l e R s m args below meth c T locs cells slots) (hx : p.tables.exec = Jvm.exec) {x : Int32} {i : Int} {pt : Nat} (hd : decode c.code pc = .ok (.ifCond .ge i, 3)) (hp : pc + 3 = pc') (ho : 0 ≤ (pc : Int) + i) (ht : ((pc : Int) + i).toNat = pt) (Kt : ¬ (x < (0 : Int32)) → Dn p e below P (T.setTop (mkF m pt Ls st))) (Kf : x < (0 : Int32) → Dn p e below P (T.setTop (mkF m pc' Ls st))) : Dn p e below P (T.setTop (mkF m pc Ls (.int x :: st))) := by
  subst hp
  by_cases hq : x < (0 : Int32)
  · obtain ⟨s₂, o, h1, h2⟩ := Kf hq
    exact ⟨s₂, o, XS.ifNo X.here hx rfl hd rfl ((if0 _ _).trans (tlt hq).2.1) h1, h2⟩
  · obtain ⟨s₂, o, h1, h2⟩ := Kt hq
    exact ⟨s₂, o, XS.ifYes X.here hx rfl (pc0 := pc) rfl hd rfl ((if0 _ _).trans (flt hq).2.1) ho ht h1, h2⟩
theorem o_icmp_ge (X : Stand p l e R s m args below meth c T locs cells slots) (hx : p.tables.exec = Jvm.exec) {x y : Int32} {i : Int} {pt : Nat} (hd : decode c.code pc = .ok (.if_icmp .ge i, 3)) (hp : pc + 3 = pc') (ho : 0 ≤ (pc : Int) + i) (ht : ((pc : Int) + i).toNat = pt) (Kt : ¬ (x < y) → Dn p e below P (T.setTop (mkF m pt Ls st))) (Kf : x < y → Dn p e below P (T.setTop (mkF m pc' Ls st))) : Dn p e below P (T.setTop (mkF m pc Ls (.int y :: .int x :: st))) := by
  subst hp
  by_cases hq : x < y
  · obtain ⟨s₂, o, h1, h2⟩ := Kf hq
    exact ⟨s₂, o, XS.icmpNo X.here hx rfl hd rfl (tlt hq).2.1 h1, h2⟩
  · obtain ⟨s₂, o, h1, h2⟩ := Kt hq
    exact ⟨s₂, o, XS.icmpYes X.here hx rfl (pc0 := pc) rfl hd rfl (flt hq).2.1 ho ht h1, h2⟩
theorem o_lif_ge (X : Stand p l e R s m args below meth c T locs cells slots) (hx : p.tables.exec = Jvm.exec) {x y : Int64} {i : Int} {pt : Nat} (hd : decode c.code pc = .ok (.ifCond .ge i, 3)) (hp : pc + 3 = pc') (ho : 0 ≤ (pc : Int) + i) (ht : ((pc : Int) + i).toNat = pt) (Kt : ¬ (x < y) → Dn p e below P (T.setTop (mkF m pt Ls st))) (Kf : x < y → Dn p e below P (T.setTop (mkF m pc' Ls st))) : Dn p e below P (T.setTop (mkF m pc Ls (.int (lcmpW x y) :: st))) := by
  subst hp
  by_cases hq : x < y
  · obtain ⟨s₂, o, h1, h2⟩ := Kf hq
    exact ⟨s₂, o, XS.ifNo X.here hx rfl hd rfl ((if0 _ _).trans (tlt ((lw_lt x y).mpr hq)).2.1) h1, h2⟩
  · obtain ⟨s₂, o, h1, h2⟩ := Kt hq
    exact ⟨s₂, o, XS.ifYes X.here hx rfl (pc0 := pc) rfl hd rfl ((if0 _ _).trans (flt (fun z => hq ((lw_lt x y).mp z))).2.1) ho ht h1, h2⟩
theorem o_if_gt (X : Stand p l e R s m args below meth c T locs cells slots) (hx : p.tables.exec = Jvm.exec) {x : Int32} {i : Int} {pt : Nat} (hd : decode c.code pc = .ok (.ifCond .gt i, 3)) (hp : pc + 3 = pc') (ho : 0 ≤ (pc : Int) + i) (ht : ((pc : Int) + i).toNat = pt) (Kt : (0 : Int32) < x → Dn p e below P (T.setTop (mkF m pt Ls st))) (Kf : ¬ ((0 : Int32) < x) → Dn p e below P (T.setTop (mkF m pc' Ls st))) : Dn p e below P (T.setTop (mkF m pc Ls (.int x :: st))) := by
  subst hp
  by_cases hq : (0 : Int32) < x
  · obtain ⟨s₂, o, h1, h2⟩ := Kt hq
    exact ⟨s₂, o, XS.ifYes X.here hx rfl (pc0 := pc) rfl hd rfl ((if0 _ _).trans (tlt hq).2.2.1) ho ht h1, h2⟩
  · obtain ⟨s₂, o, h1, h2⟩ := Kf hq
    exact ⟨s₂, o, XS.ifNo X.here hx rfl hd rfl ((if0 _ _).trans (flt hq).2.2.1) h1, h2⟩
theorem o_icmp_gt (X : Stand p l e R s m args below meth c T locs cells slots) (hx : p.tables.exec = Jvm.exec) {x y : Int32} {i : Int} {pt : Nat} (hd : decode c.code pc = .ok (.if_icmp .gt i, 3)) (hp : pc + 3 = pc') (ho : 0 ≤ (pc : Int) + i) (ht : ((pc : Int) + i).toNat = pt) (Kt : y < x → Dn p e below P (T.setTop (mkF m pt Ls st))) (Kf : ¬ (y < x) → Dn p e below P (T.setTop (mkF m pc' Ls st))) : Dn p e below P (T.setTop (mkF m pc Ls (.int y :: .int x :: st))) := by
  subst hp
  by_cases hq : y < x
  · obtain ⟨s₂, o, h1, h2⟩ := Kt hq
    exact ⟨s₂, o, XS.icmpYes X.here hx rfl (pc0 := pc) rfl hd rfl (tlt hq).2.2.1 ho ht h1, h2⟩
  · obtain ⟨s₂, o, h1, h2⟩ := Kf hq
    exact ⟨s₂, o, XS.icmpNo X.here hx rfl hd rfl (flt hq).2.2.1 h1, h2⟩
theorem o_lif_gt (X : Stand p l e R s m args below meth c T locs cells slots) (hx : p.tables.exec = Jvm.exec) {x y : Int64} {i : Int} {pt : Nat} (hd : decode c.code pc = .ok (.ifCond .gt i, 3)) (hp : pc + 3 = pc') (ho : 0 ≤ (pc : Int) + i) (ht : ((pc : Int) + i).toNat = pt) (Kt : y < x → Dn p e below P (T.setTop (mkF m pt Ls st))) (Kf : ¬ (y < x) → Dn p e below P (T.setTop (mkF m pc' Ls st))) : Dn p e below P (T.setTop (mkF m pc Ls (.int (lcmpW x y) :: st))) := by
  subst hp
  by_cases hq : y < x
  · obtain ⟨s₂, o, h1, h2⟩ := Kt hq
    exact ⟨s₂, o, XS.ifYes X.here hx rfl (pc0 := pc) rfl hd rfl ((if0 _ _).trans (tlt ((lw_gt x y).mpr hq)).2.2.1) ho ht h1, h2⟩
  · obtain ⟨s₂, o, h1, h2⟩ := Kf hq
    exact ⟨s₂, o, XS.ifNo X.here hx rfl hd rfl ((if0 _ _).trans (flt (fun z => hq ((lw_gt x y).mp z))).2.2.1) h1, h2⟩
theorem o_if_le (X : Stand p l e R s m args below meth c T locs cells slots) (hx : p.tables.exec = Jvm.exec) {x : Int32} {i : Int} {pt : Nat} (hd : decode c.code pc = .ok (.ifCond .le i, 3)) (hp : pc + 3 = pc') (ho : 0 ≤ (pc : Int) + i) (ht : ((pc : Int) + i).toNat = pt) (Kt : ¬ ((0 : Int32) < x) → Dn p e below P (T.setTop (mkF m pt Ls st))) (Kf : (0 : Int32) < x → Dn p e below P (T.setTop (mkF m pc' Ls st))) : Dn p e below P (T.setTop (mkF m pc Ls (.int x :: st))) := by
  subst hp
  by_cases hq : (0 : Int32) < x
  · obtain ⟨s₂, o, h1, h2⟩ := Kf hq
    exact ⟨s₂, o, XS.ifNo X.here hx rfl hd rfl ((if0 _ _).trans (tlt hq).2.2.2) h1, h2⟩
  · obtain ⟨s₂, o, h1, h2⟩ := Kt hq
    exact ⟨s₂, o, XS.ifYes X.here hx rfl (pc0 := pc) rfl hd rfl ((if0 _ _).trans (flt hq).2.2.2) ho ht h1, h2⟩
theorem o_icmp_le (X : Stand p l e R s m args below meth c T locs cells slots) (hx : p.tables.exec = Jvm.exec) {x y : Int32} {i : Int} {pt : Nat} (hd : decode c.code pc = .ok (.if_icmp .le i, 3)) (hp : pc + 3 = pc') (ho : 0 ≤ (pc : Int) + i) (ht : ((pc : Int) + i).toNat = pt) (Kt : ¬ (y < x) → Dn p e below P (T.setTop (mkF m pt Ls st))) (Kf : y < x → Dn p e below P (T.setTop (mkF m pc' Ls st))) : Dn p e below P (T.setTop (mkF m pc Ls (.int y :: .int x :: st))) := by
  subst hp
  by_cases hq : y < x
  · obtain ⟨s₂, o, h1, h2⟩ := Kf hq
    exact ⟨s₂, o, XS.icmpNo X.here hx rfl hd rfl (tlt hq).2.2.2 h1, h2⟩
  · obtain ⟨s₂, o, h1, h2⟩ := Kt hq
    exact ⟨s₂, o, XS.icmpYes X.here hx rfl (pc0 := pc) rfl hd rfl (flt hq).2.2.2 ho ht h1, h2⟩
theorem o_lif_le (X : Stand p l e R s m args below meth c T locs cells slots) (hx : p.tables.exec = Jvm.exec) {x y : Int64} {i : Int} {pt : Nat} (hd : decode c.code pc = .ok (.ifCond .le i, 3)) (hp : pc + 3 = pc') (ho : 0 ≤ (pc : Int) + i) (ht : ((pc : Int) + i).toNat = pt) (Kt : ¬ (y < x) → Dn p e below P (T.setTop (mkF m pt Ls st))) (Kf : y < x → Dn p e below P (T.setTop (mkF m pc' Ls st))) : Dn p e below P (T.setTop (mkF m pc Ls (.int (lcmpW x y) :: st))) := by
  subst hp
  by_cases hq : y < x
  · obtain ⟨s₂, o, h1, h2⟩ := Kf hq
    exact ⟨s₂, o, XS.ifNo X.here hx rfl hd rfl ((if0 _ _).trans (tlt ((lw_gt x y).mpr hq)).2.2.2) h1, h2⟩
  · obtain ⟨s₂, o, h1, h2⟩ := Kt hq
    exact ⟨s₂, o, XS.ifYes X.here hx rfl (pc0 := pc) rfl hd rfl ((if0 _ _).trans (flt (fun z => hq ((lw_gt x y).mp z))).2.2.2) ho ht h1, h2⟩
theorem o_acmp_eq (X : Stand p l e R s m args below meth c T locs cells slots) (hx : p.tables.exec = Jvm.exec) {x y : Value} {i : Int} {pt : Nat} (hd : decode c.code pc = .ok (.if_acmp .eq i, 3)) (hp : pc + 3 = pc') (ho : 0 ≤ (pc : Int) + i) (ht : ((pc : Int) + i).toNat = pt) (hv : x.isRef = true) (hw : y.isRef = true) (Kt : x = y → Dn p e below P (T.setTop (mkF m pt Ls st))) (Kf : ¬ (x = y) → Dn p e below P (T.setTop (mkF m pc' Ls st))) : Dn p e below P (T.setTop (mkF m pc Ls (y :: x :: st))) := by
  subst hp
  by_cases hq : x = y
  · obtain ⟨s₂, o, h1, h2⟩ := Kt hq
    exact ⟨s₂, o, Jvm.RoadKit.acmp (g := mkF m pc Ls (y :: x :: st)) X hx rfl hv hw (pc0 := pc) (same := true) rfl hd rfl (decide_eq_true hq) ho ht.symm h1, h2⟩
  · obtain ⟨s₂, o, h1, h2⟩ := Kf hq
    exact ⟨s₂, o, Jvm.RoadKit.acmp (g := mkF m pc Ls (y :: x :: st)) X hx rfl hv hw (pc0 := pc) (same := false) rfl hd rfl (decide_eq_false hq) ho rfl h1, h2⟩
theorem o_acmp_ne (X : Stand p l e R s m args below meth c T locs cells slots) (hx : p.tables.exec = Jvm.exec) {x y : Value} {i : Int} {pt : Nat} (hd : decode c.code pc = .ok (.if_acmp .ne i, 3)) (hp : pc + 3 = pc') (ho : 0 ≤ (pc : Int) + i) (ht : ((pc : Int) + i).toNat = pt) (hv : x.isRef = true) (hw : y.isRef = true) (Kt : ¬ (x = y) → Dn p e below P (T.setTop (mkF m pt Ls st))) (Kf : x = y → Dn p e below P (T.setTop (mkF m pc' Ls st))) : Dn p e below P (T.setTop (mkF m pc Ls (y :: x :: st))) := by
  subst hp
  by_cases hq : x = y
  · obtain ⟨s₂, o, h1, h2⟩ := Kf hq
    exact ⟨s₂, o, Jvm.RoadKit.acmp (g := mkF m pc Ls (y :: x :: st)) X hx rfl hv hw (pc0 := pc) (same := true) rfl hd rfl (decide_eq_true hq) ho rfl h1, h2⟩
  · obtain ⟨s₂, o, h1, h2⟩ := Kt hq
    exact ⟨s₂, o, Jvm.RoadKit.acmp (g := mkF m pc Ls (y :: x :: st)) X hx rfl hv hw (pc0 := pc) (same := false) rfl hd rfl (decide_eq_false hq) ho ht.symm h1, h2⟩
theorem o_ifnull_no (X : Stand p l e R s m args below meth c T locs cells slots) (hx : p.tables.exec = Jvm.exec) {b : Addr} {i : Int} (hd : decode c.code pc = .ok (.ifnull i, 3)) (hp : pc + 3 = pc') (K : Dn p e below P (T.setTop (mkF m pc' Ls st))) : Dn p e below P (T.setTop (mkF m pc Ls (.ref b :: st))) := by
  subst hp
  obtain ⟨s₂, o, h1, h2⟩ := K
  exact ⟨s₂, o, XS.ifnullNo X.here hx rfl hd rfl h1, h2⟩
theorem o_ifnull_yes (X : Stand p l e R s m args below meth c T locs cells slots) (hx : p.tables.exec = Jvm.exec) {i : Int} (hd : decode c.code pc = .ok (.ifnull i, 3)) (ho : 0 ≤ (pc : Int) + i) (hp : ((pc : Int) + i).toNat = pc') (K : Dn p e below P (T.setTop (mkF m pc' Ls st))) : Dn p e below P (T.setTop (mkF m pc Ls (.null :: st))) := by
  obtain ⟨s₂, o, h1, h2⟩ := K
  exact ⟨s₂, o, XS.ifnullYes X.here hx rfl (pc0 := pc) rfl hd rfl ho hp h1, h2⟩
theorem o_ifnonnull_yes (X : Stand p l e R s m args below meth c T locs cells slots) (hx : p.tables.exec = Jvm.exec) {b : Addr} {i : Int} (hd : decode c.code pc = .ok (.ifnonnull i, 3)) (ho : 0 ≤ (pc : Int) + i) (hp : ((pc : Int) + i).toNat = pc') (K : Dn p e below P (T.setTop (mkF m pc' Ls st))) : Dn p e below P (T.setTop (mkF m pc Ls (.ref b :: st))) := by
  obtain ⟨s₂, o, h1, h2⟩ := K
  exact ⟨s₂, o, XS.ifnonnullYes X.here hx rfl (pc0 := pc) rfl hd rfl ho hp h1, h2⟩
theorem o_ldc2 (X : Stand p l e R s m args below meth c T locs cells slots) (hx : p.tables.exec = Jvm.exec) (hZ : Z.Warmed39 s.vm) {own : String} {index : Nat} {v : Int64} (hown : s.vm.findClass own = some m.cls) (w : (Jvm.Cond.constantLong own index v).before a0 Z = true) (hd : decode c.code pc = .ok (.ldc2_w index, 3)) (hp : pc + 3 = pc') (K : Dn p e below P (T.setTop (mkF m pc' Ls (.long v :: st)))) : Dn p e below P (T.setTop (mkF m pc Ls st)) := by
  subst hp
  exact go (X.ldc2Long hx hown (mvT hZ w) (g := mkF m pc Ls st) rfl hd) K
theorem o_ldc (X : Stand p l e R s m args below meth c T locs cells slots) (hx : p.tables.exec = Jvm.exec) (hZ : Z.Warmed39 s.vm) {own : String} {index : Nat} {v : Int32} (hown : s.vm.findClass own = some m.cls) (w : (Jvm.Cond.constant own index v).before a0 Z = true) (hd : decode c.code pc = .ok (.ldc index, 2)) (hp : pc + 2 = pc') (K : Dn p e below P (T.setTop (mkF m pc' Ls (.int v :: st)))) : Dn p e below P (T.setTop (mkF m pc Ls st)) := by
  subst hp
  exact go (X.ldcInt hx hown (mvT hZ w) (g := mkF m pc Ls st) rfl hd) K
theorem o_ldcw (X : Stand p l e R s m args below meth c T locs cells slots) (hx : p.tables.exec = Jvm.exec) (hZ : Z.Warmed39 s.vm) {own : String} {index : Nat} {v : Int32} (hown : s.vm.findClass own = some m.cls) (w : (Jvm.Cond.constant own index v).before a0 Z = true) (hd : decode c.code pc = .ok (.ldc_w index, 3)) (hp : pc + 3 = pc') (K : Dn p e below P (T.setTop (mkF m pc' Ls (.int v :: st)))) : Dn p e below P (T.setTop (mkF m pc Ls st)) := by
  subst hp
  exact go (X.ldcwInt hx hown (mvT hZ w) (g := mkF m pc Ls st) rfl hd) K
theorem o_dup2 (X : Stand p l e R s m args below meth c T locs cells slots) (hx : p.tables.exec = Jvm.exec) {v w : Value} (hd : decode c.code pc = .ok (.dup2, 1)) (hp : pc + 1 = pc') (hv : v.category = 1) (hw : w.category = 1) (K : Dn p e below P (T.setTop (mkF m pc' Ls (v :: w :: v :: w :: st)))) : Dn p e below P (T.setTop (mkF m pc Ls (v :: w :: st))) := by
  subst hp
  obtain ⟨s₂, o, h1, h2⟩ := K
  exact ⟨s₂, o, XT.dup2 X.here hx rfl hd rfl hv hw h1, h2⟩
theorem o_iaload (X : Stand p l e R s m args below meth c T locs cells slots) (hx : p.tables.exec = Jvm.exec) (hZ : Z.Warmed39 s.vm) (eT : T.heap = h) {a : Addr} {k : ClassId} {n j : Int32} {vs : List Value} {d v : Value} (V : Arv Z h a k .int n vs d) (hj : ¬ j < 0 ∧ j < n) (hv : vs.getD j.toNatClampNeg d = v) (hd : decode c.code pc = .ok (.iaload, 1)) (hp : pc + 1 = pc') (K : Dn p e below P (T.setTop (mkF m pc' Ls (v :: st)))) : Dn p e below P (T.setTop (mkF m pc Ls (.int j :: .ref a :: st))) := by
  subst hp
  obtain ⟨cl, A, -, S, N, H, -⟩ := V
  have hin := inb_of S hj
  exact go (X.iaload hx (j := j) (v := v) (by rw [eT]; exact A.1) (State.isArrayOf_alike hZ.alike A.2.1) A.2.2 hin (H.at hin hv) (g := mkF m pc Ls (.int j :: .ref a :: st)) rfl rfl hd) K
theorem o_laload (X : Stand p l e R s m args below meth c T locs cells slots) (hx : p.tables.exec = Jvm.exec) (hZ : Z.Warmed39 s.vm) (eT : T.heap = h) {a : Addr} {k : ClassId} {n j : Int32} {vs : List Value} {d v : Value} (V : Arv Z h a k .long n vs d) (hj : ¬ j < 0 ∧ j < n) (hv : vs.getD j.toNatClampNeg d = v) (hd : decode c.code pc = .ok (.laload, 1)) (hp : pc + 1 = pc') (K : Dn p e below P (T.setTop (mkF m pc' Ls (v :: st)))) : Dn p e below P (T.setTop (mkF m pc Ls (.int j :: .ref a :: st))) := by
  subst hp
  obtain ⟨cl, A, -, S, N, H, -⟩ := V
  have hin := inb_of S hj
  exact go (X.laload hx (j := j) (v := v) (by rw [eT]; exact A.1) (State.isArrayOf_alike hZ.alike A.2.1) A.2.2 hin (H.at hin hv) (g := mkF m pc Ls (.int j :: .ref a :: st)) rfl rfl hd) K
theorem o_caload (X : Stand p l e R s m args below meth c T locs cells slots) (hx : p.tables.exec = Jvm.exec) (hZ : Z.Warmed39 s.vm) (eT : T.heap = h) {a : Addr} {k : ClassId} {n j : Int32} {vs : List Value} {d v : Value} (V : Arv Z h a k .char n vs d) (hj : ¬ j < 0 ∧ j < n) (hv : vs.getD j.toNatClampNeg d = v) (hd : decode c.code pc = .ok (.caload, 1)) (hp : pc + 1 = pc') (K : Dn p e below P (T.setTop (mkF m pc' Ls (v :: st)))) : Dn p e below P (T.setTop (mkF m pc Ls (.int j :: .ref a :: st))) := by
  subst hp
  obtain ⟨cl, A, -, S, N, H, -⟩ := V
  have hin := inb_of S hj
  exact go (X.caload hx (j := j) (v := v) (by rw [eT]; exact A.1) (State.isArrayOf_alike hZ.alike A.2.1) A.2.2 hin (H.at hin hv) (g := mkF m pc Ls (.int j :: .ref a :: st)) rfl rfl hd) K
theorem o_baload (X : Stand p l e R s m args below meth c T locs cells slots) (hx : p.tables.exec = Jvm.exec) (hZ : Z.Warmed39 s.vm) (eT : T.heap = h) {a : Addr} {k : ClassId} {n j : Int32} {vs : List Value} {d v : Value} (V : Arv Z h a k .byte n vs d) (hj : ¬ j < 0 ∧ j < n) (hv : vs.getD j.toNatClampNeg d = v) (hd : decode c.code pc = .ok (.baload, 1)) (hp : pc + 1 = pc') (K : Dn p e below P (T.setTop (mkF m pc' Ls (v :: st)))) : Dn p e below P (T.setTop (mkF m pc Ls (.int j :: .ref a :: st))) := by
  subst hp
  obtain ⟨cl, A, -, S, N, H, -⟩ := V
  have hin := inb_of S hj
  exact go (X.baloadBytes hx (j := j) (v := v) (by rw [eT]; exact A.1) (State.isArrayOf_alike hZ.alike A.2.1) A.2.2 hin (H.at hin hv) (g := mkF m pc Ls (.int j :: .ref a :: st)) rfl rfl hd) K
theorem o_aaload (X : Stand p l e R s m args below meth c T locs cells slots) (hx : p.tables.exec = Jvm.exec) (hZ : Z.Warmed39 s.vm) (eT : T.heap = h) {a : Addr} {k : ClassId} {n j : Int32} {vs : List Value} {d v : Value} {ty : FieldType} (V : Arv Z h a k ty n vs d) (hty : ty.isReference = true) (hj : ¬ j < 0 ∧ j < n) (hv : vs.getD j.toNatClampNeg d = v) (hd : decode c.code pc = .ok (.aaload, 1)) (hp : pc + 1 = pc') (K : Dn p e below P (T.setTop (mkF m pc' Ls (v :: st)))) : Dn p e below P (T.setTop (mkF m pc Ls (.int j :: .ref a :: st))) := by
  subst hp
  obtain ⟨cl, A, -, S, N, H, -⟩ := V
  have hin := inb_of S hj
  exact go (X.aaload hx (j := j) (v := v) (by rw [eT]; exact A.1) (State.isArrayOf_alike hZ.alike A.2.1) hty A.2.2 hin (H.at hin hv) (g := mkF m pc Ls (.int j :: .ref a :: st)) rfl rfl hd) K
theorem o_arraylength (X : Stand p l e R s m args below meth c T locs cells slots) (hx : p.tables.exec = Jvm.exec) (hZ : Z.Warmed39 s.vm) (eT : T.heap = h) {a : Addr} {k : ClassId} {n : Int32} {vs : List Value} {d : Value} {ty : FieldType} (V : Arv Z h a k ty n vs d) (hd : decode c.code pc = .ok (.arraylength, 1)) (hp : pc + 1 = pc') (K : Dn p e below P (T.setTop (mkF m pc' Ls (.int n :: st)))) : Dn p e below P (T.setTop (mkF m pc Ls (.ref a :: st))) := by
  subst hp
  obtain ⟨cl, A, -, S, N, H, -⟩ := V
  refine go (X.arraylength hx (by rw [eT]; exact A.1) (State.isArrayOf_alike hZ.alike A.2.1) (g := mkF m pc Ls (.ref a :: st)) rfl rfl hd) ?_
  rw [len_of S N]
  exact K
theorem o_iastore (X : Stand p l e R s m args below meth c T locs cells slots) (hx : p.tables.exec = Jvm.exec) (hZ : Z.Warmed39 s.vm) (eT : T.heap = h) {a : Addr} {k : ClassId} {n j : Int32} {vs : List Value} {d : Value} {x : Int32} (V : Arv Z h a k .int n vs d) (hj : ¬ j < 0 ∧ j < n) (i : Nat) (hi : j.toNatClampNeg = i) (hl : i < vs.length) (hd : decode c.code pc = .ok (.iastore, 1)) (hp : pc + 1 = pc') (K : ∀ T' h', Stand p l e R s m args below meth c T' (locs ++ [⟨a, j.toNatClampNeg⟩]) cells slots → T'.heap = h' → Wr h h' a j.toNatClampNeg (.int x) → Arv Z h' a k .int n (vs.set i (.int x)) d → Dn p e below P (T'.setTop (mkF m pc' Ls st))) : Dn p e below P (T.setTop (mkF m pc Ls (.int x :: .int j :: .ref a :: st))) := by
  subst hp
  obtain ⟨cl, A, q, S, N, H, G⟩ := V
  have hin := inb_of S hj
  obtain ⟨T', h', X', e', W', st'⟩ := stI X hx hZ eT A (j := j) (x := x) hin (g := mkF m pc Ls (.int x :: .int j :: .ref a :: st)) rfl rfl hd
  exact go st' (K T' h' X' e' W' (Arv.set A q S N H G rfl W' i hi hl))
theorem o_lastore (X : Stand p l e R s m args below meth c T locs cells slots) (hx : p.tables.exec = Jvm.exec) (hZ : Z.Warmed39 s.vm) (eT : T.heap = h) {a : Addr} {k : ClassId} {n j : Int32} {vs : List Value} {d : Value} {x : Int64} (V : Arv Z h a k .long n vs d) (hj : ¬ j < 0 ∧ j < n) (i : Nat) (hi : j.toNatClampNeg = i) (hl : i < vs.length) (hd : decode c.code pc = .ok (.lastore, 1)) (hp : pc + 1 = pc') (K : ∀ T' h', Stand p l e R s m args below meth c T' (locs ++ [⟨a, j.toNatClampNeg⟩]) cells slots → T'.heap = h' → Wr h h' a j.toNatClampNeg (.long x) → Arv Z h' a k .long n (vs.set i (.long x)) d → Dn p e below P (T'.setTop (mkF m pc' Ls st))) : Dn p e below P (T.setTop (mkF m pc Ls (.long x :: .int j :: .ref a :: st))) := by
  subst hp
  obtain ⟨cl, A, q, S, N, H, G⟩ := V
  have hin := inb_of S hj
  obtain ⟨T', h', X', e', W', st'⟩ := stJ X hx hZ eT A (j := j) (x := x) hin (g := mkF m pc Ls (.long x :: .int j :: .ref a :: st)) rfl rfl hd
  exact go st' (K T' h' X' e' W' (Arv.set A q S N H G rfl W' i hi hl))
theorem o_castore (X : Stand p l e R s m args below meth c T locs cells slots) (hx : p.tables.exec = Jvm.exec) (hZ : Z.Warmed39 s.vm) (eT : T.heap = h) {a : Addr} {k : ClassId} {n j : Int32} {vs : List Value} {d : Value} {x : Int32} (V : Arv Z h a k .char n vs d) (hj : ¬ j < 0 ∧ j < n) (i : Nat) (hi : j.toNatClampNeg = i) (hl : i < vs.length) (hd : decode c.code pc = .ok (.castore, 1)) (hp : pc + 1 = pc') (K : ∀ T' h', Stand p l e R s m args below meth c T' (locs ++ [⟨a, j.toNatClampNeg⟩]) cells slots → T'.heap = h' → Wr h h' a j.toNatClampNeg (.int (nar .char x)) → Arv Z h' a k .char n (vs.set i (.int (nar .char x))) d → Dn p e below P (T'.setTop (mkF m pc' Ls st))) : Dn p e below P (T.setTop (mkF m pc Ls (.int x :: .int j :: .ref a :: st))) := by
  subst hp
  obtain ⟨cl, A, q, S, N, H, G⟩ := V
  have hin := inb_of S hj
  obtain ⟨T', h', X', e', W', st'⟩ := stC X hx hZ eT A (j := j) (x := x) hin (g := mkF m pc Ls (.int x :: .int j :: .ref a :: st)) rfl rfl hd
  exact go st' (K T' h' X' e' W' (Arv.set A q S N H G (fits_nar_char x) W' i hi hl))
theorem o_bastore (X : Stand p l e R s m args below meth c T locs cells slots) (hx : p.tables.exec = Jvm.exec) (hZ : Z.Warmed39 s.vm) (eT : T.heap = h) {a : Addr} {k : ClassId} {n j : Int32} {vs : List Value} {d : Value} {x : Int32} (V : Arv Z h a k .byte n vs d) (hj : ¬ j < 0 ∧ j < n) (i : Nat) (hi : j.toNatClampNeg = i) (hl : i < vs.length) (hd : decode c.code pc = .ok (.bastore, 1)) (hp : pc + 1 = pc') (K : ∀ T' h', Stand p l e R s m args below meth c T' (locs ++ [⟨a, j.toNatClampNeg⟩]) cells slots → T'.heap = h' → Wr h h' a j.toNatClampNeg (.int (nar .byte x)) → Arv Z h' a k .byte n (vs.set i (.int (nar .byte x))) d → Dn p e below P (T'.setTop (mkF m pc' Ls st))) : Dn p e below P (T.setTop (mkF m pc Ls (.int x :: .int j :: .ref a :: st))) := by
  subst hp
  obtain ⟨cl, A, q, S, N, H, G⟩ := V
  have hin := inb_of S hj
  obtain ⟨T', h', X', e', W', st'⟩ := stB X hx hZ eT A (j := j) (x := x) hin (g := mkF m pc Ls (.int x :: .int j :: .ref a :: st)) rfl rfl hd
  exact go st' (K T' h' X' e' W' (Arv.set A q S N H G (fits_nar_byte x) W' i hi hl))
theorem o_newarray (X : Stand p l e R s m args below meth c T locs cells slots) (hx : p.tables.exec = Jvm.exec) (hZ : Z.Warmed39 s.vm) (eT : T.heap = h) {aty : ArrayType} (w : (Jvm.Cond.arrayClass (newarray.typeOf aty)).before a0 Z = true) (hd : decode c.code pc = .ok (.newarray aty, 2)) (hp : pc + 2 = pc') {n : Int32} (hn : ¬ n < 0) (cap : Nat) (hcap : n.toNatClampNeg ≤ cap) (hb : cap * 8 ≤ 536870912) (hc : cells + 1 ≤ R.cells) (hs : slots + cap ≤ R.slots) (K : ∀ T' h' a k, a = h.size → Stand p l e R s m args below meth c T' locs (cells + 1) (slots + cap) → T'.heap = h' → Ext h h' → Arv Z h' a k (newarray.typeOf aty) n [] (defaultValue (newarray.typeOf aty)) → Dn p e below P (T'.setTop (mkF m pc' Ls (.ref a :: st)))) : Dn p e below P (T.setTop (mkF m pc Ls (.int n :: st))) := by
  subst hp
  obtain ⟨T', h', k, X', e', E', A', st'⟩ := newP X hx hZ w eT (g := mkF m pc Ls (.int n :: st)) rfl hd rfl hn hcap hb hc hs
  exact go st' (K T' h' _ k rfl X' e' E' (Arv.new A' hn))
theorem o_getfield (X : Stand p l e R s m args below meth c T locs cells slots) (hx : p.tables.exec = Jvm.exec) (hZ : Z.Warmed39 s.vm) {own O n d : String} {index : Nat} (hown : s.vm.findClass own = some m.cls) (w : (Jvm.Cond.fieldLink own index O n d).before a0 Z = true) (eT : T.heap = h) {a : Addr} {v : Value} (F : Fld Z h a O n d v) (hd : decode c.code pc = .ok (.getfield index, 3)) (hp : pc + 3 = pc') (K : ∀ T', Stand p l e R s m args below meth c T' locs cells slots → T'.heap = h → Dn p e below P (T'.setTop (mkF m pc' Ls (v :: st)))) : Dn p e below P (T.setTop (mkF m pc Ls (.ref a :: st))) := by
  subst hp
  obtain ⟨T', X', e', st'⟩ := getF X hx hZ hown (host := "") (Or.inl w) Via.refl eT F (g := mkF m pc Ls (.ref a :: st)) rfl rfl hd
  exact go st' (K T' X' e')
theorem o_getfieldN (X : Stand p l e R s m args below meth c T locs cells slots) (hx : p.tables.exec = Jvm.exec) (hZ : Z.Warmed39 s.vm) {own O n d host : String} {index : Nat} (hown : s.vm.findClass own = some m.cls) (w : (Jvm.Cond.fieldLinkNest own index O n d host).before a0 Z = true) (eT : T.heap = h) {a : Addr} {v : Value} (F : Fld Z h a O n d v) (hd : decode c.code pc = .ok (.getfield index, 3)) (hp : pc + 3 = pc') (K : ∀ T', Stand p l e R s m args below meth c T' locs cells slots → T'.heap = h → Dn p e below P (T'.setTop (mkF m pc' Ls (v :: st)))) : Dn p e below P (T.setTop (mkF m pc Ls (.ref a :: st))) := by
  subst hp
  obtain ⟨T', X', e', st'⟩ := getF X hx hZ hown (host := host) (Or.inr w) Via.refl eT F (g := mkF m pc Ls (.ref a :: st)) rfl rfl hd
  exact go st' (K T' X' e')
theorem o_putfield (X : Stand p l e R s m args below meth c T locs cells slots) (hx : p.tables.exec = Jvm.exec) (hZ : Z.Warmed39 s.vm) {own O n d C : String} {index kk : Nat} {ty : FieldType} (hown : s.vm.findClass own = some m.cls) (w : (Jvm.Cond.fieldLink own index O n d).before a0 Z = true) (eT : T.heap = h) {a : Addr} {v v' old : Value} (F : Fld Z h a O n d old) (E : Exa Z h a C) (L : (Jvm.Cond.lays C O n d).before a0 Z = true ∨ ((Jvm.Cond.laysFinal C O n d).before a0 Z = true ∧ own = O ∧ meth.name = "<init>")) (wi : (Jvm.Cond.instantiable C kk).before a0 Z = true) (hty : parseFieldDescriptor d = some ty) (hn : narrow ty v = v') (hf : fits ty v' = true) (hd : decode c.code pc = .ok (.putfield index, 3)) (hp : pc + 3 = pc') (K : ∀ T' h', Stand p l e R s m args below meth c T' (locs ++ [⟨a, Jvm.RoadKit.slotOf Z O n d⟩]) cells slots → T'.heap = h' → Wr h h' a (Jvm.RoadKit.slotOf Z O n d) v' → Fld Z h' a O n d v' → Exa Z h' a C → Dn p e below P (T'.setTop (mkF m pc' Ls st))) : Dn p e below P (T.setTop (mkF m pc Ls (v :: .ref a :: st))) := by
  subst hp
  obtain ⟨T', h', X', e', W', st'⟩ := putFN X hx hZ hown w Via.refl eT F E L wi hty hn hf (g := mkF m pc Ls (v :: .ref a :: st)) rfl rfl hd
  exact go st' (K T' h' X' e' W' (F.same W') (E.wr W'))
theorem o_getstatic (X : Stand p l e R s m args below meth c T locs cells slots) (hx : p.tables.exec = Jvm.exec) (hZ : Z.Warmed39 s.vm) {own O n d : String} {index : Nat} (hown : s.vm.findClass own = some m.cls) (w : (Jvm.Cond.fieldLink own index O n d).before a0 Z = true) (eT : T.heap = h) {v : Value} (F : Sta Z h O n d v) (hd : decode c.code pc = .ok (.getstatic index, 3)) (hp : pc + 3 = pc') (K : ∀ T', Stand p l e R s m args below meth c T' locs cells slots → T'.heap = h → Dn p e below P (T'.setTop (mkF m pc' Ls (v :: st)))) : Dn p e below P (T.setTop (mkF m pc Ls st)) := by
  subst hp
  obtain ⟨T', X', e', st'⟩ := getS2 X hx hZ hown (host := "") (Or.inl w) Via.refl eT F (g := mkF m pc Ls st) rfl hd
  exact go st' (K T' X' e')
theorem o_new (X : Stand p l e R s m args below meth c T locs cells slots) (hx : p.tables.exec = Jvm.exec) (hZ : Z.Warmed39 s.vm) {own C : String} {index n : Nat} (hown : s.vm.findClass own = some m.cls) (w : (Jvm.Cond.classLink own index C).before a0 Z = true) (wi : (Jvm.Cond.instantiable C n).before a0 Z = true) (wz : (Jvm.Cond.initialized C).before a0 Z = true) (eT : T.heap = h) (hd : decode c.code pc = .ok (.new index, 3)) (hp : pc + 3 = pc') (hc : cells + 1 ≤ R.cells) (hs : slots + n ≤ R.slots) (K : ∀ T' h' a, a = h.size → Stand p l e R s m args below meth c T' locs (cells + 1) (slots + n) → T'.heap = h' → Ext h h' → Exa Z h' a C → (∀ {O nm d : String} {ty : FieldType}, Laid Z a0 C O nm d → parseFieldDescriptor d = some ty → Fld Z h' a O nm d (defaultValue ty)) → Dn p e below P (T'.setTop (mkF m pc' Ls (.ref a :: st)))) : Dn p e below P (T.setTop (mkF m pc Ls st)) := by
  subst hp
  obtain ⟨T', h', X', e', E', A', D', -, st'⟩ := newO X hx hZ hown w wi wz eT (g := mkF m pc Ls st) rfl hd hc hs
  exact go st' (K T' h' _ rfl X' e' E' A' D')
theorem o_initO (X : Stand p l e R s m args below meth c T locs cells slots) (hx : p.tables.exec = Jvm.exec) (hZ : Z.Warmed39 s.vm) {own : String} {index : Nat} (hown : s.vm.findClass own = some m.cls) (w1 : (Jvm.Cond.methodLink own index Lib.objectInit).before a0 Z = true) (w2 : (Jvm.Cond.instanceMethod Lib.objectInit).before a0 Z = true) (w3 : (Jvm.Cond.code Lib.objectInit ⟨#[0xb1]⟩ 1 none).before a0 Z = true) (eT : T.heap = h) (hsize : Ls.size = c.maxLocals) {a : Addr} (hd : decode c.code pc = .ok (.invokespecial index, 3)) (hp : pc + 3 = pc') (hf : 1 ≤ R.frames) {W : Nat} (hW : 2 * 0 + (st.map fun v => v.category).sum ≤ W) (hl : W + 12 ≤ R.locals) (K : ∀ T', Stand p l e R s m args below meth c T' locs cells slots → T'.heap = h → Dn p e below P (T'.setTop (mkF m pc' Ls st))) : Dn p e below P (T.setTop (mkF m pc Ls (.ref a :: st))) := by
  subst hp
  obtain ⟨T', X', e', st'⟩ := initO X hx hZ hown w1 w2 w3 eT (g := mkF m pc Ls (.ref a :: st)) rfl hsize rfl hd hf (W := W) hW hl
  exact go st' (K T' X' e')
theorem o_callS (X : Stand p l e R s m args below meth c T locs cells slots) (hx : p.tables.exec = Jvm.exec) (hZ : Z.Warmed39 s.vm) {own : String} {index : Nat} {y : MethodName} {bytes : ByteArray} {maxL : Nat} {ret : Option FieldType} {Rm : Room} {Q : Option Value → Heap → List Loc → Prop} {ps : List FieldType} (argsL : List Value) {as' : Array Value} (C : Ctr l Z y bytes maxL ret [] Rm as' h Q) (hown : s.vm.findClass own = some m.cls) (w1 : (Jvm.Cond.methodLink own index y).before a0 Z = true) (w2 : (Jvm.Cond.static y).before a0 Z = true) (w3 : (Jvm.Cond.initialized y.cls).before a0 Z = true) (w4 : (Jvm.Cond.code y bytes maxL ret).before a0 Z = true) (hy : y.cls ≠ "java/lang/invoke/MethodHandle" ∧ y.cls ≠ "java/lang/invoke/VarHandle") (hpd : parseMethodDescriptor y.desc = some ⟨ps, ret⟩) (eT : T.heap = h) (hsize : Ls.size = c.maxLocals) {stk : List Value} (has : as' = argsL.toArray) (hln : argsL.length = ps.length) (hst : stk = argsL.reverse ++ st) (hd : decode c.code pc = .ok (.invokestatic index, 3)) (hp : pc + 3 = pc') (W : Nat) (hW : 2 * 0 + (st.map fun v => v.category).sum ≤ W) (hf : Rm.frames + 1 ≤ R.frames) (hl : W + (maxL + 11) + Rm.locals ≤ R.locals) (hc : cells + Rm.cells ≤ R.cells) (hs : slots + Rm.slots ≤ R.slots) (K : ∀ T' v L, Stand p l e R s m args below meth c T' (locs ++ L) (cells + Rm.cells) (slots + Rm.slots) → Q v T'.heap L → Dn p e below P (T'.setTop (mkF m pc' Ls (v.toList ++ st)))) : Dn p e below P (T.setTop (mkF m pc Ls stk)) := by
  subst hp has hst
  obtain ⟨v, vm₁, ⟨T', L', k', n'⟩, -, X', ⟨L, hQ, l1, y1, z1⟩, st'⟩ := Jvm.LawKit.callS X hx (y := y) hown (mvT hZ w1) (mvT hZ w2) (mvT hZ w3) (mvT hZ w4) hy (backOf (W := W) C hZ w4 w3 hf hl) (g := mkF m pc Ls (argsL.reverse ++ st)) rfl hsize (argsL := argsL) (rest := st) (lenOf hpd hln) rfl hW hd (fun _ _ => ⟨rfl, eT, hc, hs⟩)
  dsimp only [Pt.U, Pt.locs, Pt.cells, Pt.slots] at X' l1 y1 z1 st' hQ
  subst l1 y1 z1
  exact go st' (K T' v L X' hQ)
theorem o_callI (X : Stand p l e R s m args below meth c T locs cells slots) (hx : p.tables.exec = Jvm.exec) (hZ : Z.Warmed39 s.vm) {own : String} {index : Nat} {y : MethodName} {bytes : ByteArray} {maxL : Nat} {Rm : Room} {Q : Option Value → Heap → List Loc → Prop} {ps : List FieldType} (a : Addr) (argsL : List Value) {as' : Array Value} (C : Ctr l Z y bytes maxL none [] Rm as' h Q) (hy1 : y.name = "<init>") (hown : s.vm.findClass own = some m.cls) (w1 : (Jvm.Cond.methodLink own index y).before a0 Z = true) (w2 : (Jvm.Cond.instanceMethod y).before a0 Z = true) (w3 : (Jvm.Cond.initialized y.cls).before a0 Z = true) (w4 : (Jvm.Cond.code y bytes maxL none).before a0 Z = true) (hy : y.cls ≠ "java/lang/invoke/MethodHandle" ∧ y.cls ≠ "java/lang/invoke/VarHandle") (hpd : parseMethodDescriptor y.desc = some ⟨ps, none⟩) (eT : T.heap = h) (hsize : Ls.size = c.maxLocals) {stk : List Value} (has : as' = (.ref a :: argsL).toArray) (hln : argsL.length = ps.length) (hst : stk = argsL.reverse ++ .ref a :: st) (hd : decode c.code pc = .ok (.invokespecial index, 3)) (hp : pc + 3 = pc') (W : Nat) (hW : 2 * 0 + (st.map fun v => v.category).sum ≤ W) (hf : Rm.frames + 1 ≤ R.frames) (hl : W + (maxL + 11) + Rm.locals ≤ R.locals) (hc : cells + Rm.cells ≤ R.cells) (hs : slots + Rm.slots ≤ R.slots) (K : ∀ T' v L, Stand p l e R s m args below meth c T' (locs ++ L) (cells + Rm.cells) (slots + Rm.slots) → Q v T'.heap L → Dn p e below P (T'.setTop (mkF m pc' Ls (v.toList ++ st)))) : Dn p e below P (T.setTop (mkF m pc Ls stk)) := by
  subst hp has hst
  obtain ⟨v, vm₁, ⟨T', L', k', n'⟩, -, X', ⟨L, hQ, l1, y1, z1⟩, st'⟩ := X.specialBack hx (y := y) hy1 hown (mvT hZ w1) (mvT hZ w2) (mvT hZ w4) hy (backOf (W := W) C hZ w4 w3 hf hl) (g := mkF m pc Ls (argsL.reverse ++ .ref a :: st)) rfl hsize (Steps.refl _) (a := a) (argsL := argsL) (rest := st) (lenOf hpd hln) rfl hW hd (fun _ _ => ⟨rfl, eT, hc, hs⟩)
  dsimp only [Pt.U, Pt.locs, Pt.cells, Pt.slots] at X' l1 y1 z1 st' hQ
  subst l1 y1 z1
  exact goS st' (K T' v L X' hQ)
theorem o_callV (X : Stand p l e R s m args below meth c T locs cells slots) (hx : p.tables.exec = Jvm.exec) (hZ : Z.Warmed39 s.vm) {own Cc : String} {index : Nat} {y : MethodName} {bytes : ByteArray} {maxL : Nat} {ret : Option FieldType} {Rm : Room} {Q : Option Value → Heap → List Loc → Prop} {ps : List FieldType} (a : Addr) (argsL : List Value) {as' : Array Value} (C : Ctr l Z y bytes maxL ret [] Rm as' h Q) (hown : s.vm.findClass own = some m.cls) (w1 : (Jvm.Cond.methodLink own index y).before a0 Z = true) (w5 : (Jvm.Cond.declares y).before a0 Z = true) (w6 : (Jvm.Cond.selects Cc y y).before a0 Z = true) (w2 : (Jvm.Cond.instanceMethod y).before a0 Z = true) (w3 : (Jvm.Cond.initialized y.cls).before a0 Z = true) (w4 : (Jvm.Cond.code y bytes maxL ret).before a0 Z = true) (hy : y.cls ≠ "java/lang/invoke/MethodHandle" ∧ y.cls ≠ "java/lang/invoke/VarHandle") (E : Exa Z h a Cc) (hpd : parseMethodDescriptor y.desc = some ⟨ps, ret⟩) (eT : T.heap = h) (hsize : Ls.size = c.maxLocals) {stk : List Value} (has : as' = (.ref a :: argsL).toArray) (hln : argsL.length = ps.length) (hst : stk = argsL.reverse ++ .ref a :: st) (hd : decode c.code pc = .ok (.invokevirtual index, 3)) (hp : pc + 3 = pc') (W : Nat) (hW : 2 * 0 + (st.map fun v => v.category).sum ≤ W) (hf : Rm.frames + 1 ≤ R.frames) (hl : W + (maxL + 11) + Rm.locals ≤ R.locals) (hc : cells + Rm.cells ≤ R.cells) (hs : slots + Rm.slots ≤ R.slots) (K : ∀ T' v L, Stand p l e R s m args below meth c T' (locs ++ L) (cells + Rm.cells) (slots + Rm.slots) → Q v T'.heap L → Dn p e below P (T'.setTop (mkF m pc' Ls (v.toList ++ st)))) : Dn p e below P (T.setTop (mkF m pc Ls stk)) := by
  subst hp has hst
  obtain ⟨cq, kq, qa, qb, qc⟩ := isOf (T := T) hZ eT E
  obtain ⟨v, vm₁, ⟨T', L', k', n'⟩, -, X', ⟨L, hQ, l1, y1, z1⟩, st'⟩ := X.virtualBack hx (y := y) (z := y) hown (mvT hZ w1) (mvT hZ w5) (notFace_of_selects (args := #[]) (mvT hZ w6)) (mvT hZ w6) (mvT hZ w2) hy (backOf (W := W) C hZ w4 w3 hf hl) qa qc (g := mkF m pc Ls (argsL.reverse ++ .ref a :: st)) rfl hsize (Steps.refl _) (argsL := argsL) (rest := st) (lenOf hpd hln) rfl hW hd (fun _ _ => ⟨rfl, eT, hc, hs⟩)
  dsimp only [Pt.U, Pt.locs, Pt.cells, Pt.slots] at X' l1 y1 z1 st' hQ
  subst l1 y1 z1
  exact goS st' (K T' v L X' hQ)
theorem o_callP (X : Stand p l e R s m args below meth c T locs cells slots) (hx : p.tables.exec = Jvm.exec) (hZ : Z.Warmed39 s.vm) {own : String} {index : Nat} {y : MethodName} {bytes : ByteArray} {maxL : Nat} {ret : Option FieldType} {Rm : Room} {Q : Option Value → Heap → List Loc → Prop} {ps : List FieldType} (a : Addr) (argsL : List Value) {as' : Array Value} (C : Ctr l Z y bytes maxL ret [] Rm as' h Q) (hown : s.vm.findClass own = some m.cls) (w1 : (Jvm.Cond.methodLink own index y).before a0 Z = true) {kk : Nat} (w6 : (Jvm.Cond.instantiable y.cls kk).before a0 Z = true) (w7 : (Jvm.Cond.privateMethod y).before a0 Z = true) (w2 : (Jvm.Cond.instanceMethod y).before a0 Z = true) (w3 : (Jvm.Cond.initialized y.cls).before a0 Z = true) (w4 : (Jvm.Cond.code y bytes maxL ret).before a0 Z = true) (hy : y.cls ≠ "java/lang/invoke/MethodHandle" ∧ y.cls ≠ "java/lang/invoke/VarHandle") {Cc : String} (E : Exa Z h a Cc) (hpd : parseMethodDescriptor y.desc = some ⟨ps, ret⟩) (eT : T.heap = h) (hsize : Ls.size = c.maxLocals) {stk : List Value} (has : as' = (.ref a :: argsL).toArray) (hln : argsL.length = ps.length) (hst : stk = argsL.reverse ++ .ref a :: st) (hd : decode c.code pc = .ok (.invokevirtual index, 3)) (hp : pc + 3 = pc') (W : Nat) (hW : 2 * 0 + (st.map fun v => v.category).sum ≤ W) (hf : Rm.frames + 1 ≤ R.frames) (hl : W + (maxL + 11) + Rm.locals ≤ R.locals) (hc : cells + Rm.cells ≤ R.cells) (hs : slots + Rm.slots ≤ R.slots) (K : ∀ T' v L, Stand p l e R s m args below meth c T' (locs ++ L) (cells + Rm.cells) (slots + Rm.slots) → Q v T'.heap L → Dn p e below P (T'.setTop (mkF m pc' Ls (v.toList ++ st)))) : Dn p e below P (T.setTop (mkF m pc Ls stk)) := by
  subst hp has hst
  obtain ⟨cq, q1, q2⟩ := E.cell
  obtain ⟨cc, kc, hcc, hkc, -, hni, -, -⟩ := Jvm.Cond.instantiable_spec (mvT (args := args) hZ w6)
  have hpv := Jvm.Cond.privateMethod_at (mvP hZ w7 (args := #[]))
  have hsel := selects_self_of_private (args := args) hcc hkc (Bool.or_eq_false_iff.mp hni).1 hpv (mvT hZ w2) hy
  obtain ⟨v, vm₁, ⟨T', L', k', n'⟩, -, X', ⟨L, hQ, l1, y1, z1⟩, st'⟩ := X.privateBack hx (y := y) hown (mvT hZ w1) (mvT hZ w2) hsel hpv (mvT hZ w4) hy (backOf (W := W) C hZ w4 w3 hf hl) (g := mkF m pc Ls (argsL.reverse ++ .ref a :: st)) rfl hsize (Steps.refl _) (a := a) (by rw [eT]; exact q1) q2 (argsL := argsL) (rest := st) (lenOf hpd hln) rfl hW hd (fun _ _ => ⟨rfl, eT, hc, hs⟩)
  dsimp only [Pt.U, Pt.locs, Pt.cells, Pt.slots] at X' l1 y1 z1 st' hQ
  subst l1 y1 z1
  exact goS st' (K T' v L X' hQ)
abbrev Pure (v0 : Value) (h0 : Heap) : Option Value → Heap → List Loc → Prop := fun v h L => v = some v0 ∧ L = [] ∧ h = h0
theorem o_callSP (X : Stand p l e R s m args below meth c T locs cells slots) (hx : p.tables.exec = Jvm.exec) (hZ : Z.Warmed39 s.vm) {own : String} {index : Nat} {y : MethodName} {bytes : ByteArray} {maxL : Nat} {ret : Option FieldType} {Rm : Room} {v0 : Value} {ps : List FieldType} (argsL : List Value) {as' : Array Value} (C : Ctr l Z y bytes maxL ret [] Rm as' h (Pure v0 h)) (hown : s.vm.findClass own = some m.cls) (w1 : (Jvm.Cond.methodLink own index y).before a0 Z = true) (w2 : (Jvm.Cond.static y).before a0 Z = true) (w3 : (Jvm.Cond.initialized y.cls).before a0 Z = true) (w4 : (Jvm.Cond.code y bytes maxL ret).before a0 Z = true) (hy : y.cls ≠ "java/lang/invoke/MethodHandle" ∧ y.cls ≠ "java/lang/invoke/VarHandle") (hpd : parseMethodDescriptor y.desc = some ⟨ps, ret⟩) (eT : T.heap = h) (hsize : Ls.size = c.maxLocals) {stk : List Value} (has : as' = argsL.toArray) (hln : argsL.length = ps.length) (hst : stk = argsL.reverse ++ st) (hd : decode c.code pc = .ok (.invokestatic index, 3)) (hp : pc + 3 = pc') (W : Nat) (hW : 2 * 0 + (st.map fun v => v.category).sum ≤ W) (hf : Rm.frames + 1 ≤ R.frames) (hl : W + (maxL + 11) + Rm.locals ≤ R.locals) (hc0 : Rm.cells = 0) (hs0 : Rm.slots = 0) (hc : cells ≤ R.cells) (hs : slots ≤ R.slots) (K : ∀ T', Stand p l e R s m args below meth c T' locs cells slots → T'.heap = h → Dn p e below P (T'.setTop (mkF m pc' Ls (v0 :: st)))) : Dn p e below P (T.setTop (mkF m pc Ls stk)) := by
  refine o_callS X hx hZ argsL C hown w1 w2 w3 w4 hy hpd eT hsize has hln hst hd hp W hW hf hl (by rw [hc0]; exact hc) (by rw [hs0]; exact hs) ?_
  intro T' v L X' hQ
  obtain ⟨rfl, rfl, e'⟩ := hQ
  rw [List.append_nil, hc0, hs0] at X'
  exact K T' X' e'
theorem o_callVP (X : Stand p l e R s m args below meth c T locs cells slots) (hx : p.tables.exec = Jvm.exec) (hZ : Z.Warmed39 s.vm) {own Cc : String} {index : Nat} {y : MethodName} {bytes : ByteArray} {maxL : Nat} {ret : Option FieldType} {Rm : Room} {v0 : Value} {ps : List FieldType} (a : Addr) (argsL : List Value) {as' : Array Value} (C : Ctr l Z y bytes maxL ret [] Rm as' h (Pure v0 h)) (hown : s.vm.findClass own = some m.cls) (w1 : (Jvm.Cond.methodLink own index y).before a0 Z = true) (w5 : (Jvm.Cond.declares y).before a0 Z = true) (w6 : (Jvm.Cond.selects Cc y y).before a0 Z = true) (w2 : (Jvm.Cond.instanceMethod y).before a0 Z = true) (w3 : (Jvm.Cond.initialized y.cls).before a0 Z = true) (w4 : (Jvm.Cond.code y bytes maxL ret).before a0 Z = true) (hy : y.cls ≠ "java/lang/invoke/MethodHandle" ∧ y.cls ≠ "java/lang/invoke/VarHandle") (E : Exa Z h a Cc) (hpd : parseMethodDescriptor y.desc = some ⟨ps, ret⟩) (eT : T.heap = h) (hsize : Ls.size = c.maxLocals) {stk : List Value} (has : as' = (.ref a :: argsL).toArray) (hln : argsL.length = ps.length) (hst : stk = argsL.reverse ++ .ref a :: st) (hd : decode c.code pc = .ok (.invokevirtual index, 3)) (hp : pc + 3 = pc') (W : Nat) (hW : 2 * 0 + (st.map fun v => v.category).sum ≤ W) (hf : Rm.frames + 1 ≤ R.frames) (hl : W + (maxL + 11) + Rm.locals ≤ R.locals) (hc0 : Rm.cells = 0) (hs0 : Rm.slots = 0) (hc : cells ≤ R.cells) (hs : slots ≤ R.slots) (K : ∀ T', Stand p l e R s m args below meth c T' locs cells slots → T'.heap = h → Dn p e below P (T'.setTop (mkF m pc' Ls (v0 :: st)))) : Dn p e below P (T.setTop (mkF m pc Ls stk)) := by
  refine o_callV X hx hZ a argsL C hown w1 w5 w6 w2 w3 w4 hy E hpd eT hsize has hln hst hd hp W hW hf hl (by rw [hc0]; exact hc) (by rw [hs0]; exact hs) ?_
  intro T' v L X' hQ
  obtain ⟨rfl, rfl, e'⟩ := hQ
  rw [List.append_nil, hc0, hs0] at X'
  exact K T' X' e'
theorem o_callPP (X : Stand p l e R s m args below meth c T locs cells slots) (hx : p.tables.exec = Jvm.exec) (hZ : Z.Warmed39 s.vm) {own : String} {index : Nat} {y : MethodName} {bytes : ByteArray} {maxL : Nat} {ret : Option FieldType} {Rm : Room} {v0 : Value} {ps : List FieldType} (a : Addr) (argsL : List Value) {as' : Array Value} (C : Ctr l Z y bytes maxL ret [] Rm as' h (Pure v0 h)) (hown : s.vm.findClass own = some m.cls) (w1 : (Jvm.Cond.methodLink own index y).before a0 Z = true) {kk : Nat} (w6 : (Jvm.Cond.instantiable y.cls kk).before a0 Z = true) (w7 : (Jvm.Cond.privateMethod y).before a0 Z = true) (w2 : (Jvm.Cond.instanceMethod y).before a0 Z = true) (w3 : (Jvm.Cond.initialized y.cls).before a0 Z = true) (w4 : (Jvm.Cond.code y bytes maxL ret).before a0 Z = true) (hy : y.cls ≠ "java/lang/invoke/MethodHandle" ∧ y.cls ≠ "java/lang/invoke/VarHandle") {Cc : String} (E : Exa Z h a Cc) (hpd : parseMethodDescriptor y.desc = some ⟨ps, ret⟩) (eT : T.heap = h) (hsize : Ls.size = c.maxLocals) {stk : List Value} (has : as' = (.ref a :: argsL).toArray) (hln : argsL.length = ps.length) (hst : stk = argsL.reverse ++ .ref a :: st) (hd : decode c.code pc = .ok (.invokevirtual index, 3)) (hp : pc + 3 = pc') (W : Nat) (hW : 2 * 0 + (st.map fun v => v.category).sum ≤ W) (hf : Rm.frames + 1 ≤ R.frames) (hl : W + (maxL + 11) + Rm.locals ≤ R.locals) (hc0 : Rm.cells = 0) (hs0 : Rm.slots = 0) (hc : cells ≤ R.cells) (hs : slots ≤ R.slots) (K : ∀ T', Stand p l e R s m args below meth c T' locs cells slots → T'.heap = h → Dn p e below P (T'.setTop (mkF m pc' Ls (v0 :: st)))) : Dn p e below P (T.setTop (mkF m pc Ls stk)) := by
  refine o_callP X hx hZ a argsL C hown w1 w6 w7 w2 w3 w4 hy E hpd eT hsize has hln hst hd hp W hW hf hl (by rw [hc0]; exact hc) (by rw [hs0]; exact hs) ?_
  intro T' v L X' hQ
  obtain ⟨rfl, rfl, e'⟩ := hQ
  rw [List.append_nil, hc0, hs0] at X'
  exact K T' X' e'
end Own
section OwnNum
/-- the value of a double, in units of the least one -/
abbrev zv (a : UInt64) : Int := FP.Core.zval FP.Core.b64 (FP.Core.val64 a)
abbrev zm (a : UInt64) : Nat := FP.Core.zmag FP.Core.b64 (FP.Core.val64 a)
theorem own_U : FP.Core.one64 = 2 ^ 1074 := rfl
theorem own_U0 : 0 < FP.Core.one64 := FP.Core.one64_pos
/-- n / 2^j is a double -/
theorem own_rep (s : Bool) {n : Nat} (hn : n ≤ 2 ^ 53) {j : Nat} (hj : j ≤ 1000) : ∃ c q, FP.Core.fits FP.Core.b64 (.fin s c q) ∧ FP.Core.zmag FP.Core.b64 (.fin s c q) * 2 ^ j = n * FP.Core.one64 := by
  have hm := FP.Core.qmin_b64
  by_cases h0 : n = 0
  · subst h0
    refine ⟨0, _, FP.Core.zero_fits FP.Core.good_b64 s, ?_⟩
    simp [FP.Core.zmag, FP.Core.inUnits]
  obtain ⟨c, q, hf, hv⟩ := FP.Core.natFit FP.Core.good_b64 FP.Core.wide_b64 s (n := n) hn
  obtain ⟨h1, h2, h3, h4⟩ := hf
  rw [Nat.mul_one] at hv
  have h1' : c < 2 ^ 53 := h1
  have hq : -53 ≤ q := by
    refine Int.not_lt.mp fun hlt => ?_
    rw [show (q - 0).toNat = 0 by omega, Nat.pow_zero, Nat.mul_one] at hv
    have e1 : 2 ^ 53 ≤ 2 ^ (0 - q).toNat := Nat.pow_le_pow_right (by decide) (by omega)
    have e2 : 2 ^ (0 - q).toNat ≤ n * 2 ^ (0 - q).toNat := Nat.le_mul_of_pos_left _ (by omega)
    omega
  refine ⟨c, q - j, ⟨h1, by omega, by omega, Or.inr (by
    rcases h4 with h4 | h4
    · omega
    · exact h4)⟩, ?_⟩
  show c * 2 ^ (q - j - FP.Core.b64.qmin).toNat * 2 ^ j = n * 2 ^ 1074
  rw [hm, Nat.mul_assoc, ← Nat.pow_add, show (q - j - -1074).toNat + j = (q + 1074).toNat by omega]
  have e3 : (q - 0).toNat + 1074 = (q + 1074).toNat + (0 - q).toNat := by omega
  refine Nat.eq_of_mul_eq_mul_right (Nat.two_pow_pos (0 - q).toNat) ?_
  rw [Nat.mul_assoc, ← Nat.pow_add, ← e3, Nat.pow_add, ← Nat.mul_assoc, ← hv, Nat.mul_right_comm]
theorem own_repI {n : Int} (hn : n.natAbs ≤ 2 ^ 53) {j : Nat} (hj : j ≤ 1000) : ∃ V, FP.Core.fits FP.Core.b64 V ∧ (∃ s c q, V = .fin s c q) ∧ FP.Core.zval FP.Core.b64 V * ((2 ^ j : Nat) : Int) = n * (FP.Core.one64 : Int) := by
  obtain ⟨c, q, h1, h2⟩ := own_rep (decide (n < 0)) hn hj
  refine ⟨_, h1, ⟨_, _, _, rfl⟩, ?_⟩
  show FP.Core.signed (decide (n < 0)) (FP.Core.zmag FP.Core.b64 (.fin (decide (n < 0)) c q)) * _ = _
  rw [← FP.Core.signed_mul, h2, FP.Core.signed_mul]
  congr 1
  unfold FP.Core.signed
  by_cases h : n < 0 <;> simp [h] <;> omega
theorem own_fne {V : FP.Core.Datum} (h : ∃ s c q, V = .fin s c q) : V ≠ .nan := by
  obtain ⟨s, c, q, rfl⟩ := h
  exact FP.Core.Datum.noConfusion
/-- a double of the value of a finite datum is finite -/
theorem own_finV {a : UInt64} {V : FP.Core.Datum} (hn : FP.Core.val64 a ≠ .nan) (hf : FP.Core.fits FP.Core.b64 V) (hV : ∃ s c q, V = .fin s c q) (h : zm a ≤ FP.Core.zmag FP.Core.b64 V) : FP.Core.DFin a := by
  obtain ⟨s, c, q, rfl⟩ := hV
  have t := FP.Core.zmag_lt_top FP.Core.good_b64 hf
  cases e : FP.Core.val64 a with
  | nan => exact absurd e hn
  | inf u =>
    have h' : FP.Core.zmag FP.Core.b64 (FP.Core.val64 a) ≤ FP.Core.inUnits c q FP.Core.b64.qmin := h
    rw [e] at h'
    exact absurd (Nat.lt_of_le_of_lt h' t) (Nat.lt_irrefl _)
  | fin u c' q' => exact ⟨_, _, _, e⟩
theorem own_zabs (a : UInt64) : (zv a).natAbs = zm a := FP.Core.natAbs_signed _ _
theorem own_zabsV (V : FP.Core.Datum) : (FP.Core.zval FP.Core.b64 V).natAbs = FP.Core.zmag FP.Core.b64 V := FP.Core.natAbs_signed _ _
/-- a is finite and its value is n / 2^j -/
def Dy (a : UInt64) (n : Int) (j : Nat) : Prop := FP.Core.DFin a ∧ zv a * ((2 ^ j : Nat) : Int) = n * (FP.Core.one64 : Int)
theorem own_dint {i : Int} {a : UInt64} (h : FP.Core.DInt i a) : Dy a i 0 := by
  refine ⟨?_, ?_⟩
  · have h' : FP.Core.Whole i (FP.Core.val64 a) := h
    cases e : FP.Core.val64 a with
    | nan => rw [e] at h'; exact h'.elim
    | inf u => rw [e] at h'; exact h'.elim
    | fin u c q => exact ⟨_, _, _, e⟩
  · rw [show zv a = i * (FP.Core.one64 : Int) from FP.Core.DInt_zval h]
    show _ * ((1 : Nat) : Int) = _
    omega
theorem own_p2 (j : Nat) : (0 : Int) < ((2 ^ j : Nat) : Int) := by
  have := Nat.two_pow_pos j
  omega
theorem own_UI : (0 : Int) < (FP.Core.one64 : Int) := by
  have := own_U0
  omega
/-- values compare as their numerators -/
theorem Dy.cmp {a b : UInt64} {n m : Int} {j : Nat} (ha : Dy a n j) (hb : Dy b m j) : FP.Core.dcmp a b = some (compare n m) := by
  rw [FP.Core.dcmp_zval ha.1.ne_nan hb.1.ne_nan, ← FP.Core.compare_mul_pos _ _ _ (own_p2 j), ha.2, hb.2, FP.Core.compare_mul_pos _ _ _ own_UI]
theorem own_icancel {x y : Int} {j : Nat} (h : x * ((2 ^ j : Nat) : Int) = y * ((2 ^ j : Nat) : Int)) : x = y := Int.eq_of_mul_eq_mul_right (Int.ne_of_gt (own_p2 j)) h
theorem own_ile {x y : Int} {j : Nat} (h : x * ((2 ^ j : Nat) : Int) ≤ y * ((2 ^ j : Nat) : Int)) : x ≤ y := Int.le_of_mul_le_mul_right h (own_p2 j)
theorem own_sumne {x y : FP.Core.Datum} (hx : ∃ s c q, x = .fin s c q) (hy : ∃ s c q, y = .fin s c q) : FP.Core.round FP.Core.b64 (FP.Core.exactSum x y) ≠ .nan := by
  obtain ⟨s, c, q, rfl⟩ := hx
  obtain ⟨t, d, r, rfl⟩ := hy
  exact FP.Core.roundRatio_ne_nan _ _ _ _ _
theorem own_neg {x : FP.Core.Datum} (hx : ∃ s c q, x = .fin s c q) : ∃ s c q, FP.Core.negate x = .fin s c q := by
  obtain ⟨s, c, q, rfl⟩ := hx
  exact ⟨_, _, _, rfl⟩
/-- a difference that is a double is exact -/
theorem Dy.sub {a b : UInt64} {n m : Int} {j : Nat} (ha : Dy a n j) (hb : Dy b m j) (hn : (n - m).natAbs ≤ 2 ^ 53) (hj : j ≤ 1000) : Dy (FP.Core.dsub a b) (n - m) j := by
  obtain ⟨V, f, hV, e⟩ := own_repI hn hj
  have hn' := own_neg hb.1
  have es : zv a + FP.Core.zval FP.Core.b64 (FP.Core.negate (FP.Core.val64 b)) = FP.Core.zval FP.Core.b64 V := by
    rw [FP.Core.zval_negate]
    apply own_icancel (j := j)
    rw [Int.add_mul, Int.neg_mul, ha.2, hb.2, e, Int.sub_mul]
    omega
  have l := FP.Core.sum_le FP.Core.good_b64 ha.1 hn' (FP.Core.val64_fits a) (FP.Core.negate_fits (FP.Core.val64_fits b)) f (own_fne hV) (Int.le_of_eq es)
  have g := FP.Core.sum_ge FP.Core.good_b64 ha.1 hn' (FP.Core.val64_fits a) (FP.Core.negate_fits (FP.Core.val64_fits b)) f (own_fne hV) (Int.le_of_eq es.symm)
  have ev : zv (FP.Core.dsub a b) = FP.Core.zval FP.Core.b64 V := by
    show FP.Core.zval FP.Core.b64 (FP.Core.val64 (FP.Core.dsub a b)) = _
    rw [FP.Core.val64_dsub]
    omega
  refine ⟨own_finV ?_ f hV ?_, by rw [ev, e]⟩
  · rw [FP.Core.val64_dsub]
    exact own_sumne ha.1 hn'
  · rw [← own_zabs, ev, own_zabsV]
    exact Nat.le_refl _
/-- a quotient, by the two values -/
theorem own_quot {a b : UInt64} (ha : FP.Core.DFin a) (hb : FP.Core.DFin b) (hz : zm b ≠ 0) : FP.Core.val64 (FP.Core.ddiv a b) = FP.Core.roundRatio FP.Core.b64 (FP.Core.sgn (FP.Core.val64 a) != FP.Core.sgn (FP.Core.val64 b)) (zm a) (zm b) 0 := by
  have fa := FP.Core.val64_fits a
  have fb := FP.Core.val64_fits b
  rw [FP.Core.val64_ddiv]
  unfold zm at hz ⊢
  obtain ⟨s, c, q, ea⟩ := ha
  obtain ⟨t, d, r, eb⟩ := hb
  rw [ea] at fa ⊢
  rw [eb] at fb hz ⊢
  have hd : d ≠ 0 := fun h => hz (by rw [h]; simp [FP.Core.zmag, FP.Core.inUnits])
  show (if d = 0 then _ else FP.Core.roundRatio FP.Core.b64 (s != t) c d (q - r)) = FP.Core.roundRatio FP.Core.b64 (s != t) _ _ 0
  rw [if_neg hd]
  have h1 := fa.2.1
  have h2 := fb.2.1
  refine FP.Core.roundRatio_congr (by omega) (by omega) ?_
  show c * (d * 2 ^ (r - FP.Core.b64.qmin).toNat) * 2 ^ (q - r - 0).toNat = c * 2 ^ (q - FP.Core.b64.qmin).toNat * d * 2 ^ (0 - (q - r)).toNat
  have e1 : (r - FP.Core.b64.qmin).toNat + (q - r - 0).toNat = (q - FP.Core.b64.qmin).toNat + (0 - (q - r)).toNat := by omega
  calc c * (d * 2 ^ (r - FP.Core.b64.qmin).toNat) * 2 ^ (q - r - 0).toNat = c * d * 2 ^ ((r - FP.Core.b64.qmin).toNat + (q - r - 0).toNat) := by rw [Nat.pow_add]; ac_rfl
    _ = c * 2 ^ (q - FP.Core.b64.qmin).toNat * d * 2 ^ (0 - (q - r)).toNat := by rw [e1, Nat.pow_add]; ac_rfl
theorem own_q_le {s : Bool} {n m : Nat} {V : FP.Core.Datum} (hm : 0 < m) (f : FP.Core.fits FP.Core.b64 V) (hV : ∃ s c q, V = .fin s c q) (h : n * FP.Core.one64 ≤ FP.Core.zmag FP.Core.b64 V * m) : FP.Core.zmag FP.Core.b64 (FP.Core.roundRatio FP.Core.b64 s n m 0) ≤ FP.Core.zmag FP.Core.b64 V := by
  refine FP.Core.zmag_roundRatio_le FP.Core.good_b64 hm f (own_fne hV) (Int.le_refl _) (by rw [FP.Core.qmin_b64]; decide) ?_
  rw [Int.sub_self, show (2 : Nat) ^ (0 : Int).toNat = 1 from rfl, Nat.mul_one, FP.Core.qmin_b64]
  exact h
theorem own_q_ge {s : Bool} {n m : Nat} {V : FP.Core.Datum} (hm : 0 < m) (f : FP.Core.fits FP.Core.b64 V) (h : FP.Core.zmag FP.Core.b64 V * m ≤ n * FP.Core.one64) : FP.Core.zmag FP.Core.b64 V ≤ FP.Core.zmag FP.Core.b64 (FP.Core.roundRatio FP.Core.b64 s n m 0) := by
  refine FP.Core.zmag_roundRatio_ge FP.Core.good_b64 hm f (Int.le_refl _) (by rw [FP.Core.qmin_b64]; decide) ?_
  rw [Int.sub_self, show (2 : Nat) ^ (0 : Int).toNat = 1 from rfl, Nat.mul_one, FP.Core.qmin_b64]
  exact h
theorem own_sgn {a : UInt64} (h : 0 < zv a) : FP.Core.sgn (FP.Core.val64 a) = false := by
  have h' : 0 < FP.Core.signed (FP.Core.sgn (FP.Core.val64 a)) (zm a) := h
  cases e : FP.Core.sgn (FP.Core.val64 a) with
  | false => rfl
  | true => rw [e] at h'; simp only [FP.Core.signed, if_true] at h'; omega
theorem Dy.pos {a : UInt64} {n : Int} {j : Nat} (h : Dy a n j) (hn : 0 < n) : 0 < zv a := by
  refine Int.lt_of_not_ge fun hle => ?_
  have h1 : zv a * ((2 ^ j : Nat) : Int) ≤ 0 := Int.mul_nonpos_of_nonpos_of_nonneg hle (Int.le_of_lt (own_p2 j))
  have h2 := Int.mul_pos hn own_UI
  rw [← h.2] at h2
  omega
theorem Dy.mag {a : UInt64} {n : Int} {j : Nat} (h : Dy a n j) : zm a * 2 ^ j = n.natAbs * FP.Core.one64 := by
  have q := congrArg Int.natAbs h.2
  rw [Int.natAbs_mul, Int.natAbs_mul, Int.natAbs_natCast, Int.natAbs_natCast, own_zabs] at q
  exact q
theorem own_qfin {a b : UInt64} (ha : FP.Core.DFin a) (hb : FP.Core.DFin b) (hz : zm b ≠ 0) : FP.Core.val64 (FP.Core.ddiv a b) ≠ .nan := by
  rw [own_quot ha hb hz]
  exact FP.Core.roundRatio_ne_nan _ _ _ _ _
/-- by a power of two: exact -/
theorem Dy.div2 {a b : UInt64} {n : Int} {j : Nat} (ha : Dy a n 0) (hb : Dy b ((2 ^ j : Nat) : Int) 0) (hn : n.natAbs ≤ 2 ^ 53) (hj : j ≤ 1000) : Dy (FP.Core.ddiv a b) n j := by
  have ma := ha.mag
  have mb := hb.mag
  rw [Nat.pow_zero, Nat.mul_one] at ma mb
  rw [Int.natAbs_natCast] at mb
  have pj := Nat.two_pow_pos j
  have hz : zm b ≠ 0 := by rw [mb]; exact Nat.ne_of_gt (Nat.mul_pos pj own_U0)
  have sb := own_sgn (hb.pos (own_p2 j))
  have hq := own_quot ha.1 hb.1 hz
  obtain ⟨c, q, f, e⟩ := own_rep (FP.Core.sgn (FP.Core.val64 a)) hn hj
  have hr : FP.Core.val64 (FP.Core.ddiv a b) = FP.Core.roundRatio FP.Core.b64 (FP.Core.sgn (FP.Core.val64 a) != FP.Core.sgn (FP.Core.val64 b)) n.natAbs (2 ^ j) 0 := by
    rw [hq, ma, mb]
    refine FP.Core.roundRatio_congr (Nat.mul_pos pj own_U0) pj ?_
    rw [Int.sub_self]
    generalize FP.Core.one64 = u
    ac_rfl
  have l := own_q_le (s := FP.Core.sgn (FP.Core.val64 a) != FP.Core.sgn (FP.Core.val64 b)) (n := n.natAbs) pj f ⟨_, _, _, rfl⟩ (Nat.le_of_eq e.symm)
  have g := own_q_ge (s := FP.Core.sgn (FP.Core.val64 a) != FP.Core.sgn (FP.Core.val64 b)) (n := n.natAbs) pj f (Nat.le_of_eq e)
  rw [← hr] at l g
  have em : zm (FP.Core.ddiv a b) = FP.Core.zmag FP.Core.b64 (.fin (FP.Core.sgn (FP.Core.val64 a)) c q) := Nat.le_antisymm l g
  have es : FP.Core.sgn (FP.Core.val64 (FP.Core.ddiv a b)) = FP.Core.sgn (FP.Core.val64 a) := by
    rw [hr, FP.Core.sgn_roundRatio, sb]
    cases FP.Core.sgn (FP.Core.val64 a) <;> rfl
  refine ⟨own_finV (own_qfin ha.1 hb.1 hz) f ⟨_, _, _, rfl⟩ l, ?_⟩
  show FP.Core.signed (FP.Core.sgn (FP.Core.val64 (FP.Core.ddiv a b))) (zm (FP.Core.ddiv a b)) * _ = _
  rw [es, em, ← FP.Core.signed_mul, e, ← ma]
  have := ha.2
  rw [show ((2 ^ 0 : Nat) : Int) = 1 from rfl, Int.mul_one] at this
  exact this
theorem own_nat1 {z w n k P U : Nat} (hP : 0 < P) (e : z * P = n * U) (h : n * w ≤ k * P) : z * w ≤ k * U := by
  apply Nat.le_of_mul_le_mul_right (c := P) _ hP
  calc z * w * P = z * P * w := by ac_rfl
    _ = n * w * U := by rw [e]; ac_rfl
    _ ≤ k * P * U := Nat.mul_le_mul_right _ h
    _ = k * U * P := by ac_rfl
theorem own_nat2 {z w n k P U : Nat} (hP : 0 < P) (e : z * P = n * U) (h : k * P ≤ n * w) : k * U ≤ z * w := by
  apply Nat.le_of_mul_le_mul_right (c := P) _ hP
  calc k * U * P = k * P * U := by ac_rfl
    _ ≤ n * w * U := Nat.mul_le_mul_right _ h
    _ = z * w * P := by rw [Nat.mul_right_comm z, e]; ac_rfl
theorem own_a3 {k w : Nat} (hk : k < w) (hw : w < 2 ^ 31) : k * 2 ^ 31 ≤ 2147483647 * w := by
  obtain ⟨d, rfl⟩ : ∃ d, w = k + 1 + d := ⟨w - k - 1, by omega⟩
  have h : k ≤ 2147483647 := by omega
  have e : 2147483647 * (k + 1 + d) = 2147483647 * k + 2147483647 + 2147483647 * d := by rw [Nat.mul_add, Nat.mul_add]
  have e2 : k * 2 ^ 31 = 2147483647 * k + k := by omega
  rw [e, e2]
  exact Nat.le_trans (Nat.add_le_add_left h _) (Nat.le_add_right _ _)
theorem own_a4 {k w : Nat} (h : 0 < k) (hw : w < 2 ^ 31) : 1 * w ≤ k * 2 ^ 31 := by omega
theorem own_a5 {k w : Nat} (hk : k < w) (hw : w < 2 ^ 31) : k * 4194304 + 1 ≤ 2 ^ 53 := by omega
theorem own_a6 {k w x : Nat} (hw : w < 2 ^ 31) (h : x ≤ k * 2 ^ 53) : x + w ≤ (k * 4194304 + 1) * 2 ^ 31 := by omega
theorem own_a7 {k w x : Nat} (hw : w < 2 ^ 31) (h : k * 2 ^ 53 ≤ x + w) : (k * 4194304 - 1) * 2 ^ 31 ≤ x := by
  rw [Nat.sub_mul, Nat.mul_assoc, show 4194304 * 2 ^ 31 = 2 ^ 53 by decide]
  refine Nat.sub_le_iff_le_add.mpr (Nat.le_trans h (Nat.add_le_add_left ?_ _))
  rw [Nat.one_mul]
  exact Nat.le_of_lt hw
theorem own_a8 {k w : Nat} (hk : k < w) : k * 2 ^ 53 < 2 ^ 53 * w := by omega
/-- the quotient of k / 2^j by w / 2^j -/
theorem own_ratio {a b : UInt64} {k w j : Nat} (ha : Dy a (k : Int) j) (hb : Dy b (w : Int) j) (hk : k < w) (hw : w < 2 ^ 31) :
    ∃ n R : Nat, zv (FP.Core.ddiv a b) = (R : Int) ∧ FP.Core.DFin (FP.Core.ddiv a b) ∧ n * FP.Core.one64 ≤ R * 2 ^ 53 ∧ R * 2 ^ 53 ≤ (n + 1) * FP.Core.one64 ∧ n * w ≤ k * 2 ^ 53 ∧ k * 2 ^ 53 ≤ (n + 1) * w ∧ R < FP.Core.one64 ∧ (R = 0 ↔ k = 0) := by
  have ma := ha.mag
  have mb := hb.mag
  rw [Int.natAbs_natCast] at ma mb
  have pj := Nat.two_pow_pos j
  have w0 : 0 < w := by omega
  have hz : zm b ≠ 0 := by
    intro h
    rw [h, Nat.zero_mul] at mb
    exact absurd mb.symm (Nat.ne_of_gt (Nat.mul_pos w0 own_U0))
  have hr : FP.Core.val64 (FP.Core.ddiv a b) = FP.Core.roundRatio FP.Core.b64 (FP.Core.sgn (FP.Core.val64 a) != FP.Core.sgn (FP.Core.val64 b)) k w 0 := by
    rw [own_quot ha.1 hb.1 hz]
    refine FP.Core.roundRatio_congr (by omega) w0 ?_
    rw [Int.sub_self]
    congr 1
    apply Nat.eq_of_mul_eq_mul_right pj
    rw [Nat.mul_right_comm, ma, Nat.mul_assoc k (zm b), mb]
    generalize FP.Core.one64 = u
    ac_rfl
  have sg := congrArg FP.Core.sgn hr
  rw [FP.Core.sgn_roundRatio] at sg
  have hn1 : k * 2 ^ 53 / w * w ≤ k * 2 ^ 53 := Nat.div_mul_le_self _ _
  have hn2 : k * 2 ^ 53 ≤ (k * 2 ^ 53 / w + 1) * w := by
    have e1 := Nat.div_add_mod (k * 2 ^ 53) w
    have e2 := Nat.mod_lt (k * 2 ^ 53) w0
    rw [Nat.add_mul, Nat.one_mul, Nat.mul_comm _ w]
    omega
  have hn3 : k * 2 ^ 53 / w < 2 ^ 53 := by
    apply Nat.lt_of_mul_lt_mul_right (a := w)
    exact Nat.lt_of_le_of_lt hn1 (own_a8 hk)
  generalize k * 2 ^ 53 / w = n at hn1 hn2 hn3
  obtain ⟨c1, q1, f1, e1⟩ := own_rep false (Nat.le_of_lt hn3) (j := 53) (by decide)
  obtain ⟨c2, q2, f2, e2⟩ := own_rep false (n := n + 1) hn3 (j := 53) (by decide)
  obtain ⟨c3, q3, f3, e3⟩ := own_rep false (n := 2147483647) (by decide) (j := 31) (by decide)
  obtain ⟨c4, q4, f4, e4⟩ := own_rep false (n := 1) (by decide) (j := 31) (by decide)
  obtain ⟨c5, q5, f5, e5⟩ := own_rep false (n := 0) (by decide) (j := 0) (by decide)
  have b1 := own_q_ge (s := FP.Core.sgn (FP.Core.val64 a) != FP.Core.sgn (FP.Core.val64 b)) w0 f1 (own_nat1 (k := k) (Nat.two_pow_pos 53) e1 hn1)
  have b2 := own_q_le (s := FP.Core.sgn (FP.Core.val64 a) != FP.Core.sgn (FP.Core.val64 b)) w0 f2 ⟨_, _, _, rfl⟩ (own_nat2 (k := k) (Nat.two_pow_pos 53) e2 hn2)
  have b3 := own_q_le (s := FP.Core.sgn (FP.Core.val64 a) != FP.Core.sgn (FP.Core.val64 b)) w0 f3 ⟨_, _, _, rfl⟩ (own_nat2 (k := k) (Nat.two_pow_pos 31) e3 (own_a3 hk hw))
  have b4 := fun h : 0 < k => own_q_ge (s := FP.Core.sgn (FP.Core.val64 a) != FP.Core.sgn (FP.Core.val64 b)) w0 f4 (own_nat1 (k := k) (Nat.two_pow_pos 31) e4 (own_a4 h hw))
  have b5 := fun h : k = 0 => own_q_le (s := FP.Core.sgn (FP.Core.val64 a) != FP.Core.sgn (FP.Core.val64 b)) w0 f5 ⟨_, _, _, rfl⟩ (own_nat2 (k := k) (Nat.two_pow_pos 0) e5 (by rw [h, Nat.zero_mul]; exact Nat.zero_le _))
  rw [← hr] at b1 b2 b3 b4 b5
  have df := own_finV (own_qfin ha.1 hb.1 hz) f3 ⟨_, _, _, rfl⟩ b3
  have hu := own_U0
  have r0 : zm (FP.Core.ddiv a b) = 0 ↔ k = 0 := by
    constructor
    · intro h
      refine Nat.eq_zero_of_not_pos fun hp => ?_
      have := b4 hp
      rw [show FP.Core.zmag FP.Core.b64 (FP.Core.val64 (FP.Core.ddiv a b)) = 0 from h] at this
      rw [Nat.le_zero.mp this] at e4
      omega
    · intro h
      have := b5 h
      rw [Nat.pow_zero, Nat.mul_one, Nat.zero_mul] at e5
      rw [e5] at this
      exact Nat.le_zero.mp this
  refine ⟨n, zm (FP.Core.ddiv a b), ?_, df, ?_, ?_, hn1, hn2, ?_, r0⟩
  · show FP.Core.signed (FP.Core.sgn (FP.Core.val64 (FP.Core.ddiv a b))) (zm (FP.Core.ddiv a b)) = _
    by_cases h : k = 0
    · rw [r0.mpr h, FP.Core.signed_zero]
      rfl
    · rw [sg, own_sgn (ha.pos (by omega)), own_sgn (hb.pos (by omega))]
      simp [FP.Core.signed]
  · rw [← e1]
    exact Nat.mul_le_mul_right _ b1
  · rw [← e2]
    exact Nat.mul_le_mul_right _ b2
  · have := Nat.mul_le_mul_right (2 ^ 31) b3
    rw [e3] at this
    have t : FP.Core.zmag FP.Core.b64 (FP.Core.val64 (FP.Core.ddiv a b)) * 2 ^ 31 ≤ 2147483647 * FP.Core.one64 := this
    show FP.Core.zmag FP.Core.b64 (FP.Core.val64 (FP.Core.ddiv a b)) < _
    omega
/-- a product -/
theorem own_prod {a b : UInt64} (ha : FP.Core.DFin a) (hb : FP.Core.DFin b) : ∃ c q, FP.Core.val64 (FP.Core.dmul a b) = FP.Core.roundRatio FP.Core.b64 (FP.Core.sgn (FP.Core.val64 a) != FP.Core.sgn (FP.Core.val64 b)) c 1 q ∧ 2 * FP.Core.b64.qmin ≤ q ∧ FP.Core.inUnits c q (2 * FP.Core.b64.qmin) = zm a * zm b := by
  have fa := FP.Core.val64_fits a
  have fb := FP.Core.val64_fits b
  rw [FP.Core.val64_dmul]
  unfold zm
  obtain ⟨s, c, q, ea⟩ := ha
  obtain ⟨t, d, r, eb⟩ := hb
  rw [ea] at fa ⊢
  rw [eb] at fb ⊢
  obtain ⟨h1, h2, h3⟩ := FP.Core.product_units fa fb
  rw [h1]
  exact ⟨_, _, rfl, h2, h3⟩
theorem own_q2 : (FP.Core.b64.qmin - 2 * FP.Core.b64.qmin).toNat = 1074 := by rw [FP.Core.qmin_b64]; rfl
theorem own_m_le {a b : UInt64} {V : FP.Core.Datum} (ha : FP.Core.DFin a) (hb : FP.Core.DFin b) (f : FP.Core.fits FP.Core.b64 V) (hV : ∃ s c q, V = .fin s c q) (h : zm a * zm b ≤ FP.Core.zmag FP.Core.b64 V * FP.Core.one64) : zm (FP.Core.dmul a b) ≤ FP.Core.zmag FP.Core.b64 V := by
  obtain ⟨c, q, e, h2, h3⟩ := own_prod ha hb
  show FP.Core.zmag FP.Core.b64 (FP.Core.val64 (FP.Core.dmul a b)) ≤ _
  rw [e]
  have := FP.Core.qmin_b64
  refine FP.Core.zmag_roundRatio_le FP.Core.good_b64 (by decide) f (own_fne hV) (e0 := 2 * FP.Core.b64.qmin) (by omega) h2 ?_
  rw [h3, own_q2, Nat.mul_one]
  exact h
theorem own_m_ge {a b : UInt64} {V : FP.Core.Datum} (ha : FP.Core.DFin a) (hb : FP.Core.DFin b) (f : FP.Core.fits FP.Core.b64 V) (h : FP.Core.zmag FP.Core.b64 V * FP.Core.one64 ≤ zm a * zm b) : FP.Core.zmag FP.Core.b64 V ≤ zm (FP.Core.dmul a b) := by
  obtain ⟨c, q, e, h2, h3⟩ := own_prod ha hb
  show _ ≤ FP.Core.zmag FP.Core.b64 (FP.Core.val64 (FP.Core.dmul a b))
  rw [e]
  have := FP.Core.qmin_b64
  refine FP.Core.zmag_roundRatio_ge FP.Core.good_b64 (by decide) f (e0 := 2 * FP.Core.b64.qmin) (by omega) h2 ?_
  rw [h3, own_q2, Nat.mul_one]
  exact h
theorem own_mne {a b : UInt64} (ha : FP.Core.DFin a) (hb : FP.Core.DFin b) : FP.Core.val64 (FP.Core.dmul a b) ≠ .nan := by
  obtain ⟨c, q, e, h2, h3⟩ := own_prod ha hb
  rw [e]
  exact FP.Core.roundRatio_ne_nan _ _ _ _ _
/-- the quotient times w is k, within 2^-22 -/
theorem own_back {r b : UInt64} {R n k w : Nat} (hr : zv r = (R : Int)) (fr : FP.Core.DFin r) (hb : Dy b (w : Int) 0) (hk : k < w) (hw : w < 2 ^ 31) (h1 : n * FP.Core.one64 ≤ R * 2 ^ 53) (h2 : R * 2 ^ 53 ≤ (n + 1) * FP.Core.one64) (h3 : n * w ≤ k * 2 ^ 53) (h4 : k * 2 ^ 53 ≤ (n + 1) * w) (h5 : R = 0 ↔ k = 0) :
    ((k : Int) * 4194304 - 1) * (FP.Core.one64 : Int) ≤ zv (FP.Core.dmul r b) * 4194304 ∧ zv (FP.Core.dmul r b) * 4194304 ≤ ((k : Int) * 4194304 + 1) * (FP.Core.one64 : Int) := by
  have mb := hb.mag
  rw [Int.natAbs_natCast, Nat.pow_zero, Nat.mul_one] at mb
  have mr : zm r = R := by rw [← own_zabs, hr]; rfl
  have hu := own_U0
  by_cases h0 : k = 0
  · obtain ⟨c5, q5, f5, e5⟩ := own_rep false (n := 0) (by decide) (j := 0) (by decide)
    rw [Nat.pow_zero, Nat.mul_one, Nat.zero_mul] at e5
    have b5 := own_m_le fr hb.1 f5 ⟨_, _, _, rfl⟩ (by rw [mr, h5.mpr h0, Nat.zero_mul]; exact Nat.zero_le _)
    rw [e5] at b5
    have z0 : zv (FP.Core.dmul r b) = 0 := by
      have := own_zabs (FP.Core.dmul r b)
      omega
    rw [z0, h0]
    omega
  · obtain ⟨c1, q1, f1, e1⟩ := own_rep false (n := k * 4194304 + 1) (own_a5 hk hw) (j := 22) (by decide)
    obtain ⟨c2, q2, f2, e2⟩ := own_rep false (n := k * 4194304 - 1) (Nat.le_trans (Nat.sub_le _ _) (Nat.le_trans (Nat.le_succ _) (own_a5 hk hw))) (j := 22) (by decide)
    rw [Nat.add_mul, Nat.one_mul] at h4
    have b1 := own_m_le fr hb.1 f1 ⟨_, _, _, rfl⟩ (by
      rw [mr, mb, ← Nat.mul_assoc]
      refine Nat.mul_le_mul_right _ ?_
      apply Nat.le_of_mul_le_mul_right (c := 2 ^ 53) _ (Nat.two_pow_pos 53)
      calc R * w * 2 ^ 53 = R * 2 ^ 53 * w := Nat.mul_right_comm ..
        _ ≤ (n + 1) * FP.Core.one64 * w := Nat.mul_le_mul_right _ h2
        _ = (n * w + w) * FP.Core.one64 := by rw [Nat.mul_right_comm, Nat.add_mul, Nat.one_mul]
        _ ≤ ((k * 4194304 + 1) * 2 ^ 31) * FP.Core.one64 := Nat.mul_le_mul_right _ (own_a6 hw h3)
        _ = FP.Core.zmag FP.Core.b64 (.fin false c1 q1) * 2 ^ 53 := by
          rw [Nat.mul_right_comm, ← e1, Nat.mul_assoc, ← Nat.pow_add])
    have b2 := own_m_ge fr hb.1 f2 (by
      rw [mr, mb, ← Nat.mul_assoc]
      refine Nat.mul_le_mul_right _ ?_
      apply Nat.le_of_mul_le_mul_right (c := 2 ^ 53) _ (Nat.two_pow_pos 53)
      calc FP.Core.zmag FP.Core.b64 (.fin false c2 q2) * 2 ^ 53 = ((k * 4194304 - 1) * 2 ^ 31) * FP.Core.one64 := by
            rw [Nat.mul_right_comm _ _ FP.Core.one64, ← e2, Nat.mul_assoc, ← Nat.pow_add]
        _ ≤ n * w * FP.Core.one64 := Nat.mul_le_mul_right _ (own_a7 hw h4)
        _ = n * FP.Core.one64 * w := Nat.mul_right_comm ..
        _ ≤ R * 2 ^ 53 * w := Nat.mul_le_mul_right _ h1
        _ = R * w * 2 ^ 53 := Nat.mul_right_comm ..)
    have zp : zv (FP.Core.dmul r b) = (zm (FP.Core.dmul r b) : Int) := by
      obtain ⟨c, q, e, -, -⟩ := own_prod fr hb.1
      have sg := congrArg FP.Core.sgn e
      rw [FP.Core.sgn_roundRatio, own_sgn (a := r) (by omega), own_sgn (hb.pos (by omega))] at sg
      show FP.Core.signed (FP.Core.sgn (FP.Core.val64 (FP.Core.dmul r b))) (zm (FP.Core.dmul r b)) = _
      rw [sg]
      simp [FP.Core.signed]
    have c1' := Nat.mul_le_mul_right (2 ^ 22) b1
    have c2' := Nat.mul_le_mul_right (2 ^ 22) b2
    rw [e1] at c1'
    rw [e2] at c2'
    rw [zp]
    generalize zm (FP.Core.dmul r b) = z at c1' c2'
    have kk : (((k * 4194304 - 1 : Nat) : Int)) = (k : Int) * 4194304 - 1 := by omega
    constructor
    · rw [← kk, ← Int.natCast_mul]
      omega
    · rw [show (k : Int) * 4194304 + 1 = ((k * 4194304 + 1 : Nat) : Int) by omega, ← Int.natCast_mul]
      omega
theorem own_c1 : FP.Core.DFin 4562254508917369340 := by
  rw [FP.Core.fin_bits]
  decide
theorem own_c2 : (FP.Core.one64 : Int) ≤ zv 4562254508917369340 * 1024 := by decide +kernel
theorem own_kc {a : UInt64} {k : Nat} (ha : Dy a (k : Int) 0) (hk : k < 2 ^ 31) : FP.Core.val64 (FP.Core.dsub a 4562254508917369340) ≠ .nan ∧ zv (FP.Core.dsub a 4562254508917369340) * 1024 ≤ ((k : Int) * 1024 - 1) * (FP.Core.one64 : Int) ∧ FP.Core.val64 (FP.Core.dadd a 4562254508917369340) ≠ .nan ∧ ((k : Int) * 1024 + 1) * (FP.Core.one64 : Int) ≤ zv (FP.Core.dadd a 4562254508917369340) * 1024 := by
  have za := ha.2
  rw [show ((2 ^ 0 : Nat) : Int) = 1 from rfl, Int.mul_one] at za
  have hc := own_c2
  have nc := own_neg own_c1
  obtain ⟨V, f, hV, e⟩ := own_repI (n := (k : Int) * 1024 - 1) (by omega) (j := 10) (by decide)
  obtain ⟨W, g, hW, d⟩ := own_repI (n := (k : Int) * 1024 + 1) (by omega) (j := 10) (by decide)
  rw [Int.sub_mul, Int.one_mul, Int.mul_right_comm] at e
  rw [Int.add_mul, Int.one_mul, Int.mul_right_comm] at d
  have e' : FP.Core.zval FP.Core.b64 V * 1024 = (k : Int) * (FP.Core.one64 : Int) * 1024 - (FP.Core.one64 : Int) := e
  have d' : FP.Core.zval FP.Core.b64 W * 1024 = (k : Int) * (FP.Core.one64 : Int) * 1024 + (FP.Core.one64 : Int) := d
  have l := FP.Core.sum_le FP.Core.good_b64 ha.1 nc (FP.Core.val64_fits a) (FP.Core.negate_fits (FP.Core.val64_fits _)) f (own_fne hV) (by
    rw [FP.Core.zval_negate]
    unfold zv at hc za
    omega)
  have m := FP.Core.sum_ge FP.Core.good_b64 ha.1 own_c1 (FP.Core.val64_fits a) (FP.Core.val64_fits _) g (own_fne hW) (by
    unfold zv at hc za
    omega)
  rw [← FP.Core.val64_dsub] at l
  rw [← FP.Core.val64_dadd] at m
  unfold zv
  refine ⟨?_, ?_, ?_, ?_⟩
  · rw [FP.Core.val64_dsub]
    exact own_sumne ha.1 nc
  · rw [Int.sub_mul, Int.one_mul, Int.mul_right_comm]
    omega
  · rw [FP.Core.val64_dadd]
    exact own_sumne ha.1 own_c1
  · rw [Int.add_mul, Int.one_mul, Int.mul_right_comm]
    omega
theorem own_z0 : zv FP.dconst0 = 0 := FP.Core.zval64_zero
theorem own_z1 : zv FP.dconst1 = (FP.Core.one64 : Int) := by
  have h := FP.Core.DInt_zval FP.Core.dint_one
  rw [Int.one_mul] at h
  exact h
theorem own_f0 : FP.Core.DFin FP.dconst0 := ⟨_, _, _, FP.Core.val64_zero⟩
theorem own_f1 : FP.Core.DFin FP.dconst1 := by
  rw [FP.Core.fin_bits]
  decide
theorem own_y0 (j : Nat) : Dy FP.dconst0 0 j := ⟨own_f0, by rw [own_z0, Int.zero_mul, Int.zero_mul]⟩
/-- the law's third road -/
theorem own_road {x lo hi xU loU wU : UInt64} {L W X : Int} {j : Nat} (hx : Dy x X j) (hlo : Dy lo L j) (hhi : Dy hi (L + W) j) (hxU : Dy xU X 0) (hloU : Dy loU L 0) (hwU : Dy wU W 0) (h1 : L ≤ X) (h2 : X < L + W) (hW : W < 2147483648) (hj : j ≤ 1000) :
    Dy (FP.Core.dsub x lo) (X - L) j ∧ Dy (FP.Core.dsub hi lo) W j ∧ FP.Core.DFin (FP.Core.ddiv (FP.Core.dsub x lo) (FP.Core.dsub hi lo)) ∧ FP.Core.val64 (FP.Core.dmul (FP.Core.ddiv (FP.Core.dsub x lo) (FP.Core.dsub hi lo)) wU) ≠ .nan ∧ Dy (FP.Core.dsub xU loU) (X - L) 0
      ∧ FP.Core.val64 (FP.Core.dsub (FP.Core.dsub xU loU) 4562254508917369340) ≠ .nan ∧ FP.Core.val64 (FP.Core.dadd (FP.Core.dsub xU loU) 4562254508917369340) ≠ .nan
      ∧ zv (FP.Core.ddiv (FP.Core.dsub x lo) (FP.Core.dsub hi lo)) < zv FP.dconst1 ∧ (X = L → zv (FP.Core.ddiv (FP.Core.dsub x lo) (FP.Core.dsub hi lo)) = zv FP.dconst0) ∧ (¬ X = L → zv FP.dconst0 < zv (FP.Core.ddiv (FP.Core.dsub x lo) (FP.Core.dsub hi lo)))
      ∧ zv (FP.Core.dsub (FP.Core.dsub xU loU) 4562254508917369340) < zv (FP.Core.dmul (FP.Core.ddiv (FP.Core.dsub x lo) (FP.Core.dsub hi lo)) wU)
      ∧ zv (FP.Core.dmul (FP.Core.ddiv (FP.Core.dsub x lo) (FP.Core.dsub hi lo)) wU) < zv (FP.Core.dadd (FP.Core.dsub xU loU) 4562254508917369340) := by
  obtain ⟨k, hk⟩ : ∃ k : Nat, X - L = (k : Int) := ⟨(X - L).toNat, by omega⟩
  obtain ⟨w, hw⟩ : ∃ w : Nat, W = (w : Int) := ⟨W.toNat, by omega⟩
  have d1 := hx.sub hlo (by omega) hj
  have d2 := hhi.sub hlo (by omega) hj
  rw [show L + W - L = W by omega] at d2
  have d3 := hxU.sub hloU (by omega) (by decide)
  have d1' := d1
  have d2' := d2
  have d3' := d3
  rw [hk] at d1' d3'
  rw [hw] at d2' hwU
  have kw : k < w := by omega
  have w31 : w < 2 ^ 31 := by omega
  obtain ⟨n, R, e1, e2, e3, e4, e5, e6, e7, e8⟩ := own_ratio d1' d2' kw w31
  obtain ⟨g1, g2⟩ := own_back e1 e2 hwU kw w31 e3 e4 e5 e6 e8
  obtain ⟨k1, k2, k3, k4⟩ := own_kc d3' (by omega)
  have nm := own_mne e2 hwU.1
  have hu := own_UI
  rw [Int.sub_mul, Int.one_mul, Int.mul_right_comm] at g1 k2
  rw [Int.add_mul, Int.one_mul, Int.mul_right_comm] at g2 k4
  refine ⟨d1, d2, e2, nm, d3, k1, k3, ?_, ?_, ?_, ?_, ?_⟩
  · rw [own_z1, e1]
    omega
  · intro q
    rw [own_z0, e1]
    have : R = 0 := e8.mpr (by omega)
    omega
  · intro q
    rw [own_z0, e1]
    have : ¬ R = 0 := fun z => q (by have := e8.mp z; omega)
    omega
  · generalize (k : Int) * (FP.Core.one64 : Int) = y at g1 g2 k2 k4
    generalize zv (FP.Core.dmul (FP.Core.ddiv (FP.Core.dsub x lo) (FP.Core.dsub hi lo)) wU) = v at g1 g2
    generalize zv (FP.Core.dsub (FP.Core.dsub xU loU) 4562254508917369340) = u at k2
    generalize (FP.Core.one64 : Int) = o at *
    omega
  · generalize (k : Int) * (FP.Core.one64 : Int) = y at g1 g2 k2 k4
    generalize zv (FP.Core.dmul (FP.Core.ddiv (FP.Core.dsub x lo) (FP.Core.dsub hi lo)) wU) = v at g1 g2
    generalize zv (FP.Core.dadd (FP.Core.dsub xU loU) 4562254508917369340) = u at k4
    generalize (FP.Core.one64 : Int) = o at *
    omega
end OwnNum
section OwnD
variable {p : Program} {l : Launch} {e : Env} {R : Room} {s : State} {m : MethodId} {args : Array Value} {below : List Frame} {meth : Method} {c : Code} {T : State} {locs : List Loc} {cells slots : Nat} {Z : State} {a0 : Array Value} {h : Heap} {P : State → Outcome → Prop} {pc pc' : Nat} {Ls Ls' : Array Slot} {st : List Value}
theorem finD {Q : Option Value → Heap → List Loc → Prop} {k n : Nat} (X : Stand p l e R s m args below meth c T locs cells slots) (hx : p.tables.exec = Jvm.exec) (hlk : meth.locks = false) {z : UInt64} (hret : meth.sig.returnType = some .double) (hd : decode c.code pc = .ok (.dreturn, 1)) (hc : cells ≤ k) (hs : slots ≤ n) (hQ : Q (some (.double z)) T.heap locs) :
    Dn p e below (PQ below s Q k n) (T.setTop (mkF m pc Ls (.double z :: st))) :=
  fin_of X hlk (fun q => by rw [hret] at q; cases q) hc hs hQ (fun fs hr => retOut X hx hret rfl (Or.inr (Or.inr (Or.inl ⟨rfl, rfl, _, rfl⟩))) hd hr)
theorem o_dload (X : Stand p l e R s m args below meth c T locs cells slots) (hx : p.tables.exec = Jvm.exec) {k : Nat} {v : UInt64} (hd : decode c.code pc = .ok (.dload k, 2)) (hp : pc + 2 = pc') (hl : Ls[k]? = some (.val (.double v))) (K : Dn p e below P (T.setTop (mkF m pc' Ls (.double v :: st)))) : Dn p e below P (T.setTop (mkF m pc Ls st)) := by
  subst hp
  obtain ⟨s₂, o, h1, h2⟩ := K
  exact ⟨s₂, o, XS.dload X.here hx rfl hd hl h1, h2⟩
theorem o_dloadN (X : Stand p l e R s m args below meth c T locs cells slots) (hx : p.tables.exec = Jvm.exec) {k : Fin 4} {v : UInt64} (hd : decode c.code pc = .ok (.dload_n k, 1)) (hp : pc + 1 = pc') (hl : Ls[k.val]? = some (.val (.double v))) (K : Dn p e below P (T.setTop (mkF m pc' Ls (.double v :: st)))) : Dn p e below P (T.setTop (mkF m pc Ls st)) := by
  subst hp
  obtain ⟨s₂, o, h1, h2⟩ := K
  exact ⟨s₂, o, XS.dloadN X.here hx rfl hd hl h1, h2⟩
theorem o_dstore (X : Stand p l e R s m args below meth c T locs cells slots) (hx : p.tables.exec = Jvm.exec) {k : Nat} {v : UInt64} (hd : decode c.code pc = .ok (.dstore k, 2)) (hp : pc + 2 = pc') (hl : storeLocals Ls k (.double v) = some Ls') (K : Dn p e below P (T.setTop (mkF m pc' Ls' st))) : Dn p e below P (T.setTop (mkF m pc Ls (.double v :: st))) := by
  subst hp
  obtain ⟨s₂, o, h1, h2⟩ := K
  exact ⟨s₂, o, XS.dstore X.here hx rfl hd rfl hl h1, h2⟩
theorem o_dstoreN (X : Stand p l e R s m args below meth c T locs cells slots) (hx : p.tables.exec = Jvm.exec) {k : Fin 4} {v : UInt64} (hd : decode c.code pc = .ok (.dstore_n k, 1)) (hp : pc + 1 = pc') (hl : storeLocals Ls k.val (.double v) = some Ls') (K : Dn p e below P (T.setTop (mkF m pc' Ls' st))) : Dn p e below P (T.setTop (mkF m pc Ls (.double v :: st))) := by
  subst hp
  obtain ⟨s₂, o, h1, h2⟩ := K
  exact ⟨s₂, o, XS.dstoreN X.here hx rfl hd rfl hl h1, h2⟩
theorem o_dconst0 (X : Stand p l e R s m args below meth c T locs cells slots) (hx : p.tables.exec = Jvm.exec)  (hd : decode c.code pc = .ok (.dconst 0, 1)) (hp : pc + 1 = pc')  (K : Dn p e below P (T.setTop (mkF m pc' Ls (.double FP.dconst0 :: st)))) : Dn p e below P (T.setTop (mkF m pc Ls st)) := by
  subst hp
  obtain ⟨s₂, o, h1, h2⟩ := K
  exact ⟨s₂, o, XS.dconst0 X.here hx rfl hd rfl h1, h2⟩
theorem o_dconst1 (X : Stand p l e R s m args below meth c T locs cells slots) (hx : p.tables.exec = Jvm.exec)  (hd : decode c.code pc = .ok (.dconst 1, 1)) (hp : pc + 1 = pc')  (K : Dn p e below P (T.setTop (mkF m pc' Ls (.double FP.dconst1 :: st)))) : Dn p e below P (T.setTop (mkF m pc Ls st)) := by
  subst hp
  obtain ⟨s₂, o, h1, h2⟩ := K
  exact ⟨s₂, o, XS.dconst1 X.here hx rfl hd rfl h1, h2⟩
theorem o_i2d (X : Stand p l e R s m args below meth c T locs cells slots) (hx : p.tables.exec = Jvm.exec) {x : Int32} (hd : decode c.code pc = .ok (.i2d, 1)) (hp : pc + 1 = pc')  (K : Dn p e below P (T.setTop (mkF m pc' Ls (.double (FP.i2d x) :: st)))) : Dn p e below P (T.setTop (mkF m pc Ls (.int x :: st))) := by
  subst hp
  obtain ⟨s₂, o, h1, h2⟩ := K
  exact ⟨s₂, o, XS.i2dS X.here hx rfl hd rfl rfl h1, h2⟩
theorem o_dcmp (X : Stand p l e R s m args below meth c T locs cells slots) (hx : p.tables.exec = Jvm.exec) {x y : UInt64} {o : CmpOp} (hd : decode c.code pc = .ok (.dcmp o, 1)) (hp : pc + 1 = pc')  (K : Dn p e below P (T.setTop (mkF m pc' Ls (.int (cmpValue (FP.dcmp x y) o) :: st)))) : Dn p e below P (T.setTop (mkF m pc Ls (.double y :: .double x :: st))) := by
  subst hp
  obtain ⟨s₂, o, h1, h2⟩ := K
  exact ⟨s₂, o, XS.dcmpS X.here hx rfl hd rfl rfl h1, h2⟩
theorem o_dadd (X : Stand p l e R s m args below meth c T locs cells slots) (hx : p.tables.exec = Jvm.exec) {x y : UInt64} (hd : decode c.code pc = .ok (.dadd, 1)) (hp : pc + 1 = pc') (hn : Jvm.Free.Fl.NoNaN64 (FP.dadd x y)) (K : Dn p e below P (T.setTop (mkF m pc' Ls (.double (FP.dadd x y) :: st)))) : Dn p e below P (T.setTop (mkF m pc Ls (.double y :: .double x :: st))) := by
  subst hp
  obtain ⟨s₂, o, h1, h2⟩ := K
  exact ⟨s₂, o, XS.daddS X.here hx rfl hd rfl hn rfl h1, h2⟩
theorem o_dsub (X : Stand p l e R s m args below meth c T locs cells slots) (hx : p.tables.exec = Jvm.exec) {x y : UInt64} (hd : decode c.code pc = .ok (.dsub, 1)) (hp : pc + 1 = pc') (hn : Jvm.Free.Fl.NoNaN64 (FP.dsub x y)) (K : Dn p e below P (T.setTop (mkF m pc' Ls (.double (FP.dsub x y) :: st)))) : Dn p e below P (T.setTop (mkF m pc Ls (.double y :: .double x :: st))) := by
  subst hp
  obtain ⟨s₂, o, h1, h2⟩ := K
  exact ⟨s₂, o, XS.dsubS X.here hx rfl hd rfl hn rfl h1, h2⟩
theorem o_dmul (X : Stand p l e R s m args below meth c T locs cells slots) (hx : p.tables.exec = Jvm.exec) {x y : UInt64} (hd : decode c.code pc = .ok (.dmul, 1)) (hp : pc + 1 = pc') (hn : Jvm.Free.Fl.NoNaN64 (FP.dmul x y)) (K : Dn p e below P (T.setTop (mkF m pc' Ls (.double (FP.dmul x y) :: st)))) : Dn p e below P (T.setTop (mkF m pc Ls (.double y :: .double x :: st))) := by
  subst hp
  obtain ⟨s₂, o, h1, h2⟩ := K
  exact ⟨s₂, o, XS.dmulS X.here hx rfl hd rfl hn rfl h1, h2⟩
theorem o_ddiv (X : Stand p l e R s m args below meth c T locs cells slots) (hx : p.tables.exec = Jvm.exec) {x y : UInt64} (hd : decode c.code pc = .ok (.ddiv, 1)) (hp : pc + 1 = pc') (hn : Jvm.Free.Fl.NoNaN64 (FP.ddiv x y)) (K : Dn p e below P (T.setTop (mkF m pc' Ls (.double (FP.ddiv x y) :: st)))) : Dn p e below P (T.setTop (mkF m pc Ls (.double y :: .double x :: st))) := by
  subst hp
  obtain ⟨s₂, o, h1, h2⟩ := K
  exact ⟨s₂, o, XS.ddivS X.here hx rfl hd rfl hn rfl h1, h2⟩
theorem o_ldc2d (X : Stand p l e R s m args below meth c T locs cells slots) (hx : p.tables.exec = Jvm.exec) (hZ : Z.Warmed39 s.vm) {own : String} {index : Nat} {v : UInt64} (hown : s.vm.findClass own = some m.cls) (w : (Jvm.Cond.constantDouble own index v).before a0 Z = true) (hd : decode c.code pc = .ok (.ldc2_w index, 3)) (hp : pc + 3 = pc') (K : Dn p e below P (T.setTop (mkF m pc' Ls (.double v :: st)))) : Dn p e below P (T.setTop (mkF m pc Ls st)) := by
  subst hp
  exact go (X.ldc2DoubleC hx hown (mvT hZ w) (g := mkF m pc Ls st) rfl hd) K
theorem own_nn64 {a : UInt64} (h : FP.Core.val64 a ≠ .nan) : Jvm.Free.Fl.NoNaN64 a := Jvm.Free.Fl.val64_no.mpr h
theorem Dy.nn {a : UInt64} {n : Int} {j : Nat} (h : Dy a n j) : Jvm.Free.Fl.NoNaN64 a := own_nn64 h.1.ne_nan
theorem own_cv {a b : UInt64} {n m : Int} {j : Nat} (ha : Dy a n j) (hb : Dy b m j) (o : CmpOp) : cmpValue (FP.dcmp a b) o = if n < m then -1 else if n = m then 0 else 1 := by
  rw [show FP.dcmp a b = _ from ha.cmp hb, FP.Core.compare_ite]
  by_cases h1 : n < m
  · rw [if_pos h1, if_pos h1]; cases o <;> rfl
  · rw [if_neg h1, if_neg h1]
    by_cases h2 : n = m
    · rw [if_pos h2, if_pos h2]; cases o <;> rfl
    · rw [if_neg h2, if_neg h2]; cases o <;> rfl
theorem own_clt {a b : UInt64} {n m : Int} {j : Nat} (ha : Dy a n j) (hb : Dy b m j) (o : CmpOp) : cmpValue (FP.dcmp a b) o < (0 : Int32) ↔ n < m := by
  rw [own_cv ha hb o]
  by_cases h1 : n < m
  · rw [if_pos h1]; exact iff_of_true (by decide) h1
  · rw [if_neg h1]
    by_cases h2 : n = m
    · rw [if_pos h2]; exact iff_of_false (by decide) h1
    · rw [if_neg h2]; exact iff_of_false (by decide) h1
theorem own_ceq {a b : UInt64} {n m : Int} {j : Nat} (ha : Dy a n j) (hb : Dy b m j) (o : CmpOp) : cmpValue (FP.dcmp a b) o = (0 : Int32) ↔ n = m := by
  rw [own_cv ha hb o]
  by_cases h1 : n < m
  · rw [if_pos h1]; exact iff_of_false (by decide) (by omega)
  · rw [if_neg h1]
    by_cases h2 : n = m
    · rw [if_pos h2]; exact iff_of_true rfl h2
    · rw [if_neg h2]; exact iff_of_false (by decide) h2
theorem own_vlt {a b : UInt64} (ha : FP.Core.val64 a ≠ .nan) (hb : FP.Core.val64 b ≠ .nan) (h : zv a < zv b) (o : CmpOp) : cmpValue (FP.dcmp a b) o = (-1 : Int32) := by
  rw [show FP.dcmp a b = some .lt from FP.Core.dcmp_lt.mpr ⟨ha, hb, h⟩]; cases o <;> rfl
theorem own_vgt {a b : UInt64} (ha : FP.Core.val64 a ≠ .nan) (hb : FP.Core.val64 b ≠ .nan) (h : zv b < zv a) (o : CmpOp) : cmpValue (FP.dcmp a b) o = (1 : Int32) := by
  rw [show FP.dcmp a b = some .gt from FP.Core.dcmp_gt.mpr ⟨ha, hb, h⟩]; cases o <;> rfl
theorem own_veq {a b : UInt64} (ha : FP.Core.val64 a ≠ .nan) (hb : FP.Core.val64 b ≠ .nan) (h : zv a = zv b) (o : CmpOp) : cmpValue (FP.dcmp a b) o = (0 : Int32) := by
  rw [show FP.dcmp a b = some .eq from FP.Core.dcmp_eq.mpr ⟨ha, hb, h⟩]; cases o <;> rfl
theorem own_inf {a : UInt64} {n : Int} {j : Nat} (h : Dy a n j) (o : CmpOp) : cmpValue (FP.dcmp a 9218868437227405312) o < (0 : Int32) := by
  rw [show FP.dcmp a 9218868437227405312 = some .lt from (FP.Core.fin_lt_inf h.1).1]; cases o <;> decide
end OwnD
theorem own_a15 (y : Int32) : ∃ k : Fin 16, y &&& (15 : Int32) = Int32.ofNat k.val := by
  refine ⟨⟨y.toBitVec.toNat % 16, Nat.mod_lt _ (by decide)⟩, ?_⟩
  apply Int32.toBitVec_inj.mp
  apply BitVec.eq_of_toNat_eq
  have q : (15 : Nat) = 2 ^ 4 - 1 := rfl
  have e : (y &&& (15 : Int32)).toBitVec.toNat = y.toBitVec.toNat % 16 := by
    rw [Int32.toBitVec_and, BitVec.toNat_and]
    show y.toBitVec.toNat &&& 15 = _
    rw [q, Nat.and_two_pow_sub_one_eq_mod]
  rw [e]
  show y.toBitVec.toNat % 16 = (BitVec.ofNat 32 (y.toBitVec.toNat % 16)).toNat
  rw [BitVec.toNat_ofNat, Nat.mod_eq_of_lt (a := y.toBitVec.toNat % 16)]
  omega
theorem own_t15 : ∀ k : Fin 16, ((1 : Int32) <<< ((Int32.ofNat k.val) &&& 31)).toInt = ((2 ^ k.val : Nat) : Int) := by decide +kernel
theorem own_shl (y : Int32) : ∃ j : Nat, j ≤ 15 ∧ FP.Core.DInt ((2 ^ j : Nat) : Int) (FP.i2d ((1 : Int32) <<< ((y &&& (15 : Int32)) &&& 31))) := by
  obtain ⟨k, hk⟩ := own_a15 y
  refine ⟨k.val, by omega, ?_⟩
  have h := FP.Core.i2d_int ((1 : Int32) <<< ((y &&& (15 : Int32)) &&& 31))
  rw [hk] at h ⊢
  rw [own_t15 k] at h
  exact h
theorem own_m31 (x : Int32) : 0 ≤ (x &&& (2147483647 : Int32)).toInt ∧ (x &&& (2147483647 : Int32)).toInt < 2147483648 := by
  have e := c_mask x 2147483647 31 (by decide) (by decide)
  omega
theorem own_b31 (x : Int32) : x.toInt.natAbs ≤ 8589934592 := by
  have := Int32.toInt_lt x
  have := Int32.le_toInt x
  omega
theorem own_addI {i : Int} {a : UInt64} (h : FP.Core.DInt i a) (hi : i.natAbs ≤ 4294967296) (x : Int32) : FP.Core.DInt (i + x.toInt) (FP.dadd a (FP.i2d x)) ∧ (i + x.toInt).natAbs ≤ 8589934592 := by
  have := Int32.toInt_lt x
  have := Int32.le_toInt x
  exact ⟨FP.Core.dadd_int h (FP.Core.i2d_int x) (by omega), by omega⟩
theorem own_tri (x l w : Int) : x < l ∨ (l ≤ x ∧ l + w ≤ x) ∨ (l ≤ x ∧ x < l + w) := by omega
theorem d2_0 : decode jdk_30_method_1_code 0 = .ok (.aload_n 0, 1) := by decide +kernel
theorem d2_1 : decode jdk_30_method_1_code 1 = .ok (.invokespecial 1, 3) := by decide +kernel
theorem d2_4 : decode jdk_30_method_1_code 4 = .ok (.return_, 1) := by decide +kernel
theorem pn_2 : plainFor (⟨"java/lang/Record", "<init>", "()V"⟩ : MethodName) = true := plainFor_of_name (by show plainName "java/lang/Record" = true; first | (simp [plainName, overriddenIn]; done) | decide +kernel)
theorem ef_2 (m : MethodId) (a1 : Addr) : entryFrame m #[(.ref a1)] 1 = mkF m 0 #[.val (.ref a1)] [] := by first | (simp [entryFrame, mkF, argsToLocals, Value.category]; done) | rfl
set_option maxRecDepth 65536 in
set_option maxHeartbeats 40000000 in
theorem rmRI (l : Launch) (Z : State) (a0 : Array Value) (hw : ∀ d ∈ tables_1, d.before a0 Z = true) (h0 : Heap) (n0 : Nat) (Z0 : n0 ≤ h0.size) (a1 : Addr)  : Ctr l Z (⟨"java/lang/Record", "<init>", "()V"⟩ : MethodName) jdk_30_method_1_code 1 none [] ({ frames := 1, cells := 0, slots := 0, locals := 12 } : Room) #[(.ref a1)] h0 (fun v h L => v = none ∧ L = [] ∧ h = h0) := by
  refine ctr_mk pn_2 (own := "java/lang/Record") (mn := "<init>") rfl rfl ?_
  intro p e s m below meth c T0 X0 hx hby hml hZ hown hnm hret hlk e0
  refine o_entry (ef_2 m a1) ?_
  refine o_aloadN X0 hx (pc' := 1) (hb hby d2_0) rfl rfl rfl ?_
  refine o_initO X0 hx hZ hown (hw _ (List.mem_of_getElem? (i := 12) rfl)) (hw _ (List.mem_of_getElem? (i := 13) rfl)) (hw _ (List.mem_of_getElem? (i := 14) rfl)) e0 (by rw [hml]; rfl) (hb hby d2_1) (pc' := 4) rfl (by decide) (W := 0) (Nat.le_of_eq rfl) (by decide) ?_
  intro T1 X1 e1
  exact finV X1 hx hlk hret (hb hby d2_4) (by decide) (by decide) ⟨rfl, rfl, e1⟩
theorem d4_0 : decode prog_204_method_2_code 0 = .ok (.dload_n 0, 1) := by decide +kernel
theorem d4_1 : decode prog_204_method_2_code 1 = .ok (.dconst 0, 1) := by decide +kernel
theorem d4_2 : decode prog_204_method_2_code 2 = .ok (.dcmp .l, 1) := by decide +kernel
theorem d4_3 : decode prog_204_method_2_code 3 = .ok (.ifCond .lt 11, 3) := by decide +kernel
theorem d4_6 : decode prog_204_method_2_code 6 = .ok (.dload_n 0, 1) := by decide +kernel
theorem d4_7 : decode prog_204_method_2_code 7 = .ok (.ldc2_w 49, 3) := by decide +kernel
theorem d4_10 : decode prog_204_method_2_code 10 = .ok (.dcmp .g, 1) := by decide +kernel
theorem d4_11 : decode prog_204_method_2_code 11 = .ok (.ifCond .lt 17, 3) := by decide +kernel
theorem d4_28 : decode prog_204_method_2_code 28 = .ok (.return_, 1) := by decide +kernel
theorem pn_4 : plainFor (⟨"com/example/bellwether/bellwether/workload/Task", "requireRuntime", "(D)V"⟩ : MethodName) = true := plainFor_of_name (by show plainName "com/example/bellwether/bellwether/workload/Task" = true; first | (simp [plainName, overriddenIn]; done) | decide +kernel)
theorem ef_4 (m : MethodId) (x1 : UInt64) : entryFrame m #[(.double x1)] 2 = mkF m 0 #[.val (.double x1), .second] [] := by first | (simp [entryFrame, mkF, argsToLocals, Value.category]; done) | rfl
set_option maxRecDepth 65536 in
set_option maxHeartbeats 40000000 in
theorem rmRR (l : Launch) (Z : State) (a0 : Array Value) (hw : ∀ d ∈ tables_1, d.before a0 Z = true) (h0 : Heap) (n0 : Nat) (Z0 : n0 ≤ h0.size) (x1 : UInt64) (nV : Int) (j : Nat) (yV : Dy x1 nV j) (hV : 0 ≤ nV) : Ctr l Z (⟨"com/example/bellwether/bellwether/workload/Task", "requireRuntime", "(D)V"⟩ : MethodName) prog_204_method_2_code 2 none [] ({ frames := 0, cells := 0, slots := 0, locals := 0 } : Room) #[(.double x1)] h0 (fun v h L => v = none ∧ L = [] ∧ h = h0) := by
  refine ctr_mk pn_4 (own := "com/example/bellwether/bellwether/workload/Task") (mn := "requireRuntime") rfl rfl ?_
  intro p e s m below meth c T0 X0 hx hby hml hZ hown hnm hret hlk e0
  refine o_entry (ef_4 m x1) ?_
  refine o_dloadN X0 hx (pc' := 1) (hb hby d4_0) rfl rfl ?_
  refine o_dconst0 X0 hx (pc' := 2) (hb hby d4_1) rfl ?_
  refine o_dcmp X0 hx (pc' := 3) (hb hby d4_2) rfl ?_
  refine o_if_lt X0 hx (pc' := 6) (pt := 14) (hb hby d4_3) rfl (by decide) (by decide) (fun q => absurd q (fun q => absurd ((own_clt yV (own_y0 j) _).mp q) (by omega))) (fun _ => ?_)
  refine o_dloadN X0 hx (pc' := 7) (hb hby d4_6) rfl rfl ?_
  refine o_ldc2d X0 hx hZ hown (hw _ (List.mem_of_getElem? (i := 19) rfl)) (pc' := 10) (hb hby d4_7) rfl ?_
  refine o_dcmp X0 hx (pc' := 11) (hb hby d4_10) rfl ?_
  refine o_if_lt X0 hx (pc' := 14) (pt := 28) (hb hby d4_11) rfl (by decide) (by decide) (fun _ => ?_) (fun q => absurd (own_inf yV _) q)
  exact finV X0 hx hlk hret (hb hby d4_28) (by decide) (by decide) ⟨rfl, rfl, e0⟩
theorem pd_0 : parseMethodDescriptor "()V" = some ⟨[], none⟩ := by decide +kernel
theorem pd_1 : parseMethodDescriptor "(D)V" = some ⟨[.double], none⟩ := by decide +kernel
theorem d1_0 : decode prog_129_method_1_code 0 = .ok (.aload_n 0, 1) := by decide +kernel
theorem d1_1 : decode prog_129_method_1_code 1 = .ok (.invokespecial 1, 3) := by decide +kernel
theorem d1_4 : decode prog_129_method_1_code 4 = .ok (.dload_n 1, 1) := by decide +kernel
theorem d1_5 : decode prog_129_method_1_code 5 = .ok (.invokestatic 7, 3) := by decide +kernel
theorem d1_8 : decode prog_129_method_1_code 8 = .ok (.dload_n 3, 1) := by decide +kernel
theorem d1_9 : decode prog_129_method_1_code 9 = .ok (.invokestatic 7, 3) := by decide +kernel
theorem d1_12 : decode prog_129_method_1_code 12 = .ok (.dload_n 3, 1) := by decide +kernel
theorem d1_13 : decode prog_129_method_1_code 13 = .ok (.dload_n 1, 1) := by decide +kernel
theorem d1_14 : decode prog_129_method_1_code 14 = .ok (.dcmp .g, 1) := by decide +kernel
theorem d1_15 : decode prog_129_method_1_code 15 = .ok (.ifCond .ge 18, 3) := by decide +kernel
theorem d1_33 : decode prog_129_method_1_code 33 = .ok (.aload_n 0, 1) := by decide +kernel
theorem d1_34 : decode prog_129_method_1_code 34 = .ok (.dload_n 1, 1) := by decide +kernel
theorem d1_35 : decode prog_129_method_1_code 35 = .ok (.putfield 22, 3) := by decide +kernel
theorem d1_38 : decode prog_129_method_1_code 38 = .ok (.aload_n 0, 1) := by decide +kernel
theorem d1_39 : decode prog_129_method_1_code 39 = .ok (.dload_n 3, 1) := by decide +kernel
theorem d1_40 : decode prog_129_method_1_code 40 = .ok (.putfield 28, 3) := by decide +kernel
theorem d1_43 : decode prog_129_method_1_code 43 = .ok (.return_, 1) := by decide +kernel
theorem pn_1 : plainFor (⟨"com/example/bellwether/bellwether/planner/RuntimeDistribution$Uniform", "<init>", "(DD)V"⟩ : MethodName) = true := plainFor_of_name (by show plainName "com/example/bellwether/bellwether/planner/RuntimeDistribution$Uniform" = true; first | (simp [plainName, overriddenIn]; done) | decide +kernel)
theorem ef_1 (m : MethodId) (a1 : Addr) (x2 : UInt64) (x3 : UInt64) : entryFrame m #[(.ref a1), (.double x2), (.double x3)] 5 = mkF m 0 #[.val (.ref a1), .val (.double x2), .second, .val (.double x3), .second] [] := by first | (simp [entryFrame, mkF, argsToLocals, Value.category]; done) | rfl
set_option maxRecDepth 65536 in
set_option maxHeartbeats 40000000 in
theorem rmUI (l : Launch) (Z : State) (a0 : Array Value) (hw : ∀ d ∈ tables_1, d.before a0 Z = true) (h0 : Heap) (n0 : Nat) (Z0 : n0 ≤ h0.size) (a1 : Addr) (x2 : UInt64) (x3 : UInt64) (nL nH : Int) (j : Nat) (yL : Dy x2 nL j) (yH : Dy x3 nH j) (hL : 0 ≤ nL) (hLH : nL ≤ nH) (hE : Exa Z h0 a1 "com/example/bellwether/bellwether/planner/RuntimeDistribution$Uniform") (hLo : Fld Z h0 a1 "com/example/bellwether/bellwether/planner/RuntimeDistribution$Uniform" "low" "D" (.double 0)) (hHi : Fld Z h0 a1 "com/example/bellwether/bellwether/planner/RuntimeDistribution$Uniform" "high" "D" (.double 0)) (ga : n0 ≤ a1) : Ctr l Z (⟨"com/example/bellwether/bellwether/planner/RuntimeDistribution$Uniform", "<init>", "(DD)V"⟩ : MethodName) prog_129_method_1_code 5 none [] ({ frames := 2, cells := 0, slots := 0, locals := 24 } : Room) #[(.ref a1), (.double x2), (.double x3)] h0 (fun v h L => v = none ∧ Fr n0 L ∧ Keep h0 h [a1] ∧ Exa Z h a1 "com/example/bellwether/bellwether/planner/RuntimeDistribution$Uniform" ∧ Fld Z h a1 "com/example/bellwether/bellwether/planner/RuntimeDistribution$Uniform" "low" "D" (.double x2) ∧ Fld Z h a1 "com/example/bellwether/bellwether/planner/RuntimeDistribution$Uniform" "high" "D" (.double x3)) := by
  refine ctr_mk pn_1 (own := "com/example/bellwether/bellwether/planner/RuntimeDistribution$Uniform") (mn := "<init>") rfl rfl ?_
  intro p e s m below meth c T0 X0 hx hby hml hZ hown hnm hret hlk e0
  refine o_entry (ef_1 m a1 x2 x3) ?_
  have g_a1 := ga
  have NN := Fr.nil n0
  have ZZ := Z0
  have KK := Keep.refl h0 [a1]
  refine o_aloadN X0 hx (pc' := 1) (hb hby d1_0) rfl rfl rfl ?_
  refine o_callI X0 hx hZ a1 [] (rmRI l Z a0 hw h0 n0 Z0 a1) rfl hown (hw _ (List.mem_of_getElem? (i := 7) rfl)) (hw _ (List.mem_of_getElem? (i := 8) rfl)) (hw _ (List.mem_of_getElem? (i := 10) rfl)) (hw _ (List.mem_of_getElem? (i := 11) rfl)) (by decide) pd_0 e0 (by rw [hml]; rfl) rfl rfl rfl (hb hby d1_1) (pc' := 4) rfl 0 (Nat.le_of_eq rfl) (by decide) (by decide) (by decide) (by decide) ?_
  intro T1 v1 L1 X1 hQ1
  obtain ⟨rfl, rfl, hh1⟩ := hQ1
  rw [List.append_nil] at X1
  have e1 := hh1
  show Dn p e below _ (T1.setTop (mkF m 4 #[.val (.ref a1), .val (.double x2), .second, .val (.double x3), .second] []))
  refine o_dloadN X1 hx (pc' := 5) (hb hby d1_4) rfl rfl ?_
  refine o_callS X1 hx hZ [(.double x2)] (rmRR l Z a0 hw h0 n0 Z0 x2 nL j yL hL) hown (hw _ (List.mem_of_getElem? (i := 15) rfl)) (hw _ (List.mem_of_getElem? (i := 16) rfl)) (hw _ (List.mem_of_getElem? (i := 17) rfl)) (hw _ (List.mem_of_getElem? (i := 18) rfl)) (by decide) pd_1 e1 (by rw [hml]; rfl) rfl rfl rfl (hb hby d1_5) (pc' := 8) rfl 0 (Nat.le_of_eq rfl) (by decide) (by decide) (by decide) (by decide) ?_
  intro T2 v2 L2 X2 hQ2
  obtain ⟨rfl, rfl, hh2⟩ := hQ2
  rw [List.append_nil] at X2
  have e2 := hh2
  show Dn p e below _ (T2.setTop (mkF m 8 #[.val (.ref a1), .val (.double x2), .second, .val (.double x3), .second] []))
  refine o_dloadN X2 hx (pc' := 9) (hb hby d1_8) rfl rfl ?_
  refine o_callS X2 hx hZ [(.double x3)] (rmRR l Z a0 hw h0 n0 Z0 x3 nH j yH (Int.le_trans hL hLH)) hown (hw _ (List.mem_of_getElem? (i := 15) rfl)) (hw _ (List.mem_of_getElem? (i := 16) rfl)) (hw _ (List.mem_of_getElem? (i := 17) rfl)) (hw _ (List.mem_of_getElem? (i := 18) rfl)) (by decide) pd_1 e2 (by rw [hml]; rfl) rfl rfl rfl (hb hby d1_9) (pc' := 12) rfl 0 (Nat.le_of_eq rfl) (by decide) (by decide) (by decide) (by decide) ?_
  intro T3 v3 L3 X3 hQ3
  obtain ⟨rfl, rfl, hh3⟩ := hQ3
  rw [List.append_nil] at X3
  have e3 := hh3
  show Dn p e below _ (T3.setTop (mkF m 12 #[.val (.ref a1), .val (.double x2), .second, .val (.double x3), .second] []))
  refine o_dloadN X3 hx (pc' := 13) (hb hby d1_12) rfl rfl ?_
  refine o_dloadN X3 hx (pc' := 14) (hb hby d1_13) rfl rfl ?_
  refine o_dcmp X3 hx (pc' := 15) (hb hby d1_14) rfl ?_
  refine o_if_ge X3 hx (pc' := 18) (pt := 33) (hb hby d1_15) rfl (by decide) (by decide) (fun _ => ?_) (fun q => absurd q (fun q => absurd ((own_clt yH yL _).mp q) (by omega)))
  refine o_aloadN X3 hx (pc' := 34) (hb hby d1_33) rfl rfl rfl ?_
  refine o_dloadN X3 hx (pc' := 35) (hb hby d1_34) rfl rfl ?_
  refine o_putfield X3 hx hZ hown (hw _ (List.mem_of_getElem? (i := 20) rfl)) e3 hLo hE (Or.inr ⟨(hw _ (List.mem_of_getElem? (i := 21) rfl)), rfl, hnm⟩) (hw _ (List.mem_of_getElem? (i := 2) rfl)) (ty := .double) (v' := (.double x2)) (by decide) rfl rfl (hb hby d1_35) (pc' := 38) rfl ?_
  intro T4 h4 X4 e4 W4 F4 E4
  have NN := Fr.snoc X4 NN g_a1
  have KK := KK.wr W4 (Or.inl (List.mem_of_getElem? (i := 0) rfl))
  have ZZ := Nat.le_trans ZZ (Keep.of_wr W4).1
  have hHi := hHi.other W4 (Or.inr (slot_ne (Or.inr (hw _ (List.mem_of_getElem? (i := 23) rfl))) (Or.inr (hw _ (List.mem_of_getElem? (i := 21) rfl))) (by decide) (t := .double) (t' := .double) (by decide) (by decide)))
  have hLo := F4
  have hE := E4
  refine o_aloadN X4 hx (pc' := 39) (hb hby d1_38) rfl rfl rfl ?_
  refine o_dloadN X4 hx (pc' := 40) (hb hby d1_39) rfl rfl ?_
  refine o_putfield X4 hx hZ hown (hw _ (List.mem_of_getElem? (i := 22) rfl)) e4 hHi hE (Or.inr ⟨(hw _ (List.mem_of_getElem? (i := 23) rfl)), rfl, hnm⟩) (hw _ (List.mem_of_getElem? (i := 2) rfl)) (ty := .double) (v' := (.double x3)) (by decide) rfl rfl (hb hby d1_40) (pc' := 43) rfl ?_
  intro T5 h5 X5 e5 W5 F5 E5
  have NN := Fr.snoc X5 NN g_a1
  have KK := KK.wr W5 (Or.inl (List.mem_of_getElem? (i := 0) rfl))
  have ZZ := Nat.le_trans ZZ (Keep.of_wr W5).1
  have hLo := hLo.other W5 (Or.inr (slot_ne (Or.inr (hw _ (List.mem_of_getElem? (i := 21) rfl))) (Or.inr (hw _ (List.mem_of_getElem? (i := 23) rfl))) (by decide) (t := .double) (t' := .double) (by decide) (by decide)))
  have hHi := F5
  have hE := E5
  exact finV X5 hx hlk hret (hb hby d1_43) (by decide) (by decide) ⟨rfl, NN, (by rw [e5]; exact KK), (by rw [e5]; exact hE), (by rw [e5]; exact hLo), (by rw [e5]; exact hHi)⟩
theorem d5_0 : decode prog_129_method_2_code 0 = .ok (.dload_n 1, 1) := by decide +kernel
theorem d5_1 : decode prog_129_method_2_code 1 = .ok (.aload_n 0, 1) := by decide +kernel
theorem d5_2 : decode prog_129_method_2_code 2 = .ok (.getfield 22, 3) := by decide +kernel
theorem d5_5 : decode prog_129_method_2_code 5 = .ok (.dcmp .g, 1) := by decide +kernel
theorem d5_6 : decode prog_129_method_2_code 6 = .ok (.ifCond .ge 5, 3) := by decide +kernel
theorem d5_9 : decode prog_129_method_2_code 9 = .ok (.dconst 0, 1) := by decide +kernel
theorem d5_10 : decode prog_129_method_2_code 10 = .ok (.dreturn, 1) := by decide +kernel
theorem pn_5 : plainFor (⟨"com/example/bellwether/bellwether/planner/RuntimeDistribution$Uniform", "cdf", "(D)D"⟩ : MethodName) = true := plainFor_of_name (by show plainName "com/example/bellwether/bellwether/planner/RuntimeDistribution$Uniform" = true; first | (simp [plainName, overriddenIn]; done) | decide +kernel)
theorem ef_5 (m : MethodId) (a1 : Addr) (x2 : UInt64) : entryFrame m #[(.ref a1), (.double x2)] 3 = mkF m 0 #[.val (.ref a1), .val (.double x2), .second] [] := by first | (simp [entryFrame, mkF, argsToLocals, Value.category]; done) | rfl
set_option maxRecDepth 65536 in
set_option maxHeartbeats 40000000 in
theorem rmCD0 (l : Launch) (Z : State) (a0 : Array Value) (hw : ∀ d ∈ tables_1, d.before a0 Z = true) (h0 : Heap) (n0 : Nat) (Z0 : n0 ≤ h0.size) (a1 : Addr) (x2 : UInt64) (lo hi : UInt64) (hLo : Fld Z h0 a1 "com/example/bellwether/bellwether/planner/RuntimeDistribution$Uniform" "low" "D" (.double lo)) (hHi : Fld Z h0 a1 "com/example/bellwether/bellwether/planner/RuntimeDistribution$Uniform" "high" "D" (.double hi)) (k1 : (cmpValue (FP.dcmp x2 lo) .g) < (0 : Int32)) : Ctr l Z (⟨"com/example/bellwether/bellwether/planner/RuntimeDistribution$Uniform", "cdf", "(D)D"⟩ : MethodName) prog_129_method_2_code 3 (some .double) [] ({ frames := 0, cells := 0, slots := 0, locals := 0 } : Room) #[(.ref a1), (.double x2)] h0 (Pure (.double FP.dconst0) h0) := by
  refine ctr_mk pn_5 (own := "com/example/bellwether/bellwether/planner/RuntimeDistribution$Uniform") (mn := "cdf") rfl rfl ?_
  intro p e s m below meth c T0 X0 hx hby hml hZ hown hnm hret hlk e0
  refine o_entry (ef_5 m a1 x2) ?_
  refine o_dloadN X0 hx (pc' := 1) (hb hby d5_0) rfl rfl ?_
  refine o_aloadN X0 hx (pc' := 2) (hb hby d5_1) rfl rfl rfl ?_
  refine o_getfield X0 hx hZ hown (hw _ (List.mem_of_getElem? (i := 20) rfl)) e0 hLo (hb hby d5_2) (pc' := 5) rfl ?_
  intro T1 X1 e1
  refine o_dcmp X1 hx (pc' := 6) (hb hby d5_5) rfl ?_
  refine o_if_ge X1 hx (pc' := 9) (pt := 11) (hb hby d5_6) rfl (by decide) (by decide) (fun q => absurd k1 q) (fun _ => ?_)
  refine o_dconst0 X1 hx (pc' := 10) (hb hby d5_9) rfl ?_
  exact finD X1 hx hlk hret (hb hby d5_10) (by decide) (by decide) ⟨rfl, rfl, e1⟩
theorem d5_11 : decode prog_129_method_2_code 11 = .ok (.dload_n 1, 1) := by decide +kernel
theorem d5_12 : decode prog_129_method_2_code 12 = .ok (.aload_n 0, 1) := by decide +kernel
theorem d5_13 : decode prog_129_method_2_code 13 = .ok (.getfield 28, 3) := by decide +kernel
theorem d5_16 : decode prog_129_method_2_code 16 = .ok (.dcmp .l, 1) := by decide +kernel
theorem d5_17 : decode prog_129_method_2_code 17 = .ok (.ifCond .lt 5, 3) := by decide +kernel
theorem d5_20 : decode prog_129_method_2_code 20 = .ok (.dconst 1, 1) := by decide +kernel
theorem d5_21 : decode prog_129_method_2_code 21 = .ok (.dreturn, 1) := by decide +kernel
set_option maxRecDepth 65536 in
set_option maxHeartbeats 40000000 in
theorem rmCD1 (l : Launch) (Z : State) (a0 : Array Value) (hw : ∀ d ∈ tables_1, d.before a0 Z = true) (h0 : Heap) (n0 : Nat) (Z0 : n0 ≤ h0.size) (a1 : Addr) (x2 : UInt64) (lo hi : UInt64) (hLo : Fld Z h0 a1 "com/example/bellwether/bellwether/planner/RuntimeDistribution$Uniform" "low" "D" (.double lo)) (hHi : Fld Z h0 a1 "com/example/bellwether/bellwether/planner/RuntimeDistribution$Uniform" "high" "D" (.double hi)) (k1 : ¬ ((cmpValue (FP.dcmp x2 lo) .g) < (0 : Int32))) (k2 : ¬ ((cmpValue (FP.dcmp x2 hi) .l) < (0 : Int32))) : Ctr l Z (⟨"com/example/bellwether/bellwether/planner/RuntimeDistribution$Uniform", "cdf", "(D)D"⟩ : MethodName) prog_129_method_2_code 3 (some .double) [] ({ frames := 0, cells := 0, slots := 0, locals := 0 } : Room) #[(.ref a1), (.double x2)] h0 (Pure (.double FP.dconst1) h0) := by
  refine ctr_mk pn_5 (own := "com/example/bellwether/bellwether/planner/RuntimeDistribution$Uniform") (mn := "cdf") rfl rfl ?_
  intro p e s m below meth c T0 X0 hx hby hml hZ hown hnm hret hlk e0
  refine o_entry (ef_5 m a1 x2) ?_
  refine o_dloadN X0 hx (pc' := 1) (hb hby d5_0) rfl rfl ?_
  refine o_aloadN X0 hx (pc' := 2) (hb hby d5_1) rfl rfl rfl ?_
  refine o_getfield X0 hx hZ hown (hw _ (List.mem_of_getElem? (i := 20) rfl)) e0 hLo (hb hby d5_2) (pc' := 5) rfl ?_
  intro T1 X1 e1
  refine o_dcmp X1 hx (pc' := 6) (hb hby d5_5) rfl ?_
  refine o_if_ge X1 hx (pc' := 9) (pt := 11) (hb hby d5_6) rfl (by decide) (by decide) (fun _ => ?_) (fun q => absurd q k1)
  refine o_dloadN X1 hx (pc' := 12) (hb hby d5_11) rfl rfl ?_
  refine o_aloadN X1 hx (pc' := 13) (hb hby d5_12) rfl rfl rfl ?_
  refine o_getfield X1 hx hZ hown (hw _ (List.mem_of_getElem? (i := 22) rfl)) e1 hHi (hb hby d5_13) (pc' := 16) rfl ?_
  intro T2 X2 e2
  refine o_dcmp X2 hx (pc' := 17) (hb hby d5_16) rfl ?_
  refine o_if_lt X2 hx (pc' := 20) (pt := 22) (hb hby d5_17) rfl (by decide) (by decide) (fun q => absurd q k2) (fun _ => ?_)
  refine o_dconst1 X2 hx (pc' := 21) (hb hby d5_20) rfl ?_
  exact finD X2 hx hlk hret (hb hby d5_21) (by decide) (by decide) ⟨rfl, rfl, e2⟩
theorem d5_22 : decode prog_129_method_2_code 22 = .ok (.dload_n 1, 1) := by decide +kernel
theorem d5_23 : decode prog_129_method_2_code 23 = .ok (.aload_n 0, 1) := by decide +kernel
theorem d5_24 : decode prog_129_method_2_code 24 = .ok (.getfield 22, 3) := by decide +kernel
theorem d5_27 : decode prog_129_method_2_code 27 = .ok (.dsub, 1) := by decide +kernel
theorem d5_28 : decode prog_129_method_2_code 28 = .ok (.aload_n 0, 1) := by decide +kernel
theorem d5_29 : decode prog_129_method_2_code 29 = .ok (.getfield 28, 3) := by decide +kernel
theorem d5_32 : decode prog_129_method_2_code 32 = .ok (.aload_n 0, 1) := by decide +kernel
theorem d5_33 : decode prog_129_method_2_code 33 = .ok (.getfield 22, 3) := by decide +kernel
theorem d5_36 : decode prog_129_method_2_code 36 = .ok (.dsub, 1) := by decide +kernel
theorem d5_37 : decode prog_129_method_2_code 37 = .ok (.ddiv, 1) := by decide +kernel
theorem d5_38 : decode prog_129_method_2_code 38 = .ok (.dreturn, 1) := by decide +kernel
set_option maxRecDepth 65536 in
set_option maxHeartbeats 40000000 in
theorem rmCD2 (l : Launch) (Z : State) (a0 : Array Value) (hw : ∀ d ∈ tables_1, d.before a0 Z = true) (h0 : Heap) (n0 : Nat) (Z0 : n0 ≤ h0.size) (a1 : Addr) (x2 : UInt64) (lo hi : UInt64) (hLo : Fld Z h0 a1 "com/example/bellwether/bellwether/planner/RuntimeDistribution$Uniform" "low" "D" (.double lo)) (hHi : Fld Z h0 a1 "com/example/bellwether/bellwether/planner/RuntimeDistribution$Uniform" "high" "D" (.double hi)) (k1 : ¬ ((cmpValue (FP.dcmp x2 lo) .g) < (0 : Int32))) (k2 : (cmpValue (FP.dcmp x2 hi) .l) < (0 : Int32)) (n1 : Jvm.Free.Fl.NoNaN64 (FP.dsub x2 lo)) (n2 : Jvm.Free.Fl.NoNaN64 (FP.dsub hi lo)) (n3 : Jvm.Free.Fl.NoNaN64 (FP.ddiv (FP.dsub x2 lo) (FP.dsub hi lo))) : Ctr l Z (⟨"com/example/bellwether/bellwether/planner/RuntimeDistribution$Uniform", "cdf", "(D)D"⟩ : MethodName) prog_129_method_2_code 3 (some .double) [] ({ frames := 0, cells := 0, slots := 0, locals := 0 } : Room) #[(.ref a1), (.double x2)] h0 (Pure (.double (FP.ddiv (FP.dsub x2 lo) (FP.dsub hi lo))) h0) := by
  refine ctr_mk pn_5 (own := "com/example/bellwether/bellwether/planner/RuntimeDistribution$Uniform") (mn := "cdf") rfl rfl ?_
  intro p e s m below meth c T0 X0 hx hby hml hZ hown hnm hret hlk e0
  refine o_entry (ef_5 m a1 x2) ?_
  refine o_dloadN X0 hx (pc' := 1) (hb hby d5_0) rfl rfl ?_
  refine o_aloadN X0 hx (pc' := 2) (hb hby d5_1) rfl rfl rfl ?_
  refine o_getfield X0 hx hZ hown (hw _ (List.mem_of_getElem? (i := 20) rfl)) e0 hLo (hb hby d5_2) (pc' := 5) rfl ?_
  intro T1 X1 e1
  refine o_dcmp X1 hx (pc' := 6) (hb hby d5_5) rfl ?_
  refine o_if_ge X1 hx (pc' := 9) (pt := 11) (hb hby d5_6) rfl (by decide) (by decide) (fun _ => ?_) (fun q => absurd q k1)
  refine o_dloadN X1 hx (pc' := 12) (hb hby d5_11) rfl rfl ?_
  refine o_aloadN X1 hx (pc' := 13) (hb hby d5_12) rfl rfl rfl ?_
  refine o_getfield X1 hx hZ hown (hw _ (List.mem_of_getElem? (i := 22) rfl)) e1 hHi (hb hby d5_13) (pc' := 16) rfl ?_
  intro T2 X2 e2
  refine o_dcmp X2 hx (pc' := 17) (hb hby d5_16) rfl ?_
  refine o_if_lt X2 hx (pc' := 20) (pt := 22) (hb hby d5_17) rfl (by decide) (by decide) (fun _ => ?_) (fun q => absurd k2 q)
  refine o_dloadN X2 hx (pc' := 23) (hb hby d5_22) rfl rfl ?_
  refine o_aloadN X2 hx (pc' := 24) (hb hby d5_23) rfl rfl rfl ?_
  refine o_getfield X2 hx hZ hown (hw _ (List.mem_of_getElem? (i := 20) rfl)) e2 hLo (hb hby d5_24) (pc' := 27) rfl ?_
  intro T3 X3 e3
  refine o_dsub X3 hx (pc' := 28) (hb hby d5_27) rfl n1 ?_
  refine o_aloadN X3 hx (pc' := 29) (hb hby d5_28) rfl rfl rfl ?_
  refine o_getfield X3 hx hZ hown (hw _ (List.mem_of_getElem? (i := 22) rfl)) e3 hHi (hb hby d5_29) (pc' := 32) rfl ?_
  intro T4 X4 e4
  refine o_aloadN X4 hx (pc' := 33) (hb hby d5_32) rfl rfl rfl ?_
  refine o_getfield X4 hx hZ hown (hw _ (List.mem_of_getElem? (i := 20) rfl)) e4 hLo (hb hby d5_33) (pc' := 36) rfl ?_
  intro T5 X5 e5
  refine o_dsub X5 hx (pc' := 37) (hb hby d5_36) rfl n2 ?_
  refine o_ddiv X5 hx (pc' := 38) (hb hby d5_37) rfl n3 ?_
  exact finD X5 hx hlk hret (hb hby d5_38) (by decide) (by decide) ⟨rfl, rfl, e5⟩
theorem pd_2 : parseMethodDescriptor "(DD)V" = some ⟨[.double, .double], none⟩ := by decide +kernel
theorem pd_3 : parseMethodDescriptor "(D)D" = some ⟨[.double], some .double⟩ := by decide +kernel
theorem pn_0 : plainFor x = true := plainFor_of_name (by show plainName "com/example/bellwether/bellwether/planner/UniformCdfPinLaw" = true; first | (simp [plainName, overriddenIn]; done) | decide +kernel)
theorem ef_0 (m : MethodId) (p1 : Int32) (p2 : Int32) (p3 : Int32) (p4 : Int32) (p5 : Int32) : entryFrame m #[(.int p1), (.int p2), (.int p3), (.int p4), (.int p5)] maxLocals = mkF m 0 #[.val (.int p1), .val (.int p2), .val (.int p3), .val (.int p4), .val (.int p5), .unset, .unset, .unset, .unset, .unset, .unset, .unset, .unset, .unset, .unset, .unset, .unset, .unset, .unset, .unset, .unset, .unset, .unset, .unset, .unset] [] := by first | (simp [entryFrame, mkF, argsToLocals, Value.category, maxLocals]; done) | rfl
set_option maxRecDepth 65536 in
set_option maxHeartbeats 40000000 in
theorem rm0 (l : Launch) (Z : State) (a0 : Array Value) (hw : ∀ d ∈ tables_1, d.before a0 Z = true) (ws : List Jvm.Cond) (h0 : Heap) (n0 : Nat) (Z0 : n0 ≤ h0.size) (p1 : Int32) (p2 : Int32) (p3 : Int32) (p4 : Int32) (p5 : Int32)  : Ctr l Z x code maxLocals ret ws room_1 #[(.int p1), (.int p2), (.int p3), (.int p4), (.int p5)] h0 (fun v h L => v = some (.int 1) ∧ Fr n0 L) := by
  refine ctr_mk pn_0 (own := "com/example/bellwether/bellwether/planner/UniformCdfPinLaw") (mn := "law") rfl rfl ?_
  intro p e s m below meth c T0 X0 hx hby hml hZ hown hnm hret hlk e0
  refine o_entry (ef_0 m p1 p2 p3 p4 p5) ?_
  have NN := Fr.nil n0
  have ZZ := Z0
  obtain ⟨mL, mL2⟩ := own_m31 p1
  obtain ⟨mW, mW2⟩ := own_m31 p2
  have dL := FP.Core.i2d_int (p1 &&& (2147483647 : Int32))
  have dW := FP.Core.i2d_int (p2 &&& (2147483647 : Int32))
  have dH := FP.Core.dadd_int dL dW (by omega)
  refine o_iloadN X0 hx (pc' := 1) (hb hby at_0) rfl rfl ?_
  refine o_ldc X0 hx hZ hown (hw _ (List.mem_of_getElem? (i := 0) rfl)) (pc' := 3) (hb hby at_1) rfl ?_
  refine o_iand X0 hx (pc' := 4) (hb hby at_3) rfl ?_
  refine o_istore X0 hx (pc' := 6) (Ls' := #[.val (.int p1), .val (.int p2), .val (.int p3), .val (.int p4), .val (.int p5), .val (.int (p1 &&& (2147483647 : Int32))), .unset, .unset, .unset, .unset, .unset, .unset, .unset, .unset, .unset, .unset, .unset, .unset, .unset, .unset, .unset, .unset, .unset, .unset, .unset]) (hb hby at_4) rfl rfl ?_
  refine o_iloadN X0 hx (pc' := 7) (hb hby at_6) rfl rfl ?_
  refine o_ldc X0 hx hZ hown (hw _ (List.mem_of_getElem? (i := 0) rfl)) (pc' := 9) (hb hby at_7) rfl ?_
  refine o_iand X0 hx (pc' := 10) (hb hby at_9) rfl ?_
  refine o_istore X0 hx (pc' := 12) (Ls' := #[.val (.int p1), .val (.int p2), .val (.int p3), .val (.int p4), .val (.int p5), .val (.int (p1 &&& (2147483647 : Int32))), .val (.int (p2 &&& (2147483647 : Int32))), .unset, .unset, .unset, .unset, .unset, .unset, .unset, .unset, .unset, .unset, .unset, .unset, .unset, .unset, .unset, .unset, .unset, .unset]) (hb hby at_10) rfl rfl ?_
  refine o_iload X0 hx (pc' := 14) (hb hby at_12) rfl rfl ?_
  refine o_i2d X0 hx (pc' := 15) (hb hby at_14) rfl ?_
  refine o_dstore X0 hx (pc' := 17) (Ls' := #[.val (.int p1), .val (.int p2), .val (.int p3), .val (.int p4), .val (.int p5), .val (.int (p1 &&& (2147483647 : Int32))), .val (.int (p2 &&& (2147483647 : Int32))), .val (.double (FP.i2d (p1 &&& (2147483647 : Int32)))), .second, .unset, .unset, .unset, .unset, .unset, .unset, .unset, .unset, .unset, .unset, .unset, .unset, .unset, .unset, .unset, .unset]) (hb hby at_15) rfl rfl ?_
  refine o_dload X0 hx (pc' := 19) (hb hby at_17) rfl rfl ?_
  refine o_iload X0 hx (pc' := 21) (hb hby at_19) rfl rfl ?_
  refine o_i2d X0 hx (pc' := 22) (hb hby at_21) rfl ?_
  refine o_dadd X0 hx (pc' := 23) (hb hby at_22) rfl (own_nn64 (FP.Core.DInt_ne_nan dH)) ?_
  refine o_dstore X0 hx (pc' := 25) (Ls' := #[.val (.int p1), .val (.int p2), .val (.int p3), .val (.int p4), .val (.int p5), .val (.int (p1 &&& (2147483647 : Int32))), .val (.int (p2 &&& (2147483647 : Int32))), .val (.double (FP.i2d (p1 &&& (2147483647 : Int32)))), .second, .val (.double (FP.dadd (FP.i2d (p1 &&& (2147483647 : Int32))) (FP.i2d (p2 &&& (2147483647 : Int32))))), .second, .unset, .unset, .unset, .unset, .unset, .unset, .unset, .unset, .unset, .unset, .unset, .unset, .unset, .unset]) (hb hby at_23) rfl rfl ?_
  refine o_iloadN X0 hx (pc' := 26) (hb hby at_25) rfl rfl ?_
  refine o_iconst X0 hx (pc' := 27) (v := (3 : Int32)) (hb hby at_26) rfl rfl ?_
  refine o_iand X0 hx (pc' := 28) (hb hby at_27) rfl ?_
  refine o_istore X0 hx (pc' := 30) (Ls' := #[.val (.int p1), .val (.int p2), .val (.int p3), .val (.int p4), .val (.int p5), .val (.int (p1 &&& (2147483647 : Int32))), .val (.int (p2 &&& (2147483647 : Int32))), .val (.double (FP.i2d (p1 &&& (2147483647 : Int32)))), .second, .val (.double (FP.dadd (FP.i2d (p1 &&& (2147483647 : Int32))) (FP.i2d (p2 &&& (2147483647 : Int32))))), .second, .val (.int (p4 &&& (3 : Int32))), .unset, .unset, .unset, .unset, .unset, .unset, .unset, .unset, .unset, .unset, .unset, .unset, .unset]) (hb hby at_28) rfl rfl ?_
  refine o_iload X0 hx (pc' := 32) (hb hby at_30) rfl rfl ?_
  have J : ∀ (xU : UInt64) (xV : Int), FP.Core.DInt xV xU → xV.natAbs ≤ 8589934592 → Dn p e below (PQ below s (fun v h L => v = some (.int 1) ∧ Fr n0 L) room_1.cells room_1.slots) (T0.setTop (mkF m 106 #[.val (.int p1), .val (.int p2), .val (.int p3), .val (.int p4), .val (.int p5), .val (.int (p1 &&& (2147483647 : Int32))), .val (.int (p2 &&& (2147483647 : Int32))), .val (.double (FP.i2d (p1 &&& (2147483647 : Int32)))), .second, .val (.double (FP.dadd (FP.i2d (p1 &&& (2147483647 : Int32))) (FP.i2d (p2 &&& (2147483647 : Int32))))), .second, .val (.int (p4 &&& (3 : Int32))), .val (.double xU), .second, .unset, .unset, .unset, .unset, .unset, .unset, .unset, .unset, .unset, .unset, .unset] [])) := by
    intro xU xV dX hX
    obtain ⟨j, hj, dS⟩ := own_shl p5
    have yS := own_dint dS
    have yLU := own_dint dL
    have yWU := own_dint dW
    have yHU := own_dint dH
    have yXU := own_dint dX
    have yL := yLU.div2 yS (by omega) (by omega)
    have yH := yHU.div2 yS (by omega) (by omega)
    have yX := yXU.div2 yS (by omega) (by omega)
    refine o_iconst X0 hx (pc' := 107) (v := (1 : Int32)) (hb hby at_106) rfl rfl ?_
    refine o_iload X0 hx (pc' := 109) (hb hby at_107) rfl rfl ?_
    refine o_bipush X0 hx (pc' := 111) (v := (15 : Int32)) (hb hby at_109) rfl rfl ?_
    refine o_iand X0 hx (pc' := 112) (hb hby at_111) rfl ?_
    refine o_ishl X0 hx (pc' := 113) (hb hby at_112) rfl ?_
    refine o_i2d X0 hx (pc' := 114) (hb hby at_113) rfl ?_
    refine o_dstore X0 hx (pc' := 116) (Ls' := #[.val (.int p1), .val (.int p2), .val (.int p3), .val (.int p4), .val (.int p5), .val (.int (p1 &&& (2147483647 : Int32))), .val (.int (p2 &&& (2147483647 : Int32))), .val (.double (FP.i2d (p1 &&& (2147483647 : Int32)))), .second, .val (.double (FP.dadd (FP.i2d (p1 &&& (2147483647 : Int32))) (FP.i2d (p2 &&& (2147483647 : Int32))))), .second, .val (.int (p4 &&& (3 : Int32))), .val (.double xU), .second, .val (.double (FP.i2d ((1 : Int32) <<< ((p5 &&& (15 : Int32)) &&& 31)))), .second, .unset, .unset, .unset, .unset, .unset, .unset, .unset, .unset, .unset]) (hb hby at_114) rfl rfl ?_
    refine o_new X0 hx hZ hown (hw _ (List.mem_of_getElem? (i := 1) rfl)) (hw _ (List.mem_of_getElem? (i := 2) rfl)) (hw _ (List.mem_of_getElem? (i := 3) rfl)) e0 (hb hby at_116) (pc' := 119) rfl (by decide) (by decide) ?_
    intro T1 h1 b1 g1 X1 e1 E1 A1 D1
    have g_b1 : n0 ≤ b1 := Nat.le_trans ZZ (Nat.le_of_eq g1.symm)
    have ZZ := Nat.le_trans ZZ E1.1
    have hE := A1
    have hLo : Fld Z h1 b1 "com/example/bellwether/bellwether/planner/RuntimeDistribution$Uniform" "low" "D" (.double 0) := D1 (Or.inr (hw _ (List.mem_of_getElem? (i := 21) rfl))) (ty := .double) (by decide)
    have hHi : Fld Z h1 b1 "com/example/bellwether/bellwether/planner/RuntimeDistribution$Uniform" "high" "D" (.double 0) := D1 (Or.inr (hw _ (List.mem_of_getElem? (i := 23) rfl))) (ty := .double) (by decide)
    refine o_dup X1 hx (pc' := 120) (hb hby at_119) rfl rfl ?_
    refine o_dload X1 hx (pc' := 122) (hb hby at_120) rfl rfl ?_
    refine o_dload X1 hx (pc' := 124) (hb hby at_122) rfl rfl ?_
    refine o_ddiv X1 hx (pc' := 125) (hb hby at_124) rfl yL.nn ?_
    refine o_dload X1 hx (pc' := 127) (hb hby at_125) rfl rfl ?_
    refine o_dload X1 hx (pc' := 129) (hb hby at_127) rfl rfl ?_
    refine o_ddiv X1 hx (pc' := 130) (hb hby at_129) rfl yH.nn ?_
    refine o_callI X1 hx hZ b1 [(.double (FP.ddiv (FP.i2d (p1 &&& (2147483647 : Int32))) (FP.i2d ((1 : Int32) <<< ((p5 &&& (15 : Int32)) &&& 31))))), (.double (FP.ddiv (FP.dadd (FP.i2d (p1 &&& (2147483647 : Int32))) (FP.i2d (p2 &&& (2147483647 : Int32)))) (FP.i2d ((1 : Int32) <<< ((p5 &&& (15 : Int32)) &&& 31)))))] (rmUI l Z a0 hw h1 n0 ZZ b1 (FP.ddiv (FP.i2d (p1 &&& (2147483647 : Int32))) (FP.i2d ((1 : Int32) <<< ((p5 &&& (15 : Int32)) &&& 31)))) (FP.ddiv (FP.dadd (FP.i2d (p1 &&& (2147483647 : Int32))) (FP.i2d (p2 &&& (2147483647 : Int32)))) (FP.i2d ((1 : Int32) <<< ((p5 &&& (15 : Int32)) &&& 31)))) _ _ j yL yH mL (by omega) hE hLo hHi g_b1) rfl hown (hw _ (List.mem_of_getElem? (i := 4) rfl)) (hw _ (List.mem_of_getElem? (i := 5) rfl)) (hw _ (List.mem_of_getElem? (i := 3) rfl)) (hw _ (List.mem_of_getElem? (i := 6) rfl)) (by decide) pd_2 e1 (by rw [hml]; rfl) rfl rfl rfl (hb hby at_130) (pc' := 133) rfl 1 (Nat.le_of_eq rfl) (by decide) (by decide) (by decide) (by decide) ?_
    intro T2 v2 L2 X2 hQ2
    obtain ⟨rfl, Nq, Kq, rE, rLo, rHi⟩ := hQ2
    have NN := Fr.app NN Nq
    have ZZ := Nat.le_trans ZZ Kq.1
    have hE := hE.keep Kq
    have hE := rE
    have hLo := rLo
    have hHi := rHi
    show Dn p e below _ (T2.setTop (mkF m 133 #[.val (.int p1), .val (.int p2), .val (.int p3), .val (.int p4), .val (.int p5), .val (.int (p1 &&& (2147483647 : Int32))), .val (.int (p2 &&& (2147483647 : Int32))), .val (.double (FP.i2d (p1 &&& (2147483647 : Int32)))), .second, .val (.double (FP.dadd (FP.i2d (p1 &&& (2147483647 : Int32))) (FP.i2d (p2 &&& (2147483647 : Int32))))), .second, .val (.int (p4 &&& (3 : Int32))), .val (.double xU), .second, .val (.double (FP.i2d ((1 : Int32) <<< ((p5 &&& (15 : Int32)) &&& 31)))), .second, .unset, .unset, .unset, .unset, .unset, .unset, .unset, .unset, .unset] [(.ref b1)]))
    refine o_astore X2 hx (pc' := 135) (Ls' := #[.val (.int p1), .val (.int p2), .val (.int p3), .val (.int p4), .val (.int p5), .val (.int (p1 &&& (2147483647 : Int32))), .val (.int (p2 &&& (2147483647 : Int32))), .val (.double (FP.i2d (p1 &&& (2147483647 : Int32)))), .second, .val (.double (FP.dadd (FP.i2d (p1 &&& (2147483647 : Int32))) (FP.i2d (p2 &&& (2147483647 : Int32))))), .second, .val (.int (p4 &&& (3 : Int32))), .val (.double xU), .second, .val (.double (FP.i2d ((1 : Int32) <<< ((p5 &&& (15 : Int32)) &&& 31)))), .second, .val (.ref b1), .unset, .unset, .unset, .unset, .unset, .unset, .unset, .unset]) (hb hby at_133) rfl rfl rfl ?_
    refine o_aload X2 hx (pc' := 137) (hb hby at_135) rfl rfl rfl ?_
    refine o_dload X2 hx (pc' := 139) (hb hby at_137) rfl rfl ?_
    refine o_dload X2 hx (pc' := 141) (hb hby at_139) rfl rfl ?_
    refine o_ddiv X2 hx (pc' := 142) (hb hby at_141) rfl yX.nn ?_
    rcases own_tri xV (p1 &&& (2147483647 : Int32)).toInt (p2 &&& (2147483647 : Int32)).toInt with hA | ⟨hA, hB⟩ | ⟨hA, hB⟩
    · skip
      refine o_callVP X2 hx hZ b1 [(.double (FP.ddiv xU (FP.i2d ((1 : Int32) <<< ((p5 &&& (15 : Int32)) &&& 31)))))] (rmCD0 l Z a0 hw T2.heap n0 ZZ b1 (FP.ddiv xU (FP.i2d ((1 : Int32) <<< ((p5 &&& (15 : Int32)) &&& 31)))) (FP.ddiv (FP.i2d (p1 &&& (2147483647 : Int32))) (FP.i2d ((1 : Int32) <<< ((p5 &&& (15 : Int32)) &&& 31)))) (FP.ddiv (FP.dadd (FP.i2d (p1 &&& (2147483647 : Int32))) (FP.i2d (p2 &&& (2147483647 : Int32)))) (FP.i2d ((1 : Int32) <<< ((p5 &&& (15 : Int32)) &&& 31)))) hLo hHi ((own_clt yX yL _).mpr hA)) hown (hw _ (List.mem_of_getElem? (i := 24) rfl)) (hw _ (List.mem_of_getElem? (i := 25) rfl)) (hw _ (List.mem_of_getElem? (i := 27) rfl)) (hw _ (List.mem_of_getElem? (i := 26) rfl)) (hw _ (List.mem_of_getElem? (i := 3) rfl)) (hw _ (List.mem_of_getElem? (i := 28) rfl)) (by decide) hE pd_3 rfl (by rw [hml]; rfl) rfl rfl rfl (hb hby at_142) (pc' := 145) rfl 0 (Nat.le_of_eq rfl) (by decide) (by decide) rfl rfl (by decide) (by decide) ?_
      intro T3 X3 e3
      show Dn p e below _ (T3.setTop (mkF m 145 #[.val (.int p1), .val (.int p2), .val (.int p3), .val (.int p4), .val (.int p5), .val (.int (p1 &&& (2147483647 : Int32))), .val (.int (p2 &&& (2147483647 : Int32))), .val (.double (FP.i2d (p1 &&& (2147483647 : Int32)))), .second, .val (.double (FP.dadd (FP.i2d (p1 &&& (2147483647 : Int32))) (FP.i2d (p2 &&& (2147483647 : Int32))))), .second, .val (.int (p4 &&& (3 : Int32))), .val (.double xU), .second, .val (.double (FP.i2d ((1 : Int32) <<< ((p5 &&& (15 : Int32)) &&& 31)))), .second, .val (.ref b1), .unset, .unset, .unset, .unset, .unset, .unset, .unset, .unset] [(.double FP.dconst0)]))
      refine o_dstore X3 hx (pc' := 147) (Ls' := #[.val (.int p1), .val (.int p2), .val (.int p3), .val (.int p4), .val (.int p5), .val (.int (p1 &&& (2147483647 : Int32))), .val (.int (p2 &&& (2147483647 : Int32))), .val (.double (FP.i2d (p1 &&& (2147483647 : Int32)))), .second, .val (.double (FP.dadd (FP.i2d (p1 &&& (2147483647 : Int32))) (FP.i2d (p2 &&& (2147483647 : Int32))))), .second, .val (.int (p4 &&& (3 : Int32))), .val (.double xU), .second, .val (.double (FP.i2d ((1 : Int32) <<< ((p5 &&& (15 : Int32)) &&& 31)))), .second, .val (.ref b1), .val (.double FP.dconst0), .second, .unset, .unset, .unset, .unset, .unset, .unset]) (hb hby at_145) rfl rfl ?_
      refine o_dload X3 hx (pc' := 149) (hb hby at_147) rfl rfl ?_
      refine o_dload X3 hx (pc' := 151) (hb hby at_149) rfl rfl ?_
      refine o_dcmp X3 hx (pc' := 152) (hb hby at_151) rfl ?_
      refine o_if_ge X3 hx (pc' := 155) (pt := 168) (hb hby at_152) rfl (by decide) (by decide) (fun q => absurd ((own_clt yXU yLU _).mpr hA) q) (fun _ => ?_)
      refine o_dload X3 hx (pc' := 157) (hb hby at_155) rfl rfl ?_
      refine o_dconst0 X3 hx (pc' := 158) (hb hby at_157) rfl ?_
      refine o_dcmp X3 hx (pc' := 159) (hb hby at_158) rfl ?_
      rw [show (cmpValue (FP.dcmp FP.dconst0 FP.dconst0) .l) = (0 : Int32) from own_veq own_f0.ne_nan own_f0.ne_nan rfl _]
      refine o_if_ne X3 hx (pc' := 162) (pt := 166) (hb hby at_159) rfl (by decide) (by decide) (fun q => absurd (by decide) q) (fun _ => ?_)
      refine o_iconst X3 hx (pc' := 163) (v := (1 : Int32)) (hb hby at_162) rfl rfl ?_
      refine o_goto X3 hx (pc' := 167) (hb hby at_163) (by decide) (by decide) ?_
      exact finN X3 hx hlk (t := .boolean) hret (by simp) (hb hby at_167) (by decide) (by decide) ⟨rfl, NN⟩
    · skip
      refine o_callVP X2 hx hZ b1 [(.double (FP.ddiv xU (FP.i2d ((1 : Int32) <<< ((p5 &&& (15 : Int32)) &&& 31)))))] (rmCD1 l Z a0 hw T2.heap n0 ZZ b1 (FP.ddiv xU (FP.i2d ((1 : Int32) <<< ((p5 &&& (15 : Int32)) &&& 31)))) (FP.ddiv (FP.i2d (p1 &&& (2147483647 : Int32))) (FP.i2d ((1 : Int32) <<< ((p5 &&& (15 : Int32)) &&& 31)))) (FP.ddiv (FP.dadd (FP.i2d (p1 &&& (2147483647 : Int32))) (FP.i2d (p2 &&& (2147483647 : Int32)))) (FP.i2d ((1 : Int32) <<< ((p5 &&& (15 : Int32)) &&& 31)))) hLo hHi (fun q => absurd ((own_clt yX yL _).mp q) (by omega)) (fun q => absurd ((own_clt yX yH _).mp q) (by omega))) hown (hw _ (List.mem_of_getElem? (i := 24) rfl)) (hw _ (List.mem_of_getElem? (i := 25) rfl)) (hw _ (List.mem_of_getElem? (i := 27) rfl)) (hw _ (List.mem_of_getElem? (i := 26) rfl)) (hw _ (List.mem_of_getElem? (i := 3) rfl)) (hw _ (List.mem_of_getElem? (i := 28) rfl)) (by decide) hE pd_3 rfl (by rw [hml]; rfl) rfl rfl rfl (hb hby at_142) (pc' := 145) rfl 0 (Nat.le_of_eq rfl) (by decide) (by decide) rfl rfl (by decide) (by decide) ?_
      intro T4 X4 e4
      show Dn p e below _ (T4.setTop (mkF m 145 #[.val (.int p1), .val (.int p2), .val (.int p3), .val (.int p4), .val (.int p5), .val (.int (p1 &&& (2147483647 : Int32))), .val (.int (p2 &&& (2147483647 : Int32))), .val (.double (FP.i2d (p1 &&& (2147483647 : Int32)))), .second, .val (.double (FP.dadd (FP.i2d (p1 &&& (2147483647 : Int32))) (FP.i2d (p2 &&& (2147483647 : Int32))))), .second, .val (.int (p4 &&& (3 : Int32))), .val (.double xU), .second, .val (.double (FP.i2d ((1 : Int32) <<< ((p5 &&& (15 : Int32)) &&& 31)))), .second, .val (.ref b1), .unset, .unset, .unset, .unset, .unset, .unset, .unset, .unset] [(.double FP.dconst1)]))
      refine o_dstore X4 hx (pc' := 147) (Ls' := #[.val (.int p1), .val (.int p2), .val (.int p3), .val (.int p4), .val (.int p5), .val (.int (p1 &&& (2147483647 : Int32))), .val (.int (p2 &&& (2147483647 : Int32))), .val (.double (FP.i2d (p1 &&& (2147483647 : Int32)))), .second, .val (.double (FP.dadd (FP.i2d (p1 &&& (2147483647 : Int32))) (FP.i2d (p2 &&& (2147483647 : Int32))))), .second, .val (.int (p4 &&& (3 : Int32))), .val (.double xU), .second, .val (.double (FP.i2d ((1 : Int32) <<< ((p5 &&& (15 : Int32)) &&& 31)))), .second, .val (.ref b1), .val (.double FP.dconst1), .second, .unset, .unset, .unset, .unset, .unset, .unset]) (hb hby at_145) rfl rfl ?_
      refine o_dload X4 hx (pc' := 149) (hb hby at_147) rfl rfl ?_
      refine o_dload X4 hx (pc' := 151) (hb hby at_149) rfl rfl ?_
      refine o_dcmp X4 hx (pc' := 152) (hb hby at_151) rfl ?_
      refine o_if_ge X4 hx (pc' := 155) (pt := 168) (hb hby at_152) rfl (by decide) (by decide) (fun _ => ?_) (fun q => absurd q (fun q => absurd ((own_clt yXU yLU _).mp q) (by omega)))
      refine o_dload X4 hx (pc' := 170) (hb hby at_168) rfl rfl ?_
      refine o_dload X4 hx (pc' := 172) (hb hby at_170) rfl rfl ?_
      refine o_dcmp X4 hx (pc' := 173) (hb hby at_172) rfl ?_
      refine o_if_lt X4 hx (pc' := 176) (pt := 189) (hb hby at_173) rfl (by decide) (by decide) (fun q => absurd q (fun q => absurd ((own_clt yXU yHU _).mp q) (by omega))) (fun _ => ?_)
      refine o_dload X4 hx (pc' := 178) (hb hby at_176) rfl rfl ?_
      refine o_dconst1 X4 hx (pc' := 179) (hb hby at_178) rfl ?_
      refine o_dcmp X4 hx (pc' := 180) (hb hby at_179) rfl ?_
      rw [show (cmpValue (FP.dcmp FP.dconst1 FP.dconst1) .l) = (0 : Int32) from own_veq own_f1.ne_nan own_f1.ne_nan rfl _]
      refine o_if_ne X4 hx (pc' := 183) (pt := 187) (hb hby at_180) rfl (by decide) (by decide) (fun q => absurd (by decide) q) (fun _ => ?_)
      refine o_iconst X4 hx (pc' := 184) (v := (1 : Int32)) (hb hby at_183) rfl rfl ?_
      refine o_goto X4 hx (pc' := 188) (hb hby at_184) (by decide) (by decide) ?_
      exact finN X4 hx hlk (t := .boolean) hret (by simp) (hb hby at_188) (by decide) (by decide) ⟨rfl, NN⟩
    · skip
      obtain ⟨r1, r2, r3, r4, r5, r6, r7, r8, r9, r10, r11, r12⟩ := own_road yX yL yH yXU yLU yWU hA hB mW2 (by omega)
      refine o_callVP X2 hx hZ b1 [(.double (FP.ddiv xU (FP.i2d ((1 : Int32) <<< ((p5 &&& (15 : Int32)) &&& 31)))))] (rmCD2 l Z a0 hw T2.heap n0 ZZ b1 (FP.ddiv xU (FP.i2d ((1 : Int32) <<< ((p5 &&& (15 : Int32)) &&& 31)))) (FP.ddiv (FP.i2d (p1 &&& (2147483647 : Int32))) (FP.i2d ((1 : Int32) <<< ((p5 &&& (15 : Int32)) &&& 31)))) (FP.ddiv (FP.dadd (FP.i2d (p1 &&& (2147483647 : Int32))) (FP.i2d (p2 &&& (2147483647 : Int32)))) (FP.i2d ((1 : Int32) <<< ((p5 &&& (15 : Int32)) &&& 31)))) hLo hHi (fun q => absurd ((own_clt yX yL _).mp q) (by omega)) ((own_clt yX yH _).mpr hB) r1.nn r2.nn (own_nn64 r3.ne_nan)) hown (hw _ (List.mem_of_getElem? (i := 24) rfl)) (hw _ (List.mem_of_getElem? (i := 25) rfl)) (hw _ (List.mem_of_getElem? (i := 27) rfl)) (hw _ (List.mem_of_getElem? (i := 26) rfl)) (hw _ (List.mem_of_getElem? (i := 3) rfl)) (hw _ (List.mem_of_getElem? (i := 28) rfl)) (by decide) hE pd_3 rfl (by rw [hml]; rfl) rfl rfl rfl (hb hby at_142) (pc' := 145) rfl 0 (Nat.le_of_eq rfl) (by decide) (by decide) rfl rfl (by decide) (by decide) ?_
      intro T5 X5 e5
      show Dn p e below _ (T5.setTop (mkF m 145 #[.val (.int p1), .val (.int p2), .val (.int p3), .val (.int p4), .val (.int p5), .val (.int (p1 &&& (2147483647 : Int32))), .val (.int (p2 &&& (2147483647 : Int32))), .val (.double (FP.i2d (p1 &&& (2147483647 : Int32)))), .second, .val (.double (FP.dadd (FP.i2d (p1 &&& (2147483647 : Int32))) (FP.i2d (p2 &&& (2147483647 : Int32))))), .second, .val (.int (p4 &&& (3 : Int32))), .val (.double xU), .second, .val (.double (FP.i2d ((1 : Int32) <<< ((p5 &&& (15 : Int32)) &&& 31)))), .second, .val (.ref b1), .unset, .unset, .unset, .unset, .unset, .unset, .unset, .unset] [(.double (FP.ddiv (FP.dsub (FP.ddiv xU (FP.i2d ((1 : Int32) <<< ((p5 &&& (15 : Int32)) &&& 31)))) (FP.ddiv (FP.i2d (p1 &&& (2147483647 : Int32))) (FP.i2d ((1 : Int32) <<< ((p5 &&& (15 : Int32)) &&& 31))))) (FP.dsub (FP.ddiv (FP.dadd (FP.i2d (p1 &&& (2147483647 : Int32))) (FP.i2d (p2 &&& (2147483647 : Int32)))) (FP.i2d ((1 : Int32) <<< ((p5 &&& (15 : Int32)) &&& 31)))) (FP.ddiv (FP.i2d (p1 &&& (2147483647 : Int32))) (FP.i2d ((1 : Int32) <<< ((p5 &&& (15 : Int32)) &&& 31)))))))]))
      refine o_dstore X5 hx (pc' := 147) (Ls' := #[.val (.int p1), .val (.int p2), .val (.int p3), .val (.int p4), .val (.int p5), .val (.int (p1 &&& (2147483647 : Int32))), .val (.int (p2 &&& (2147483647 : Int32))), .val (.double (FP.i2d (p1 &&& (2147483647 : Int32)))), .second, .val (.double (FP.dadd (FP.i2d (p1 &&& (2147483647 : Int32))) (FP.i2d (p2 &&& (2147483647 : Int32))))), .second, .val (.int (p4 &&& (3 : Int32))), .val (.double xU), .second, .val (.double (FP.i2d ((1 : Int32) <<< ((p5 &&& (15 : Int32)) &&& 31)))), .second, .val (.ref b1), .val (.double (FP.ddiv (FP.dsub (FP.ddiv xU (FP.i2d ((1 : Int32) <<< ((p5 &&& (15 : Int32)) &&& 31)))) (FP.ddiv (FP.i2d (p1 &&& (2147483647 : Int32))) (FP.i2d ((1 : Int32) <<< ((p5 &&& (15 : Int32)) &&& 31))))) (FP.dsub (FP.ddiv (FP.dadd (FP.i2d (p1 &&& (2147483647 : Int32))) (FP.i2d (p2 &&& (2147483647 : Int32)))) (FP.i2d ((1 : Int32) <<< ((p5 &&& (15 : Int32)) &&& 31)))) (FP.ddiv (FP.i2d (p1 &&& (2147483647 : Int32))) (FP.i2d ((1 : Int32) <<< ((p5 &&& (15 : Int32)) &&& 31))))))), .second, .unset, .unset, .unset, .unset, .unset, .unset]) (hb hby at_145) rfl rfl ?_
      refine o_dload X5 hx (pc' := 149) (hb hby at_147) rfl rfl ?_
      refine o_dload X5 hx (pc' := 151) (hb hby at_149) rfl rfl ?_
      refine o_dcmp X5 hx (pc' := 152) (hb hby at_151) rfl ?_
      refine o_if_ge X5 hx (pc' := 155) (pt := 168) (hb hby at_152) rfl (by decide) (by decide) (fun _ => ?_) (fun q => absurd q (fun q => absurd ((own_clt yXU yLU _).mp q) (by omega)))
      refine o_dload X5 hx (pc' := 170) (hb hby at_168) rfl rfl ?_
      refine o_dload X5 hx (pc' := 172) (hb hby at_170) rfl rfl ?_
      refine o_dcmp X5 hx (pc' := 173) (hb hby at_172) rfl ?_
      refine o_if_lt X5 hx (pc' := 176) (pt := 189) (hb hby at_173) rfl (by decide) (by decide) (fun _ => ?_) (fun q => absurd ((own_clt yXU yHU _).mpr hB) q)
      refine o_dload X5 hx (pc' := 191) (hb hby at_189) rfl rfl ?_
      refine o_dload X5 hx (pc' := 193) (hb hby at_191) rfl rfl ?_
      refine o_dsub X5 hx (pc' := 194) (hb hby at_193) rfl r5.nn ?_
      refine o_dstore X5 hx (pc' := 196) (Ls' := #[.val (.int p1), .val (.int p2), .val (.int p3), .val (.int p4), .val (.int p5), .val (.int (p1 &&& (2147483647 : Int32))), .val (.int (p2 &&& (2147483647 : Int32))), .val (.double (FP.i2d (p1 &&& (2147483647 : Int32)))), .second, .val (.double (FP.dadd (FP.i2d (p1 &&& (2147483647 : Int32))) (FP.i2d (p2 &&& (2147483647 : Int32))))), .second, .val (.int (p4 &&& (3 : Int32))), .val (.double xU), .second, .val (.double (FP.i2d ((1 : Int32) <<< ((p5 &&& (15 : Int32)) &&& 31)))), .second, .val (.ref b1), .val (.double (FP.ddiv (FP.dsub (FP.ddiv xU (FP.i2d ((1 : Int32) <<< ((p5 &&& (15 : Int32)) &&& 31)))) (FP.ddiv (FP.i2d (p1 &&& (2147483647 : Int32))) (FP.i2d ((1 : Int32) <<< ((p5 &&& (15 : Int32)) &&& 31))))) (FP.dsub (FP.ddiv (FP.dadd (FP.i2d (p1 &&& (2147483647 : Int32))) (FP.i2d (p2 &&& (2147483647 : Int32)))) (FP.i2d ((1 : Int32) <<< ((p5 &&& (15 : Int32)) &&& 31)))) (FP.ddiv (FP.i2d (p1 &&& (2147483647 : Int32))) (FP.i2d ((1 : Int32) <<< ((p5 &&& (15 : Int32)) &&& 31))))))), .second, .val (.double (FP.dsub xU (FP.i2d (p1 &&& (2147483647 : Int32))))), .second, .unset, .unset, .unset, .unset]) (hb hby at_194) rfl rfl ?_
      refine o_iload X5 hx (pc' := 198) (hb hby at_196) rfl rfl ?_
      refine o_i2d X5 hx (pc' := 199) (hb hby at_198) rfl ?_
      refine o_dstore X5 hx (pc' := 201) (Ls' := #[.val (.int p1), .val (.int p2), .val (.int p3), .val (.int p4), .val (.int p5), .val (.int (p1 &&& (2147483647 : Int32))), .val (.int (p2 &&& (2147483647 : Int32))), .val (.double (FP.i2d (p1 &&& (2147483647 : Int32)))), .second, .val (.double (FP.dadd (FP.i2d (p1 &&& (2147483647 : Int32))) (FP.i2d (p2 &&& (2147483647 : Int32))))), .second, .val (.int (p4 &&& (3 : Int32))), .val (.double xU), .second, .val (.double (FP.i2d ((1 : Int32) <<< ((p5 &&& (15 : Int32)) &&& 31)))), .second, .val (.ref b1), .val (.double (FP.ddiv (FP.dsub (FP.ddiv xU (FP.i2d ((1 : Int32) <<< ((p5 &&& (15 : Int32)) &&& 31)))) (FP.ddiv (FP.i2d (p1 &&& (2147483647 : Int32))) (FP.i2d ((1 : Int32) <<< ((p5 &&& (15 : Int32)) &&& 31))))) (FP.dsub (FP.ddiv (FP.dadd (FP.i2d (p1 &&& (2147483647 : Int32))) (FP.i2d (p2 &&& (2147483647 : Int32)))) (FP.i2d ((1 : Int32) <<< ((p5 &&& (15 : Int32)) &&& 31)))) (FP.ddiv (FP.i2d (p1 &&& (2147483647 : Int32))) (FP.i2d ((1 : Int32) <<< ((p5 &&& (15 : Int32)) &&& 31))))))), .second, .val (.double (FP.dsub xU (FP.i2d (p1 &&& (2147483647 : Int32))))), .second, .val (.double (FP.i2d (p2 &&& (2147483647 : Int32)))), .second, .unset, .unset]) (hb hby at_199) rfl rfl ?_
      refine o_dload X5 hx (pc' := 203) (hb hby at_201) rfl rfl ?_
      refine o_dload X5 hx (pc' := 205) (hb hby at_203) rfl rfl ?_
      refine o_dmul X5 hx (pc' := 206) (hb hby at_205) rfl (own_nn64 r4) ?_
      refine o_dstore X5 hx (pc' := 208) (Ls' := #[.val (.int p1), .val (.int p2), .val (.int p3), .val (.int p4), .val (.int p5), .val (.int (p1 &&& (2147483647 : Int32))), .val (.int (p2 &&& (2147483647 : Int32))), .val (.double (FP.i2d (p1 &&& (2147483647 : Int32)))), .second, .val (.double (FP.dadd (FP.i2d (p1 &&& (2147483647 : Int32))) (FP.i2d (p2 &&& (2147483647 : Int32))))), .second, .val (.int (p4 &&& (3 : Int32))), .val (.double xU), .second, .val (.double (FP.i2d ((1 : Int32) <<< ((p5 &&& (15 : Int32)) &&& 31)))), .second, .val (.ref b1), .val (.double (FP.ddiv (FP.dsub (FP.ddiv xU (FP.i2d ((1 : Int32) <<< ((p5 &&& (15 : Int32)) &&& 31)))) (FP.ddiv (FP.i2d (p1 &&& (2147483647 : Int32))) (FP.i2d ((1 : Int32) <<< ((p5 &&& (15 : Int32)) &&& 31))))) (FP.dsub (FP.ddiv (FP.dadd (FP.i2d (p1 &&& (2147483647 : Int32))) (FP.i2d (p2 &&& (2147483647 : Int32)))) (FP.i2d ((1 : Int32) <<< ((p5 &&& (15 : Int32)) &&& 31)))) (FP.ddiv (FP.i2d (p1 &&& (2147483647 : Int32))) (FP.i2d ((1 : Int32) <<< ((p5 &&& (15 : Int32)) &&& 31))))))), .second, .val (.double (FP.dsub xU (FP.i2d (p1 &&& (2147483647 : Int32))))), .second, .val (.double (FP.i2d (p2 &&& (2147483647 : Int32)))), .second, .val (.double (FP.dmul (FP.ddiv (FP.dsub (FP.ddiv xU (FP.i2d ((1 : Int32) <<< ((p5 &&& (15 : Int32)) &&& 31)))) (FP.ddiv (FP.i2d (p1 &&& (2147483647 : Int32))) (FP.i2d ((1 : Int32) <<< ((p5 &&& (15 : Int32)) &&& 31))))) (FP.dsub (FP.ddiv (FP.dadd (FP.i2d (p1 &&& (2147483647 : Int32))) (FP.i2d (p2 &&& (2147483647 : Int32)))) (FP.i2d ((1 : Int32) <<< ((p5 &&& (15 : Int32)) &&& 31)))) (FP.ddiv (FP.i2d (p1 &&& (2147483647 : Int32))) (FP.i2d ((1 : Int32) <<< ((p5 &&& (15 : Int32)) &&& 31)))))) (FP.i2d (p2 &&& (2147483647 : Int32))))), .second]) (hb hby at_206) rfl rfl ?_
      refine o_dload X5 hx (pc' := 210) (hb hby at_208) rfl rfl ?_
      refine o_dconst0 X5 hx (pc' := 211) (hb hby at_210) rfl ?_
      refine o_dcmp X5 hx (pc' := 212) (hb hby at_211) rfl ?_
      by_cases hXL : xV = (p1 &&& (2147483647 : Int32)).toInt
      · skip
        rw [show (cmpValue (FP.dcmp (FP.ddiv (FP.dsub (FP.ddiv xU (FP.i2d ((1 : Int32) <<< ((p5 &&& (15 : Int32)) &&& 31)))) (FP.ddiv (FP.i2d (p1 &&& (2147483647 : Int32))) (FP.i2d ((1 : Int32) <<< ((p5 &&& (15 : Int32)) &&& 31))))) (FP.dsub (FP.ddiv (FP.dadd (FP.i2d (p1 &&& (2147483647 : Int32))) (FP.i2d (p2 &&& (2147483647 : Int32)))) (FP.i2d ((1 : Int32) <<< ((p5 &&& (15 : Int32)) &&& 31)))) (FP.ddiv (FP.i2d (p1 &&& (2147483647 : Int32))) (FP.i2d ((1 : Int32) <<< ((p5 &&& (15 : Int32)) &&& 31)))))) FP.dconst0) .l) = (0 : Int32) from own_veq r3.ne_nan own_f0.ne_nan (r9 hXL) _]
        refine o_if_lt X5 hx (pc' := 215) (pt := 277) (hb hby at_212) rfl (by decide) (by decide) (fun q => absurd q (by decide)) (fun _ => ?_)
        refine o_dload X5 hx (pc' := 217) (hb hby at_215) rfl rfl ?_
        refine o_dconst1 X5 hx (pc' := 218) (hb hby at_217) rfl ?_
        refine o_dcmp X5 hx (pc' := 219) (hb hby at_218) rfl ?_
        rw [show (cmpValue (FP.dcmp (FP.ddiv (FP.dsub (FP.ddiv xU (FP.i2d ((1 : Int32) <<< ((p5 &&& (15 : Int32)) &&& 31)))) (FP.ddiv (FP.i2d (p1 &&& (2147483647 : Int32))) (FP.i2d ((1 : Int32) <<< ((p5 &&& (15 : Int32)) &&& 31))))) (FP.dsub (FP.ddiv (FP.dadd (FP.i2d (p1 &&& (2147483647 : Int32))) (FP.i2d (p2 &&& (2147483647 : Int32)))) (FP.i2d ((1 : Int32) <<< ((p5 &&& (15 : Int32)) &&& 31)))) (FP.ddiv (FP.i2d (p1 &&& (2147483647 : Int32))) (FP.i2d ((1 : Int32) <<< ((p5 &&& (15 : Int32)) &&& 31)))))) FP.dconst1) .g) = (-1 : Int32) from own_vlt r3.ne_nan own_f1.ne_nan r8 _]
        refine o_if_ge X5 hx (pc' := 222) (pt := 277) (hb hby at_219) rfl (by decide) (by decide) (fun q => absurd (by decide) q) (fun _ => ?_)
        refine o_dload X5 hx (pc' := 224) (hb hby at_222) rfl rfl ?_
        refine o_dconst0 X5 hx (pc' := 225) (hb hby at_224) rfl ?_
        refine o_dcmp X5 hx (pc' := 226) (hb hby at_225) rfl ?_
        rw [show (cmpValue (FP.dcmp (FP.ddiv (FP.dsub (FP.ddiv xU (FP.i2d ((1 : Int32) <<< ((p5 &&& (15 : Int32)) &&& 31)))) (FP.ddiv (FP.i2d (p1 &&& (2147483647 : Int32))) (FP.i2d ((1 : Int32) <<< ((p5 &&& (15 : Int32)) &&& 31))))) (FP.dsub (FP.ddiv (FP.dadd (FP.i2d (p1 &&& (2147483647 : Int32))) (FP.i2d (p2 &&& (2147483647 : Int32)))) (FP.i2d ((1 : Int32) <<< ((p5 &&& (15 : Int32)) &&& 31)))) (FP.ddiv (FP.i2d (p1 &&& (2147483647 : Int32))) (FP.i2d ((1 : Int32) <<< ((p5 &&& (15 : Int32)) &&& 31)))))) FP.dconst0) .l) = (0 : Int32) from own_veq r3.ne_nan own_f0.ne_nan (r9 hXL) _]
        refine o_if_ne X5 hx (pc' := 229) (pt := 233) (hb hby at_226) rfl (by decide) (by decide) (fun q => absurd (by decide) q) (fun _ => ?_)
        refine o_iconst X5 hx (pc' := 230) (v := (1 : Int32)) (hb hby at_229) rfl rfl ?_
        refine o_goto X5 hx (pc' := 234) (hb hby at_230) (by decide) (by decide) ?_
        refine o_dload X5 hx (pc' := 236) (hb hby at_234) rfl rfl ?_
        refine o_dconst0 X5 hx (pc' := 237) (hb hby at_236) rfl ?_
        refine o_dcmp X5 hx (pc' := 238) (hb hby at_237) rfl ?_
        rw [show (cmpValue (FP.dcmp (FP.dsub xU (FP.i2d (p1 &&& (2147483647 : Int32)))) FP.dconst0) .l) = (0 : Int32) from (own_ceq r5 (own_y0 0) _).mpr (by omega)]
        refine o_if_ne X5 hx (pc' := 241) (pt := 245) (hb hby at_238) rfl (by decide) (by decide) (fun q => absurd (by decide) q) (fun _ => ?_)
        refine o_iconst X5 hx (pc' := 242) (v := (1 : Int32)) (hb hby at_241) rfl rfl ?_
        refine o_goto X5 hx (pc' := 246) (hb hby at_242) (by decide) (by decide) ?_
        refine o_icmp_ne X5 hx (pc' := 249) (pt := 277) (hb hby at_246) rfl (by decide) (by decide) (fun q => absurd (by decide) q) (fun _ => ?_)
        refine o_dload X5 hx (pc' := 251) (hb hby at_249) rfl rfl ?_
        refine o_dload X5 hx (pc' := 253) (hb hby at_251) rfl rfl ?_
        refine o_ldc2d X5 hx hZ hown (hw _ (List.mem_of_getElem? (i := 29) rfl)) (pc' := 256) (hb hby at_253) rfl ?_
        refine o_dsub X5 hx (pc' := 257) (hb hby at_256) rfl (own_nn64 r6) ?_
        refine o_dcmp X5 hx (pc' := 258) (hb hby at_257) rfl ?_
        rw [show (cmpValue (FP.dcmp (FP.dmul (FP.ddiv (FP.dsub (FP.ddiv xU (FP.i2d ((1 : Int32) <<< ((p5 &&& (15 : Int32)) &&& 31)))) (FP.ddiv (FP.i2d (p1 &&& (2147483647 : Int32))) (FP.i2d ((1 : Int32) <<< ((p5 &&& (15 : Int32)) &&& 31))))) (FP.dsub (FP.ddiv (FP.dadd (FP.i2d (p1 &&& (2147483647 : Int32))) (FP.i2d (p2 &&& (2147483647 : Int32)))) (FP.i2d ((1 : Int32) <<< ((p5 &&& (15 : Int32)) &&& 31)))) (FP.ddiv (FP.i2d (p1 &&& (2147483647 : Int32))) (FP.i2d ((1 : Int32) <<< ((p5 &&& (15 : Int32)) &&& 31)))))) (FP.i2d (p2 &&& (2147483647 : Int32)))) (FP.dsub (FP.dsub xU (FP.i2d (p1 &&& (2147483647 : Int32)))) (4562254508917369340 : UInt64))) .l) = (1 : Int32) from own_vgt r4 r6 r11 _]
        refine o_if_le X5 hx (pc' := 261) (pt := 277) (hb hby at_258) rfl (by decide) (by decide) (fun q => absurd (by decide) q) (fun _ => ?_)
        refine o_dload X5 hx (pc' := 263) (hb hby at_261) rfl rfl ?_
        refine o_dload X5 hx (pc' := 265) (hb hby at_263) rfl rfl ?_
        refine o_ldc2d X5 hx hZ hown (hw _ (List.mem_of_getElem? (i := 29) rfl)) (pc' := 268) (hb hby at_265) rfl ?_
        refine o_dadd X5 hx (pc' := 269) (hb hby at_268) rfl (own_nn64 r7) ?_
        refine o_dcmp X5 hx (pc' := 270) (hb hby at_269) rfl ?_
        rw [show (cmpValue (FP.dcmp (FP.dmul (FP.ddiv (FP.dsub (FP.ddiv xU (FP.i2d ((1 : Int32) <<< ((p5 &&& (15 : Int32)) &&& 31)))) (FP.ddiv (FP.i2d (p1 &&& (2147483647 : Int32))) (FP.i2d ((1 : Int32) <<< ((p5 &&& (15 : Int32)) &&& 31))))) (FP.dsub (FP.ddiv (FP.dadd (FP.i2d (p1 &&& (2147483647 : Int32))) (FP.i2d (p2 &&& (2147483647 : Int32)))) (FP.i2d ((1 : Int32) <<< ((p5 &&& (15 : Int32)) &&& 31)))) (FP.ddiv (FP.i2d (p1 &&& (2147483647 : Int32))) (FP.i2d ((1 : Int32) <<< ((p5 &&& (15 : Int32)) &&& 31)))))) (FP.i2d (p2 &&& (2147483647 : Int32)))) (FP.dadd (FP.dsub xU (FP.i2d (p1 &&& (2147483647 : Int32)))) (4562254508917369340 : UInt64))) .g) = (-1 : Int32) from own_vlt r4 r7 r12 _]
        refine o_if_ge X5 hx (pc' := 273) (pt := 277) (hb hby at_270) rfl (by decide) (by decide) (fun q => absurd (by decide) q) (fun _ => ?_)
        refine o_iconst X5 hx (pc' := 274) (v := (1 : Int32)) (hb hby at_273) rfl rfl ?_
        refine o_goto X5 hx (pc' := 278) (hb hby at_274) (by decide) (by decide) ?_
        exact finN X5 hx hlk (t := .boolean) hret (by simp) (hb hby at_278) (by decide) (by decide) ⟨rfl, NN⟩
      · skip
        rw [show (cmpValue (FP.dcmp (FP.ddiv (FP.dsub (FP.ddiv xU (FP.i2d ((1 : Int32) <<< ((p5 &&& (15 : Int32)) &&& 31)))) (FP.ddiv (FP.i2d (p1 &&& (2147483647 : Int32))) (FP.i2d ((1 : Int32) <<< ((p5 &&& (15 : Int32)) &&& 31))))) (FP.dsub (FP.ddiv (FP.dadd (FP.i2d (p1 &&& (2147483647 : Int32))) (FP.i2d (p2 &&& (2147483647 : Int32)))) (FP.i2d ((1 : Int32) <<< ((p5 &&& (15 : Int32)) &&& 31)))) (FP.ddiv (FP.i2d (p1 &&& (2147483647 : Int32))) (FP.i2d ((1 : Int32) <<< ((p5 &&& (15 : Int32)) &&& 31)))))) FP.dconst0) .l) = (1 : Int32) from own_vgt r3.ne_nan own_f0.ne_nan (r10 hXL) _]
        refine o_if_lt X5 hx (pc' := 215) (pt := 277) (hb hby at_212) rfl (by decide) (by decide) (fun q => absurd q (by decide)) (fun _ => ?_)
        refine o_dload X5 hx (pc' := 217) (hb hby at_215) rfl rfl ?_
        refine o_dconst1 X5 hx (pc' := 218) (hb hby at_217) rfl ?_
        refine o_dcmp X5 hx (pc' := 219) (hb hby at_218) rfl ?_
        rw [show (cmpValue (FP.dcmp (FP.ddiv (FP.dsub (FP.ddiv xU (FP.i2d ((1 : Int32) <<< ((p5 &&& (15 : Int32)) &&& 31)))) (FP.ddiv (FP.i2d (p1 &&& (2147483647 : Int32))) (FP.i2d ((1 : Int32) <<< ((p5 &&& (15 : Int32)) &&& 31))))) (FP.dsub (FP.ddiv (FP.dadd (FP.i2d (p1 &&& (2147483647 : Int32))) (FP.i2d (p2 &&& (2147483647 : Int32)))) (FP.i2d ((1 : Int32) <<< ((p5 &&& (15 : Int32)) &&& 31)))) (FP.ddiv (FP.i2d (p1 &&& (2147483647 : Int32))) (FP.i2d ((1 : Int32) <<< ((p5 &&& (15 : Int32)) &&& 31)))))) FP.dconst1) .g) = (-1 : Int32) from own_vlt r3.ne_nan own_f1.ne_nan r8 _]
        refine o_if_ge X5 hx (pc' := 222) (pt := 277) (hb hby at_219) rfl (by decide) (by decide) (fun q => absurd (by decide) q) (fun _ => ?_)
        refine o_dload X5 hx (pc' := 224) (hb hby at_222) rfl rfl ?_
        refine o_dconst0 X5 hx (pc' := 225) (hb hby at_224) rfl ?_
        refine o_dcmp X5 hx (pc' := 226) (hb hby at_225) rfl ?_
        rw [show (cmpValue (FP.dcmp (FP.ddiv (FP.dsub (FP.ddiv xU (FP.i2d ((1 : Int32) <<< ((p5 &&& (15 : Int32)) &&& 31)))) (FP.ddiv (FP.i2d (p1 &&& (2147483647 : Int32))) (FP.i2d ((1 : Int32) <<< ((p5 &&& (15 : Int32)) &&& 31))))) (FP.dsub (FP.ddiv (FP.dadd (FP.i2d (p1 &&& (2147483647 : Int32))) (FP.i2d (p2 &&& (2147483647 : Int32)))) (FP.i2d ((1 : Int32) <<< ((p5 &&& (15 : Int32)) &&& 31)))) (FP.ddiv (FP.i2d (p1 &&& (2147483647 : Int32))) (FP.i2d ((1 : Int32) <<< ((p5 &&& (15 : Int32)) &&& 31)))))) FP.dconst0) .l) = (1 : Int32) from own_vgt r3.ne_nan own_f0.ne_nan (r10 hXL) _]
        refine o_if_ne X5 hx (pc' := 229) (pt := 233) (hb hby at_226) rfl (by decide) (by decide) (fun _ => ?_) (fun q => absurd q (by decide))
        refine o_iconst X5 hx (pc' := 234) (v := (0 : Int32)) (hb hby at_233) rfl rfl ?_
        refine o_dload X5 hx (pc' := 236) (hb hby at_234) rfl rfl ?_
        refine o_dconst0 X5 hx (pc' := 237) (hb hby at_236) rfl ?_
        refine o_dcmp X5 hx (pc' := 238) (hb hby at_237) rfl ?_
        rw [show (cmpValue (FP.dcmp (FP.dsub xU (FP.i2d (p1 &&& (2147483647 : Int32)))) FP.dconst0) .l) = (1 : Int32) from (by rw [own_cv r5 (own_y0 0), if_neg (by omega), if_neg (by omega)])]
        refine o_if_ne X5 hx (pc' := 241) (pt := 245) (hb hby at_238) rfl (by decide) (by decide) (fun _ => ?_) (fun q => absurd q (by decide))
        refine o_iconst X5 hx (pc' := 246) (v := (0 : Int32)) (hb hby at_245) rfl rfl ?_
        refine o_icmp_ne X5 hx (pc' := 249) (pt := 277) (hb hby at_246) rfl (by decide) (by decide) (fun q => absurd (by decide) q) (fun _ => ?_)
        refine o_dload X5 hx (pc' := 251) (hb hby at_249) rfl rfl ?_
        refine o_dload X5 hx (pc' := 253) (hb hby at_251) rfl rfl ?_
        refine o_ldc2d X5 hx hZ hown (hw _ (List.mem_of_getElem? (i := 29) rfl)) (pc' := 256) (hb hby at_253) rfl ?_
        refine o_dsub X5 hx (pc' := 257) (hb hby at_256) rfl (own_nn64 r6) ?_
        refine o_dcmp X5 hx (pc' := 258) (hb hby at_257) rfl ?_
        rw [show (cmpValue (FP.dcmp (FP.dmul (FP.ddiv (FP.dsub (FP.ddiv xU (FP.i2d ((1 : Int32) <<< ((p5 &&& (15 : Int32)) &&& 31)))) (FP.ddiv (FP.i2d (p1 &&& (2147483647 : Int32))) (FP.i2d ((1 : Int32) <<< ((p5 &&& (15 : Int32)) &&& 31))))) (FP.dsub (FP.ddiv (FP.dadd (FP.i2d (p1 &&& (2147483647 : Int32))) (FP.i2d (p2 &&& (2147483647 : Int32)))) (FP.i2d ((1 : Int32) <<< ((p5 &&& (15 : Int32)) &&& 31)))) (FP.ddiv (FP.i2d (p1 &&& (2147483647 : Int32))) (FP.i2d ((1 : Int32) <<< ((p5 &&& (15 : Int32)) &&& 31)))))) (FP.i2d (p2 &&& (2147483647 : Int32)))) (FP.dsub (FP.dsub xU (FP.i2d (p1 &&& (2147483647 : Int32)))) (4562254508917369340 : UInt64))) .l) = (1 : Int32) from own_vgt r4 r6 r11 _]
        refine o_if_le X5 hx (pc' := 261) (pt := 277) (hb hby at_258) rfl (by decide) (by decide) (fun q => absurd (by decide) q) (fun _ => ?_)
        refine o_dload X5 hx (pc' := 263) (hb hby at_261) rfl rfl ?_
        refine o_dload X5 hx (pc' := 265) (hb hby at_263) rfl rfl ?_
        refine o_ldc2d X5 hx hZ hown (hw _ (List.mem_of_getElem? (i := 29) rfl)) (pc' := 268) (hb hby at_265) rfl ?_
        refine o_dadd X5 hx (pc' := 269) (hb hby at_268) rfl (own_nn64 r7) ?_
        refine o_dcmp X5 hx (pc' := 270) (hb hby at_269) rfl ?_
        rw [show (cmpValue (FP.dcmp (FP.dmul (FP.ddiv (FP.dsub (FP.ddiv xU (FP.i2d ((1 : Int32) <<< ((p5 &&& (15 : Int32)) &&& 31)))) (FP.ddiv (FP.i2d (p1 &&& (2147483647 : Int32))) (FP.i2d ((1 : Int32) <<< ((p5 &&& (15 : Int32)) &&& 31))))) (FP.dsub (FP.ddiv (FP.dadd (FP.i2d (p1 &&& (2147483647 : Int32))) (FP.i2d (p2 &&& (2147483647 : Int32)))) (FP.i2d ((1 : Int32) <<< ((p5 &&& (15 : Int32)) &&& 31)))) (FP.ddiv (FP.i2d (p1 &&& (2147483647 : Int32))) (FP.i2d ((1 : Int32) <<< ((p5 &&& (15 : Int32)) &&& 31)))))) (FP.i2d (p2 &&& (2147483647 : Int32)))) (FP.dadd (FP.dsub xU (FP.i2d (p1 &&& (2147483647 : Int32)))) (4562254508917369340 : UInt64))) .g) = (-1 : Int32) from own_vlt r4 r7 r12 _]
        refine o_if_ge X5 hx (pc' := 273) (pt := 277) (hb hby at_270) rfl (by decide) (by decide) (fun q => absurd (by decide) q) (fun _ => ?_)
        refine o_iconst X5 hx (pc' := 274) (v := (1 : Int32)) (hb hby at_273) rfl rfl ?_
        refine o_goto X5 hx (pc' := 278) (hb hby at_274) (by decide) (by decide) ?_
        exact finN X5 hx hlk (t := .boolean) hret (by simp) (hb hby at_278) (by decide) (by decide) ⟨rfl, NN⟩
  refine o_if_ne X0 hx (pc' := 35) (pt := 42) (hb hby at_32) rfl (by decide) (by decide) (fun hc32 => ?_) (fun hc32 => ?_)
  · skip
    refine o_iload X0 hx (pc' := 44) (hb hby at_42) rfl rfl ?_
    refine o_iconst X0 hx (pc' := 45) (v := (1 : Int32)) (hb hby at_44) rfl rfl ?_
    refine o_icmp_ne X0 hx (pc' := 48) (pt := 74) (hb hby at_45) rfl (by decide) (by decide) (fun hc45 => ?_) (fun hc45 => ?_)
    · skip
      refine o_iload X0 hx (pc' := 76) (hb hby at_74) rfl rfl ?_
      refine o_iconst X0 hx (pc' := 77) (v := (2 : Int32)) (hb hby at_76) rfl rfl ?_
      refine o_icmp_ne X0 hx (pc' := 80) (pt := 87) (hb hby at_77) rfl (by decide) (by decide) (fun hc77 => ?_) (fun hc77 => ?_)
      · skip
        refine o_iloadN X0 hx (pc' := 88) (hb hby at_87) rfl rfl ?_
        refine o_if_ge X0 hx (pc' := 91) (pt := 99) (hb hby at_88) rfl (by decide) (by decide) (fun hc88 => ?_) (fun hc88 => ?_)
        · skip
          refine o_dload X0 hx (pc' := 101) (hb hby at_99) rfl rfl ?_
          refine o_iloadN X0 hx (pc' := 102) (hb hby at_101) rfl rfl ?_
          refine o_i2d X0 hx (pc' := 103) (hb hby at_102) rfl ?_
          refine o_dadd X0 hx (pc' := 104) (hb hby at_103) rfl (own_nn64 (FP.Core.DInt_ne_nan (own_addI dH (by omega) p3).1)) ?_
          refine o_dstore X0 hx (pc' := 106) (Ls' := #[.val (.int p1), .val (.int p2), .val (.int p3), .val (.int p4), .val (.int p5), .val (.int (p1 &&& (2147483647 : Int32))), .val (.int (p2 &&& (2147483647 : Int32))), .val (.double (FP.i2d (p1 &&& (2147483647 : Int32)))), .second, .val (.double (FP.dadd (FP.i2d (p1 &&& (2147483647 : Int32))) (FP.i2d (p2 &&& (2147483647 : Int32))))), .second, .val (.int (p4 &&& (3 : Int32))), .val (.double (FP.dadd (FP.dadd (FP.i2d (p1 &&& (2147483647 : Int32))) (FP.i2d (p2 &&& (2147483647 : Int32)))) (FP.i2d p3))), .second, .unset, .unset, .unset, .unset, .unset, .unset, .unset, .unset, .unset, .unset, .unset]) (hb hby at_104) rfl rfl ?_
          exact J _ _ (own_addI dH (by omega) p3).1 (own_addI dH (by omega) p3).2
        · skip
          refine o_dload X0 hx (pc' := 93) (hb hby at_91) rfl rfl ?_
          refine o_iloadN X0 hx (pc' := 94) (hb hby at_93) rfl rfl ?_
          refine o_i2d X0 hx (pc' := 95) (hb hby at_94) rfl ?_
          refine o_dadd X0 hx (pc' := 96) (hb hby at_95) rfl (own_nn64 (FP.Core.DInt_ne_nan (own_addI dL (by omega) p3).1)) ?_
          refine o_goto X0 hx (pc' := 104) (hb hby at_96) (by decide) (by decide) ?_
          refine o_dstore X0 hx (pc' := 106) (Ls' := #[.val (.int p1), .val (.int p2), .val (.int p3), .val (.int p4), .val (.int p5), .val (.int (p1 &&& (2147483647 : Int32))), .val (.int (p2 &&& (2147483647 : Int32))), .val (.double (FP.i2d (p1 &&& (2147483647 : Int32)))), .second, .val (.double (FP.dadd (FP.i2d (p1 &&& (2147483647 : Int32))) (FP.i2d (p2 &&& (2147483647 : Int32))))), .second, .val (.int (p4 &&& (3 : Int32))), .val (.double (FP.dadd (FP.i2d (p1 &&& (2147483647 : Int32))) (FP.i2d p3))), .second, .unset, .unset, .unset, .unset, .unset, .unset, .unset, .unset, .unset, .unset, .unset]) (hb hby at_104) rfl rfl ?_
          exact J _ _ (own_addI dL (by omega) p3).1 (own_addI dL (by omega) p3).2
      · skip
        refine o_dload X0 hx (pc' := 82) (hb hby at_80) rfl rfl ?_
        refine o_dstore X0 hx (pc' := 84) (Ls' := #[.val (.int p1), .val (.int p2), .val (.int p3), .val (.int p4), .val (.int p5), .val (.int (p1 &&& (2147483647 : Int32))), .val (.int (p2 &&& (2147483647 : Int32))), .val (.double (FP.i2d (p1 &&& (2147483647 : Int32)))), .second, .val (.double (FP.dadd (FP.i2d (p1 &&& (2147483647 : Int32))) (FP.i2d (p2 &&& (2147483647 : Int32))))), .second, .val (.int (p4 &&& (3 : Int32))), .val (.double (FP.dadd (FP.i2d (p1 &&& (2147483647 : Int32))) (FP.i2d (p2 &&& (2147483647 : Int32))))), .second, .unset, .unset, .unset, .unset, .unset, .unset, .unset, .unset, .unset, .unset, .unset]) (hb hby at_82) rfl rfl ?_
        refine o_goto X0 hx (pc' := 106) (hb hby at_84) (by decide) (by decide) ?_
        exact J _ _ dH (by omega)
    · skip
      refine o_iload X0 hx (pc' := 50) (hb hby at_48) rfl rfl ?_
      refine o_if_ne X0 hx (pc' := 53) (pt := 58) (hb hby at_50) rfl (by decide) (by decide) (fun hc50 => ?_) (fun hc50 => ?_)
      · skip
        refine o_dload X0 hx (pc' := 60) (hb hby at_58) rfl rfl ?_
        refine o_iloadN X0 hx (pc' := 61) (hb hby at_60) rfl rfl ?_
        refine o_ldc X0 hx hZ hown (hw _ (List.mem_of_getElem? (i := 0) rfl)) (pc' := 63) (hb hby at_61) rfl ?_
        refine o_iand X0 hx (pc' := 64) (hb hby at_63) rfl ?_
        refine o_iload X0 hx (pc' := 66) (hb hby at_64) rfl rfl ?_
        refine o_irem X0 hx (pc' := 67) (hb hby at_66) rfl hc50 ?_
        refine o_i2d X0 hx (pc' := 68) (hb hby at_67) rfl ?_
        refine o_dadd X0 hx (pc' := 69) (hb hby at_68) rfl (own_nn64 (FP.Core.DInt_ne_nan (own_addI dL (by omega) ((p3 &&& (2147483647 : Int32)) % (p2 &&& (2147483647 : Int32)))).1)) ?_
        refine o_dstore X0 hx (pc' := 71) (Ls' := #[.val (.int p1), .val (.int p2), .val (.int p3), .val (.int p4), .val (.int p5), .val (.int (p1 &&& (2147483647 : Int32))), .val (.int (p2 &&& (2147483647 : Int32))), .val (.double (FP.i2d (p1 &&& (2147483647 : Int32)))), .second, .val (.double (FP.dadd (FP.i2d (p1 &&& (2147483647 : Int32))) (FP.i2d (p2 &&& (2147483647 : Int32))))), .second, .val (.int (p4 &&& (3 : Int32))), .val (.double (FP.dadd (FP.i2d (p1 &&& (2147483647 : Int32))) (FP.i2d ((p3 &&& (2147483647 : Int32)) % (p2 &&& (2147483647 : Int32)))))), .second, .unset, .unset, .unset, .unset, .unset, .unset, .unset, .unset, .unset, .unset, .unset]) (hb hby at_69) rfl rfl ?_
        refine o_goto X0 hx (pc' := 106) (hb hby at_71) (by decide) (by decide) ?_
        exact J _ _ (own_addI dL (by omega) ((p3 &&& (2147483647 : Int32)) % (p2 &&& (2147483647 : Int32)))).1 (own_addI dL (by omega) ((p3 &&& (2147483647 : Int32)) % (p2 &&& (2147483647 : Int32)))).2
      · skip
        refine o_dload X0 hx (pc' := 55) (hb hby at_53) rfl rfl ?_
        refine o_goto X0 hx (pc' := 69) (hb hby at_55) (by decide) (by decide) ?_
        refine o_dstore X0 hx (pc' := 71) (Ls' := #[.val (.int p1), .val (.int p2), .val (.int p3), .val (.int p4), .val (.int p5), .val (.int (p1 &&& (2147483647 : Int32))), .val (.int (p2 &&& (2147483647 : Int32))), .val (.double (FP.i2d (p1 &&& (2147483647 : Int32)))), .second, .val (.double (FP.dadd (FP.i2d (p1 &&& (2147483647 : Int32))) (FP.i2d (p2 &&& (2147483647 : Int32))))), .second, .val (.int (p4 &&& (3 : Int32))), .val (.double (FP.i2d (p1 &&& (2147483647 : Int32)))), .second, .unset, .unset, .unset, .unset, .unset, .unset, .unset, .unset, .unset, .unset, .unset]) (hb hby at_69) rfl rfl ?_
        refine o_goto X0 hx (pc' := 106) (hb hby at_71) (by decide) (by decide) ?_
        exact J _ _ dL (by omega)
  · skip
    refine o_iloadN X0 hx (pc' := 36) (hb hby at_35) rfl rfl ?_
    refine o_i2d X0 hx (pc' := 37) (hb hby at_36) rfl ?_
    refine o_dstore X0 hx (pc' := 39) (Ls' := #[.val (.int p1), .val (.int p2), .val (.int p3), .val (.int p4), .val (.int p5), .val (.int (p1 &&& (2147483647 : Int32))), .val (.int (p2 &&& (2147483647 : Int32))), .val (.double (FP.i2d (p1 &&& (2147483647 : Int32)))), .second, .val (.double (FP.dadd (FP.i2d (p1 &&& (2147483647 : Int32))) (FP.i2d (p2 &&& (2147483647 : Int32))))), .second, .val (.int (p4 &&& (3 : Int32))), .val (.double (FP.i2d p3)), .second, .unset, .unset, .unset, .unset, .unset, .unset, .unset, .unset, .unset, .unset, .unset]) (hb hby at_37) rfl rfl ?_
    refine o_goto X0 hx (pc' := 106) (hb hby at_39) (by decide) (by decide) ?_
    exact J _ _ (FP.Core.i2d_int p3) (own_b31 p3)
set_option maxRecDepth 65536 in
set_option maxHeartbeats 40000000 in
theorem comes_1 {Post : Tables → Env → Array Value → State → Outcome → State → Prop} (hpost : ∀ tb e args s v u, (limb_1_1.after args s (.returned v) u = true ∧ limb_1_2.after args s (.returned v) u = true ∧ True) → FrameEnd s (.returned v) u (Jvm.fieldLocs frame_1_writes args s ++ Jvm.arrayLocs frame_1_arrays args s ++ Jvm.staticLocs frame_1_statics s) 16 128 → Post tb e args s (.returned v) u) :
    ArmFor flags0 classFile x code maxLocals ret World_1 tables_1 room_1 Calls_1 rest_1 Pre_1 Post := by
  intro l hfl _ _ p e ha hc hk s m args below hf hA hF happ hP
  obtain ⟨hcalls, hrest, hpre⟩ := hP
  obtain ⟨-, -, -, hnamed, -, -, -, hat⟩ := (Spec.applies_iff hf).mp happ
  obtain ⟨hg, hn⟩ := and_e (Cond.before_iff.mp (show (Jvm.Cond.and given_1 narrow_1).before args s = true from hpre))
  obtain ⟨g0, r0⟩ := and_e hg
  obtain ⟨g1, r1⟩ := and_e r0
  obtain ⟨g2, r2⟩ := and_e r1
  obtain ⟨g3, r3⟩ := and_e r2
  obtain ⟨g4, r4⟩ := and_e r3
  have g5 := r4
  obtain ⟨w0, w1, w2, w3, w4, rfl⟩ : ∃ w0 w1 w2 w3 w4 : Value, args = #[w0, w1, w2, w3, w4] := by
    have hs : args.size = 5 := by simpa [Cond.value, given_1] using g0
    obtain ⟨L⟩ := args
    match L, hs with
    | [w0, w1, w2, w3, w4], _ => exact ⟨w0, w1, w2, w3, w4, rfl⟩
  have hw := fun d (hd : d ∈ tables_1) => atoms_spec (ws := Jvm.Cond.code x code maxLocals ret :: tables_1) hat d (List.mem_cons_of_mem _ hd)
  have hfit : Fit s := fun {y c} hc i hi => by
    obtain ⟨ha, rfl⟩ := Array.getElem?_eq_some_iff.mp hc
    have q := List.all_eq_true.mp ((Array.all_eq_true_iff_forall_mem.mp hF) _ (Array.getElem_mem ha)) i (List.mem_range.mpr hi)
    simpa [Array.getElem?_eq_getElem hi] using q
  obtain ⟨i0, ei0⟩ := is_v g1
  obtain rfl : w0 = (.int i0) := Option.some.inj ei0
  obtain ⟨i1, ei1⟩ := is_v g2
  obtain rfl : w1 = (.int i1) := Option.some.inj ei1
  obtain ⟨i2, ei2⟩ := is_v g3
  obtain rfl : w2 = (.int i2) := Option.some.inj ei2
  obtain ⟨i3, ei3⟩ := is_v g4
  obtain rfl : w3 = (.int i3) := Option.some.inj ei3
  obtain ⟨i4, ei4⟩ := is_v g5
  obtain rfl : w4 = (.int i4) := Option.some.inj ei4
  obtain ⟨n, o, h1, h2, h3, v, L, rfl, hQ, hq⟩ := rm0 l s _ hw tables_1 s.heap s.heap.size (Nat.le_refl _) i0 i1 i2 i3 i4 p e ha hc hk s m _ below hf ((Spec.applies_iff_loose hf).mp happ).1 ⟨rfl, State.Warmed39.refl s, rfl⟩ trivial
  obtain ⟨rfl, N⟩ := hQ
  refine ⟨n, _, h1, h2, h3, hpost _ _ _ _ _ _ ⟨Cond.after_iff.mpr rfl, Cond.after_iff.mpr (eq_i res_at (Term.int_eval (1)) rfl), trivial⟩ ⟨hq.1, hq.2.1, (hq.2.2.sift fun y hy => Or.inr (N y hy)).mono (by decide) (by decide)⟩⟩
theorem main_1_1 : Claimed_1_1 := comes_1 fun _ _ _ _ _ _ h hF => ⟨h.1, hF⟩
theorem main_1_2 : Claimed_1_2 := comes_1 fun _ _ _ _ _ _ h hF => ⟨h.2.1, hF⟩
end Jvm.Pilot.@@N@@
namespace Jvm.Pilot.@@N@@
open Jvm Jvm.ClassFile Sem Op Lib Jvm.Free Jvm.Stand Jvm.Pilot.@@N@@.Jvm.D
/-! MADE BY PROGRAM (witnessworld.py) out of the Statement's table words and the real class files: 12 classes; the members and pool entries that the words name. The judged class is class 1, her method 1. -/
namespace start1
open Jvm.ClassFile
def u (s : String) : CpInfo := .utf8 (stringToUtf16 s)
/-- a pool by its gaps: so many unusable entries, then the entry; so many at the end -/
def gap : Nat → List CpInfo → List CpInfo
  | 0, r => r
  | n + 1, r => .unusable :: gap n r
def poolList (es : List (Nat × CpInfo)) (last : Nat) : List CpInfo := es.foldr (fun e r => gap e.1 (e.2 :: r)) (gap last [])
def pool (es : List (Nat × CpInfo)) (last : Nat) : Array CpInfo := ⟨poolList es last⟩
def fileOf (pool : Array CpInfo) (this : Nat) (attrs : Array Attribute := #[]) (ms : Array MethodInfo := #[]) (fl : Nat := 33) (sup : Nat := 0) (ifs : Array Nat := #[]) (fds : Array FieldInfo := #[]) : ClassFile where
  minorVersion := 0
  majorVersion := 65
  constantPool := pool
  accessFlags := fl
  thisClass := this
  superClass := sup
  interfaces := ifs
  fields := fds
  methods := ms
  attributes := attrs
def plain (name : String) (sup : Option ClassId) : Class where
  name := name
  kind := .ordinary
  loader := none
  accessFlags := 33
  super := sup
  interfaces := #[]
  cf := none
  fields := #[]
  methods := #[]
  instanceTypes := #[]
  staticTypes := #[]
  resolved := #[]
  callSites := []
  init := .initialized
  statics := none
  mirror := none

def pool0 : Array CpInfo := pool [(5, u "<init>"), (0, u "()V"), (1, .class_ 10), (1, u "java/lang/Object")] 113

def k0c0 : Code := { maxStack := 0, maxLocals := 1, code := object_method_1_code, exceptionTable := #[], attributes := #[] }
def k0m0 : Method := { name := "<init>", desc := "()V", sig := { parameters := [], returnType := none }, accessFlags := 1, code := some k0c0 }
/-- java/lang/Object -/
def k0 : Class := { plain "java/lang/Object" none with
  accessFlags := 33
  interfaces := #[]
  cf := some (fileOf pool0 8 #[] #[{ accessFlags := 1, nameIndex := 5, descriptorIndex := 6, attributes := #[] }] 33 0 #[] #[])
  fields := #[]
  methods := #[k0m0]
  instanceTypes := #[]
  staticTypes := #[]
  resolved := Array.replicate 124 none
  statics := none }

def pool1 : Array CpInfo := pool [(2, .class_ 4), (1, u "java/lang/Object"), (0, u "<init>"), (0, u "()V"), (0, .integer 2147483647), (0, .class_ 9), (0, u "com/example/bellwether/bellwether/planner/RuntimeDistribution$Uniform"), (0, .methodref 8 11), (0, .nameAndType 5 12), (0, u "(DD)V"), (0, .methodref 8 14), (0, .nameAndType 15 16), (0, u "cdf"), (0, u "(D)D"), (0, .double 4562254508917369340), (1, .class_ 20), (0, u "com/example/bellwether/bellwether/planner/UniformCdfPinLaw"), (2, u "law"), (0, u "(IIIII)Z")] 7

def k1m0 : Method := { name := "<init>", desc := "()V", sig := { parameters := [], returnType := none }, accessFlags := 1, code := none }
def k1c1 : Code := { maxStack := 8, maxLocals := 25, code := code, exceptionTable := #[], attributes := #[] }
def k1m1 : Method := { name := "law", desc := "(IIIII)Z", sig := { parameters := [.int, .int, .int, .int, .int], returnType := some .boolean }, accessFlags := 9, code := some k1c1 }
/-- com/example/bellwether/bellwether/planner/UniformCdfPinLaw -/
def k1 : Class := { plain "com/example/bellwether/bellwether/planner/UniformCdfPinLaw" (some 0) with
  accessFlags := 49
  interfaces := #[]
  cf := some (fileOf pool1 19 #[] #[{ accessFlags := 1, nameIndex := 5, descriptorIndex := 6, attributes := #[] }, { accessFlags := 9, nameIndex := 23, descriptorIndex := 24, attributes := #[] }] 49 2 #[] #[])
  fields := #[]
  methods := #[k1m0, k1m1]
  instanceTypes := #[]
  staticTypes := #[]
  resolved := Array.replicate 32 none
  statics := none }

def pool2 : Array CpInfo := pool [(1, .methodref 2 3), (0, .class_ 4), (0, .nameAndType 5 6), (0, u "java/lang/Object"), (0, u "<init>"), (0, u "()V"), (0, .class_ 8), (0, u "java/lang/Record")] 13

def k2c0 : Code := { maxStack := 1, maxLocals := 1, code := jdk_30_method_1_code, exceptionTable := #[], attributes := #[] }
def k2m0 : Method := { name := "<init>", desc := "()V", sig := { parameters := [], returnType := none }, accessFlags := 4, code := some k2c0 }
/-- java/lang/Record -/
def k2 : Class := { plain "java/lang/Record" (some 0) with
  accessFlags := 1057
  interfaces := #[]
  cf := some (fileOf pool2 7 #[] #[{ accessFlags := 4, nameIndex := 5, descriptorIndex := 6, attributes := #[] }] 1057 2 #[] #[])
  fields := #[]
  methods := #[k2m0]
  instanceTypes := #[]
  staticTypes := #[]
  resolved := Array.replicate 22 none
  statics := none }

def pool3 : Array CpInfo := pool [(2, .class_ 4), (1, u "com/example/bellwether/bellwether/planner/RuntimeDistribution"), (2, .class_ 8), (0, u "com/example/bellwether/bellwether/planner/RuntimeDistribution$Left"), (37, .class_ 47), (0, u "com/example/bellwether/bellwether/planner/RuntimeDistribution$Uniform"), (3, .class_ 52), (0, u "com/example/bellwether/bellwether/planner/RuntimeDistribution$Binned"), (3, .class_ 57), (0, u "com/example/bellwether/bellwether/planner/RuntimeDistribution$Mixture"), (3, .class_ 62), (0, u "java/lang/Object")] 25

/-- com/example/bellwether/bellwether/planner/RuntimeDistribution -/
def k3 : Class := { plain "com/example/bellwether/bellwether/planner/RuntimeDistribution" (some 0) with
  accessFlags := 1537
  interfaces := #[]
  cf := some (fileOf pool3 2 #[.nestMembers #[7, 56, 51, 46]] #[] 1537 61 #[] #[])
  fields := #[]
  methods := #[]
  instanceTypes := #[]
  staticTypes := #[]
  resolved := Array.replicate 88 none
  statics := none }

def pool4 : Array CpInfo := pool [(1, .methodref 2 3), (0, .class_ 4), (0, .nameAndType 5 6), (0, u "java/lang/Record"), (0, u "<init>"), (0, u "()V"), (0, .methodref 8 9), (0, .class_ 10), (0, .nameAndType 11 12), (0, u "com/example/bellwether/bellwether/workload/Task"), (0, u "requireRuntime"), (0, u "(D)V"), (9, .fieldref 23 24), (0, .class_ 25), (0, .nameAndType 26 27), (0, u "com/example/bellwether/bellwether/planner/RuntimeDistribution$Uniform"), (0, u "low"), (0, u "D"), (0, .fieldref 23 29), (0, .nameAndType 30 27), (0, u "high"), (4, u "cdf"), (0, u "(D)D"), (12, .class_ 50), (0, u "com/example/bellwether/bellwether/planner/RuntimeDistribution"), (0, u "(DD)V")] 41

def k4c0 : Code := { maxStack := 6, maxLocals := 5, code := prog_129_method_1_code, exceptionTable := #[], attributes := #[] }
def k4m0 : Method := { name := "<init>", desc := "(DD)V", sig := { parameters := [.double, .double], returnType := none }, accessFlags := 1, code := some k4c0 }
def k4c1 : Code := { maxStack := 6, maxLocals := 3, code := prog_129_method_2_code, exceptionTable := #[], attributes := #[] }
def k4m1 : Method := { name := "cdf", desc := "(D)D", sig := { parameters := [.double], returnType := some .double }, accessFlags := 1, code := some k4c1 }
/-- com/example/bellwether/bellwether/planner/RuntimeDistribution$Uniform -/
def k4 : Class := { plain "com/example/bellwether/bellwether/planner/RuntimeDistribution$Uniform" (some 2) with
  accessFlags := 49
  interfaces := #[3]
  cf := some (fileOf pool4 23 #[.nestHost 49] #[{ accessFlags := 1, nameIndex := 5, descriptorIndex := 51, attributes := #[] }, { accessFlags := 1, nameIndex := 35, descriptorIndex := 36, attributes := #[] }] 49 2 #[49] #[{ accessFlags := 18, nameIndex := 26, descriptorIndex := 27, attributes := #[] }, { accessFlags := 18, nameIndex := 30, descriptorIndex := 27, attributes := #[] }])
  fields := #[{ name := "low", type := .double, accessFlags := 18, slot := 0, constantValue := 0 }, { name := "high", type := .double, accessFlags := 18, slot := 1, constantValue := 0 }]
  methods := #[k4m0, k4m1]
  instanceTypes := #[.double, .double]
  staticTypes := #[]
  resolved := Array.replicate 93 none
  statics := none }

def pool5 : Array CpInfo := pool [(2, .class_ 4), (1, u "java/lang/Record"), (24, .class_ 31), (1, u "com/example/bellwether/bellwether/workload/Task"), (0, u "requireRuntime"), (0, u "(D)V"), (2, u "name"), (0, u "Ljava/lang/String;"), (2, u "request"), (0, u "Lcom/example/bellwether/bellwether/cluster/Request;"), (2, u "arrival"), (0, u "D"), (2, u "runtime"), (0, .double 9218868437227405312), (17, u "MAX_TIME")] 51

def k5c0 : Code := { maxStack := 4, maxLocals := 2, code := prog_204_method_2_code, exceptionTable := #[], attributes := #[] }
def k5m0 : Method := { name := "requireRuntime", desc := "(D)V", sig := { parameters := [.double], returnType := none }, accessFlags := 9, code := some k5c0 }
/-- com/example/bellwether/bellwether/workload/Task -/
def k5 : Class := { plain "com/example/bellwether/bellwether/workload/Task" (some 2) with
  accessFlags := 49
  interfaces := #[]
  cf := some (fileOf pool5 29 #[] #[{ accessFlags := 9, nameIndex := 32, descriptorIndex := 33, attributes := #[] }] 49 2 #[] #[{ accessFlags := 18, nameIndex := 36, descriptorIndex := 37, attributes := #[] }, { accessFlags := 18, nameIndex := 40, descriptorIndex := 41, attributes := #[] }, { accessFlags := 18, nameIndex := 44, descriptorIndex := 45, attributes := #[] }, { accessFlags := 18, nameIndex := 48, descriptorIndex := 45, attributes := #[] }, { accessFlags := 25, nameIndex := 67, descriptorIndex := 45, attributes := #[] }])
  fields := #[{ name := "name", type := (.object "java/lang/String"), accessFlags := 18, slot := 0, constantValue := 0 }, { name := "request", type := (.object "com/example/bellwether/bellwether/cluster/Request"), accessFlags := 18, slot := 1, constantValue := 0 }, { name := "arrival", type := .double, accessFlags := 18, slot := 2, constantValue := 0 }, { name := "runtime", type := .double, accessFlags := 18, slot := 3, constantValue := 0 }, { name := "MAX_TIME", type := .double, accessFlags := 25, slot := 0, constantValue := 0 }]
  methods := #[k5m0]
  instanceTypes := #[(.object "java/lang/String"), (.object "com/example/bellwether/bellwether/cluster/Request"), .double, .double]
  staticTypes := #[.double]
  resolved := Array.replicate 119 none
  statics := none }

def pool6 : Array CpInfo := pool [(1, u "java/lang/Cloneable"), (0, .class_ 1), (0, u "java/lang/Object"), (0, .class_ 3)] 3

/-- java/lang/Cloneable -/
def k6 : Class := { plain "java/lang/Cloneable" (some 0) with
  accessFlags := 1537
  interfaces := #[]
  cf := some (fileOf pool6 2 #[] #[] 1537 4 #[] #[])
  fields := #[]
  methods := #[]
  instanceTypes := #[]
  staticTypes := #[]
  resolved := Array.replicate 8 none
  statics := none }

def pool7 : Array CpInfo := pool [(1, u "java/io/Serializable"), (0, .class_ 1), (0, u "java/lang/Object"), (0, .class_ 3)] 3

/-- java/io/Serializable -/
def k7 : Class := { plain "java/io/Serializable" (some 0) with
  accessFlags := 1537
  interfaces := #[]
  cf := some (fileOf pool7 2 #[] #[] 1537 4 #[] #[])
  fields := #[]
  methods := #[]
  instanceTypes := #[]
  staticTypes := #[]
  resolved := Array.replicate 8 none
  statics := none }

/-- the primitive byte -/
def k8 : Class := { plain "byte" none with kind := .primitive 'B', accessFlags := 0x411 }
/-- [B -/
def k9 : Class := { plain "[B" (some 0) with kind := .array 8 .byte, interfaces := #[6, 7], accessFlags := 1041 }

/-- the primitive int -/
def k10 : Class := { plain "int" none with kind := .primitive 'I', accessFlags := 0x411 }
/-- [I -/
def k11 : Class := { plain "[I" (some 0) with kind := .array 10 .int, interfaces := #[6, 7], accessFlags := 1041 }

def heap : Heap := #[]
def classes : Array Class := #[k0, k1, k2, k3, k4, k5, k6, k7, k8, k9, k10, k11]
def interned : List (Array UInt16 × Addr) := []
def slotsUsed : Nat := 0
def theMethod : MethodId := ⟨1, 1⟩
def args0 : Array Value := #[.int 3, .int 11, .int 12, .int 13, .int 14]
def aboutOver (below : List Frame) : State where
  vm := { classes := classes, interned := interned.toArray }
  heap := heap
  slotsUsed := slotsUsed
  threads := #[{ frames := .invoking theMethod args0 :: below }]
def below0 : List Frame := [.native { method := ⟨0, 0⟩, args := #[] }]
def about1 : State := aboutOver below0
def p0 : Program := .bare "" "" ""
def e0 : Env := launch0.env 0 0 0
theorem w_frames : about1.frames = Frame.invoking theMethod args0 :: below0 := rfl
set_option maxRecDepth 65536 in
theorem w_args : argsFit about1.vm theMethod args0 = true := by decide +kernel
set_option maxRecDepth 65536 in
theorem w_heap : heapFits about1 = true := by decide +kernel
set_option maxRecDepth 65536 in
theorem w_runnable : about1.curStatus? = some .runnable := by decide +kernel
set_option maxRecDepth 65536 in
theorem w_alone : about1.alone = true := by decide +kernel
set_option maxRecDepth 65536 in
theorem w_named : about1.methodNamed? x = some theMethod := by decide +kernel
set_option maxRecDepth 65536 in
theorem w_hears : about1.hears theMethod below0 = true := by decide +kernel
set_option maxRecDepth 65536 in
theorem w_ripe : about1.ripe theMethod args0 below0 = true := by decide +kernel
theorem w_running : about1.status = .running := rfl
set_option maxRecDepth 65536 in
theorem w_room : about1.hasRoom e0.platform room_1 = true :=
  launch0.hasRoom_least _ room_1 (by decide +kernel) (by decide +kernel) (by decide +kernel) (by decide +kernel) (by decide +kernel) (by decide +kernel)
theorem allAtoms_all (ts : List Jvm.Cond) (a : Array Jvm.Value) (st : Jvm.State) : (allAtoms ts).before a st = ts.all (fun c => c.before a st) := by
  induction ts with
  | nil => rfl
  | cons c t ih =>
    show (Jvm.Cond.and c (allAtoms t)).before a st = _
    rw [Jvm.Cond.before_and, ih, List.all_cons]
def words1 : List Jvm.Cond := Jvm.Cond.code x code maxLocals ret :: tables_1
/-- a 'code' word, met by the world's own term for the bytes: nothing is compared byte by byte -/
theorem code_word {y : MethodName} {bytes : ByteArray} {mx : Nat} {rt : Option FieldType} {a : Array Value} {s : State} {m : MethodId} {meth : Method} {c : Code} (h1 : s.methodNamed? y = some m) (h2 : s.vm.method? m = some meth) (h3 : meth.code = some c) (h4 : c.code = bytes)
    (h5 : (c.maxLocals == mx && c.exceptionTable.isEmpty && decide (c.maxStack ≤ mostOperands) && decide (meth.sig.returnType = rt) && !meth.locks && decide (parseMethodDescriptor y.desc = some meth.sig)) = true) : (Jvm.Cond.code y bytes mx rt).before a s = true := by
  simp only [Bool.and_eq_true, beq_iff_eq, Bool.not_eq_true', decide_eq_true_eq] at h5
  obtain ⟨⟨⟨⟨⟨g1, g2⟩, g3⟩, g4⟩, g5⟩, g6⟩ := h5
  simp [Cond.before, Cond.holds, Cond.value, h1, h2, h3, h4, g1, g2, g3, g4, g5, g6]
def isCode : Jvm.Cond → Bool
  | .code _ _ _ _ => true
  | _ => false
theorem all_split {L : List Jvm.Cond} {P : Jvm.Cond → Bool} (h1 : L.all (fun c => isCode c || P c) = true) (h2 : ∀ c ∈ L.filter isCode, P c = true) : L.all P = true := by
  refine List.all_eq_true.mpr fun c hc => ?_
  have h := List.all_eq_true.mp h1 c hc
  rcases Bool.eq_false_or_eq_true (isCode c) with hi | hi
  · exact h2 c (List.mem_filter.mpr ⟨hc, hi⟩)
  · simpa [hi] using h
set_option maxRecDepth 65536 in
theorem w_c0 : (Jvm.Cond.code x code maxLocals ret).before args0 about1 = true := code_word (m := ⟨1, 1⟩) (meth := k1m1) (c := k1c1) (by decide +kernel) rfl rfl rfl (by decide +kernel)
set_option maxRecDepth 65536 in
theorem w_c1 : (Jvm.Cond.code ({ cls := "com/example/bellwether/bellwether/planner/RuntimeDistribution$Uniform", name := "<init>", desc := "(DD)V" } : Jvm.MethodName) prog_129_method_1_code (5 : Nat) (Option.none : Option Jvm.ClassFile.FieldType)).before args0 about1 = true := code_word (m := ⟨4, 0⟩) (meth := k4m0) (c := k4c0) (by decide +kernel) rfl rfl rfl (by decide +kernel)
set_option maxRecDepth 65536 in
theorem w_c2 : (Jvm.Cond.code ({ cls := "java/lang/Record", name := "<init>", desc := "()V" } : Jvm.MethodName) jdk_30_method_1_code (1 : Nat) (Option.none : Option Jvm.ClassFile.FieldType)).before args0 about1 = true := code_word (m := ⟨2, 0⟩) (meth := k2m0) (c := k2c0) (by decide +kernel) rfl rfl rfl (by decide +kernel)
set_option maxRecDepth 65536 in
theorem w_c3 : (Jvm.Cond.code ({ cls := "java/lang/Object", name := "<init>", desc := "()V" } : Jvm.MethodName) object_method_1_code (1 : Nat) (Option.none : Option Jvm.ClassFile.FieldType)).before args0 about1 = true := code_word (m := ⟨0, 0⟩) (meth := k0m0) (c := k0c0) (by decide +kernel) rfl rfl rfl (by decide +kernel)
set_option maxRecDepth 65536 in
theorem w_c4 : (Jvm.Cond.code ({ cls := "com/example/bellwether/bellwether/workload/Task", name := "requireRuntime", desc := "(D)V" } : Jvm.MethodName) prog_204_method_2_code (2 : Nat) (Option.none : Option Jvm.ClassFile.FieldType)).before args0 about1 = true := code_word (m := ⟨5, 0⟩) (meth := k5m0) (c := k5c0) (by decide +kernel) rfl rfl rfl (by decide +kernel)
set_option maxRecDepth 65536 in
theorem w_c5 : (Jvm.Cond.code ({ cls := "com/example/bellwether/bellwether/planner/RuntimeDistribution$Uniform", name := "cdf", desc := "(D)D" } : Jvm.MethodName) prog_129_method_2_code (3 : Nat) (Option.some Jvm.ClassFile.FieldType.double)).before args0 about1 = true := code_word (m := ⟨4, 1⟩) (meth := k4m1) (c := k4c1) (by decide +kernel) rfl rfl rfl (by decide +kernel)
def codes1 : List Jvm.Cond := [Jvm.Cond.code x code maxLocals ret, Jvm.Cond.code ({ cls := "com/example/bellwether/bellwether/planner/RuntimeDistribution$Uniform", name := "<init>", desc := "(DD)V" } : Jvm.MethodName) prog_129_method_1_code (5 : Nat) (Option.none : Option Jvm.ClassFile.FieldType), Jvm.Cond.code ({ cls := "java/lang/Record", name := "<init>", desc := "()V" } : Jvm.MethodName) jdk_30_method_1_code (1 : Nat) (Option.none : Option Jvm.ClassFile.FieldType), Jvm.Cond.code ({ cls := "java/lang/Object", name := "<init>", desc := "()V" } : Jvm.MethodName) object_method_1_code (1 : Nat) (Option.none : Option Jvm.ClassFile.FieldType), Jvm.Cond.code ({ cls := "com/example/bellwether/bellwether/workload/Task", name := "requireRuntime", desc := "(D)V" } : Jvm.MethodName) prog_204_method_2_code (2 : Nat) (Option.none : Option Jvm.ClassFile.FieldType), Jvm.Cond.code ({ cls := "com/example/bellwether/bellwether/planner/RuntimeDistribution$Uniform", name := "cdf", desc := "(D)D" } : Jvm.MethodName) prog_129_method_2_code (3 : Nat) (Option.some Jvm.ClassFile.FieldType.double)]
set_option maxRecDepth 65536 in
theorem codes_eq : words1.filter isCode = codes1 := rfl
theorem w_codes : ∀ c ∈ words1.filter isCode, c.before args0 about1 = true := by
  rw [codes_eq]
  intro c hc
  simp only [codes1, List.mem_cons, List.not_mem_nil, or_false] at hc
  rcases hc with rfl | rfl | rfl | rfl | rfl | rfl
  · exact w_c0
  · exact w_c1
  · exact w_c2
  · exact w_c3
  · exact w_c4
  · exact w_c5
set_option maxRecDepth 65536 in
theorem w_t1 : (words1.take 24).all (fun c => isCode c || c.before args0 about1) = true := by decide +kernel
set_option maxRecDepth 65536 in
theorem w_t2 : (words1.drop 24).all (fun c => isCode c || c.before args0 about1) = true := by decide +kernel
theorem w_tables : (allAtoms (Jvm.Cond.code x code maxLocals ret :: tables_1)).before args0 about1 = true := by
  rw [allAtoms_all]
  show words1.all (fun c => c.before args0 about1) = true
  refine all_split ?_ w_codes
  rw [← List.take_append_drop 24 words1, List.all_append, w_t1, w_t2]
  rfl
set_option maxRecDepth 65536 in
theorem w_case : (Jvm.Cond.and given_1 narrow_1).before args0 about1 = true := by decide +kernel
theorem w_applies : (headSpec (Jvm.Cond.code x code maxLocals ret :: tables_1) room_1).applies x e0.platform about1 = true :=
  (Spec.applies_iff w_frames).mpr ⟨w_running, w_runnable, w_alone, w_named, w_hears, w_ripe, w_room, w_tables⟩
theorem atStart : AtStart classFile x code maxLocals ret World_1 tables_1 room_1 Calls_1 rest_1 Pre_1 launch0 p0 e0 about1 theMethod args0 below0 :=
  ⟨lists_1, trivial, launch0.admits_env _ _ _, launch0.least_env, fairChoices_fair.cas, fairChoices_fair.clock, w_frames, w_args, w_heap, w_applies, trivial, trivial, w_case⟩
end start1
theorem witness_1 : WitnessClaimed_1 := ⟨start1.p0, start1.e0, start1.about1, start1.theMethod, start1.args0, start1.below0, start1.atStart⟩
end Jvm.Pilot.@@N@@
