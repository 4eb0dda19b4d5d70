import JvmDerived
import JvmDerived.Pilot.@@N@@Statement
import JvmDerived.Pilot.@@N@@Code
set_option linter.unusedVariables false
set_option linter.unusedSimpArgs false
namespace Jvm.Pilot.@@N@@
open Jvm Jvm.ClassFile Sem Op Lib Jvm.Free Jvm.Stand Jvm.LawKit Jvm.RoadKit Bundle Jvm.Pilot.@@N@@.Jvm.D
section Own
variable {p : Program} {l : Launch} {e : Env} {R : Room} {s : State} {m : MethodId} {args : Array Value} {below : List Frame} {meth : Method} {c : Code} {T : State} {locs : List Loc} {cells slots : Nat} {Z : State} {a0 : Array Value} {h : Heap} {P : State → Outcome → Prop} {pc pc' : Nat} {Ls Ls' : Array Slot} {st : List Value}
/-- from the state A the run comes to an end of which P speaks -/
def Dn (p : Program) (e : Env) (below : List Frame) (P : State → Outcome → Prop) (A : State) : Prop := ∃ s₂ o, Steps p.tables e below A s₂ ∧ P s₂ o
/-- the invocation has ended, returned, and Q holds of what it returned, the heap and the places written -/
def PQ (below : List Frame) (s : State) (Q : Option Value → Heap → List Loc → Prop) (k n : Nat) (s₂ : State) (o : Outcome) : Prop :=
  s₂.status = .running ∧ Ended s₂ below o ∧ ∃ v L, o = .returned v ∧ Q v s₂.heap L ∧ FrameEnd s o s₂ L k n
theorem go {A B : State} (w : ∀ t, Steps p.tables e below B t → Steps p.tables e below A t) (k : Dn p e below P B) : Dn p e below P A := by
  obtain ⟨s₂, o, h1, h2⟩ := k
  exact ⟨s₂, o, w _ h1, h2⟩
theorem goS {A B : State} (w : Steps p.tables e below A B) (k : Dn p e below P B) : Dn p e below P A := by
  obtain ⟨s₂, o, h1, h2⟩ := k
  exact ⟨s₂, o, w.trans h1, h2⟩
/-- a method's contract, at given arguments and a given heap -/
abbrev Ctr (l : Launch) (Z : State) (y : MethodName) (bytes : ByteArray) (maxL : Nat) (ret : Option FieldType) (ws : List Jvm.Cond) (R : Room) (as' : Array Value) (h0 : Heap) (Q : Option Value → Heap → List Loc → Prop) : Prop :=
  MetFree l y (head1 (Jvm.Cond.code y bytes maxL ret :: ws) R) (fun a U => a = as' ∧ Z.Warmed39 U.vm ∧ U.heap = h0) (fun _ _ _ _ _ => True) (fun _ U o U' => ∃ v L, o = .returned v ∧ Q v U'.heap L ∧ FrameEnd U o U' L R.cells R.slots)
theorem ctr_mk {y : MethodName} {bytes : ByteArray} {maxL : Nat} {ret : Option FieldType} {ws : List Jvm.Cond} {as' : Array Value} {h0 : Heap} {Q : Option Value → Heap → List Loc → Prop} {own mn : String} (hpl : plainFor y = true) (ho : y.cls = own) (hmn : y.name = mn)
    (body : ∀ (p : Program) (e : Env) (s : State) (m : MethodId) (below : List Frame) (meth : Method) (c : Code) (T : State), Stand p l e R s m as' below meth c T [] 0 0 → p.tables.exec = Jvm.exec → c.code = bytes → c.maxLocals = maxL → Z.Warmed39 s.vm → s.vm.findClass own = some m.cls → meth.name = mn → meth.sig.returnType = ret → meth.locks = false → T.heap = h0 →
      Dn p e below (PQ below s Q R.cells R.slots) (T.setTop (entryFrame m as' maxL))) : Ctr l Z y bytes maxL ret ws R as' h0 Q := by
  subst ho hmn
  refine MetFree.of_bodySF hpl hisR ?_
  intro p e s m args below meth c s₁ Bd hml hP hK
  obtain ⟨rfl, hZ, hh⟩ := hP
  have e0 : s₁.heap = h0 := by rw [← hh, Bd.state]; rfl
  obtain ⟨s₂, o, h1, h2, h3, h4⟩ := body p e s m below meth c s₁ (Stand.of_body Bd) Bd.exec Bd.bytes hml hZ (findClass_of_methodNamed Bd.named) (name_of_methodNamed Bd.named Bd.method).1 Bd.returns Bd.notSynchronized e0
  exact ⟨s₂, o, h1, h2, h3, h4⟩
theorem o_entry {g : JFrame} {as' : Array Value} {maxL : Nat} (q : entryFrame m as' maxL = g) (k : Dn p e below P (T.setTop g)) : Dn p e below P (T.setTop (entryFrame m as' maxL)) := q ▸ k
theorem fin_of {Q : Option Value → Heap → List Loc → Prop} {k n : Nat} {v : Option Value} {A : State} (X : Stand p l e R s m args below meth c T locs cells slots) (hlk : meth.locks = false) (hv : meth.sig.returnType = none → v = none) (hc : cells ≤ k) (hs : slots ≤ n) (hQ : Q v T.heap locs)
    (w : ∀ fs, (∀ (f : JFrame) (acts : List Action), f.method = m → f.locked = none → f.entered = [] → (doReturn e (T.setTop f) acts v).1 = T.setFrames fs) → Steps p.tables e below A (T.setFrames fs)) : Dn p e below (PQ below s Q k n) A := by
  obtain ⟨fs, hr, hrun, hended, hW, hsame⟩ := X.leave (v := v) hv hlk
  exact ⟨_, _, w fs hr, hrun, hended, _, _, rfl, hQ, ⟨_, rfl⟩, hW, hsame.mono hc hs⟩
theorem finI {Q : Option Value → Heap → List Loc → Prop} {k n : Nat} (X : Stand p l e R s m args below meth c T locs cells slots) (hx : p.tables.exec = Jvm.exec) (hlk : meth.locks = false) {z : Int32} (hret : meth.sig.returnType = some .int) (hd : decode c.code pc = .ok (.ireturn, 1)) (hc : cells ≤ k) (hs : slots ≤ n) (hQ : Q (some (.int z)) T.heap locs) :
    Dn p e below (PQ below s Q k n) (T.setTop (mkF m pc Ls (.int z :: st))) :=
  fin_of X hlk (fun q => by rw [hret] at q; cases q) hc hs hQ (fun fs hr => retOut X hx hret rfl (Or.inl ⟨rfl, Or.inl rfl, _, rfl⟩) hd hr)
theorem finN {Q : Option Value → Heap → List Loc → Prop} {k n : Nat} (X : Stand p l e R s m args below meth c T locs cells slots) (hx : p.tables.exec = Jvm.exec) (hlk : meth.locks = false) {z : Int32} {t : FieldType} (hret : meth.sig.returnType = some t) (ht : t = .boolean ∨ t = .byte ∨ t = .char ∨ t = .short) (hd : decode c.code pc = .ok (.ireturn, 1)) (hc : cells ≤ k) (hs : slots ≤ n) (hQ : Q (some (.int (nar t z))) T.heap locs) :
    Dn p e below (PQ below s Q k n) (T.setTop (mkF m pc Ls (.int z :: st))) :=
  fin_of X hlk (fun q => by rw [hret] at q; cases q) hc hs hQ (fun fs hr => retN X hx hret ht hd hr)
theorem finJ {Q : Option Value → Heap → List Loc → Prop} {k n : Nat} (X : Stand p l e R s m args below meth c T locs cells slots) (hx : p.tables.exec = Jvm.exec) (hlk : meth.locks = false) {z : Int64} (hret : meth.sig.returnType = some .long) (hd : decode c.code pc = .ok (.lreturn, 1)) (hc : cells ≤ k) (hs : slots ≤ n) (hQ : Q (some (.long z)) T.heap locs) :
    Dn p e below (PQ below s Q k n) (T.setTop (mkF m pc Ls (.long z :: st))) :=
  fin_of X hlk (fun q => by rw [hret] at q; cases q) hc hs hQ (fun fs hr => retOut X hx hret rfl (Or.inr (Or.inl ⟨rfl, rfl, _, rfl⟩)) hd hr)
theorem finA {Q : Option Value → Heap → List Loc → Prop} {k n : Nat} (X : Stand p l e R s m args below meth c T locs cells slots) (hx : p.tables.exec = Jvm.exec) (hlk : meth.locks = false) {w : Value} {t : FieldType} (hw : w.isRef = true) (hret : meth.sig.returnType = some t) (ht : t.isReference = true) (hn : narrow t w = w) (hd : decode c.code pc = .ok (.areturn, 1)) (hc : cells ≤ k) (hs : slots ≤ n) (hQ : Q (some w) T.heap locs) :
    Dn p e below (PQ below s Q k n) (T.setTop (mkF m pc Ls (w :: st))) :=
  fin_of X hlk (fun q => by rw [hret] at q; cases q) hc hs hQ (fun fs hr => retOut X hx hret hn (Or.inr (Or.inr (Or.inr (Or.inr ⟨rfl, ht, hw⟩)))) hd hr)
theorem finV {Q : Option Value → Heap → List Loc → Prop} {k n : Nat} (X : Stand p l e R s m args below meth c T locs cells slots) (hx : p.tables.exec = Jvm.exec) (hlk : meth.locks = false) (hret : meth.sig.returnType = none) (hd : decode c.code pc = .ok (.return_, 1)) (hc : cells ≤ k) (hs : slots ≤ n) (hQ : Q none T.heap locs) :
    Dn p e below (PQ below s Q k n) (T.setTop (mkF m pc Ls [])) :=
  fin_of X hlk (fun _ => rfl) hc hs hQ (fun fs hr => X.returnOut hx hret hd hr)
theorem o_iload (X : Stand p l e R s m args below meth c T locs cells slots) (hx : p.tables.exec = Jvm.exec) {k : Nat} {v : Int32} (hd : decode c.code pc = .ok (.iload k, 2)) (hp : pc + 2 = pc') (hl : Ls[k]? = some (.val (.int v))) (K : Dn p e below P (T.setTop (mkF m pc' Ls (.int v :: st)))) : Dn p e below P (T.setTop (mkF m pc Ls st)) := by
  subst hp
  obtain ⟨s₂, o, h1, h2⟩ := K
  exact ⟨s₂, o, XS.iload X.here hx rfl hd hl h1, h2⟩
theorem o_iloadN (X : Stand p l e R s m args below meth c T locs cells slots) (hx : p.tables.exec = Jvm.exec) {k : Fin 4} {v : Int32} (hd : decode c.code pc = .ok (.iload_n k, 1)) (hp : pc + 1 = pc') (hl : Ls[k.val]? = some (.val (.int v))) (K : Dn p e below P (T.setTop (mkF m pc' Ls (.int v :: st)))) : Dn p e below P (T.setTop (mkF m pc Ls st)) := by
  subst hp
  obtain ⟨s₂, o, h1, h2⟩ := K
  exact ⟨s₂, o, XS.iloadN X.here hx rfl hd hl h1, h2⟩
theorem o_istore (X : Stand p l e R s m args below meth c T locs cells slots) (hx : p.tables.exec = Jvm.exec) {k : Nat} {v : Int32} (hd : decode c.code pc = .ok (.istore k, 2)) (hp : pc + 2 = pc') (hl : storeLocals Ls k (.int v) = some Ls') (K : Dn p e below P (T.setTop (mkF m pc' Ls' st))) : Dn p e below P (T.setTop (mkF m pc Ls (.int v :: st))) := by
  subst hp
  obtain ⟨s₂, o, h1, h2⟩ := K
  exact ⟨s₂, o, XS.istore X.here hx rfl hd rfl hl h1, h2⟩
theorem o_istoreN (X : Stand p l e R s m args below meth c T locs cells slots) (hx : p.tables.exec = Jvm.exec) {k : Fin 4} {v : Int32} (hd : decode c.code pc = .ok (.istore_n k, 1)) (hp : pc + 1 = pc') (hl : storeLocals Ls k.val (.int v) = some Ls') (K : Dn p e below P (T.setTop (mkF m pc' Ls' st))) : Dn p e below P (T.setTop (mkF m pc Ls (.int v :: st))) := by
  subst hp
  obtain ⟨s₂, o, h1, h2⟩ := K
  exact ⟨s₂, o, XS.istoreN X.here hx rfl hd rfl hl h1, h2⟩
theorem o_lload (X : Stand p l e R s m args below meth c T locs cells slots) (hx : p.tables.exec = Jvm.exec) {k : Nat} {v : Int64} (hd : decode c.code pc = .ok (.lload k, 2)) (hp : pc + 2 = pc') (hl : Ls[k]? = some (.val (.long v))) (K : Dn p e below P (T.setTop (mkF m pc' Ls (.long v :: st)))) : Dn p e below P (T.setTop (mkF m pc Ls st)) := by
  subst hp
  obtain ⟨s₂, o, h1, h2⟩ := K
  exact ⟨s₂, o, XS.lload X.here hx rfl hd hl h1, h2⟩
theorem o_lloadN (X : Stand p l e R s m args below meth c T locs cells slots) (hx : p.tables.exec = Jvm.exec) {k : Fin 4} {v : Int64} (hd : decode c.code pc = .ok (.lload_n k, 1)) (hp : pc + 1 = pc') (hl : Ls[k.val]? = some (.val (.long v))) (K : Dn p e below P (T.setTop (mkF m pc' Ls (.long v :: st)))) : Dn p e below P (T.setTop (mkF m pc Ls st)) := by
  subst hp
  obtain ⟨s₂, o, h1, h2⟩ := K
  exact ⟨s₂, o, XS.lloadN X.here hx rfl hd hl h1, h2⟩
theorem o_lstore (X : Stand p l e R s m args below meth c T locs cells slots) (hx : p.tables.exec = Jvm.exec) {k : Nat} {v : Int64} (hd : decode c.code pc = .ok (.lstore k, 2)) (hp : pc + 2 = pc') (hl : storeLocals Ls k (.long v) = some Ls') (K : Dn p e below P (T.setTop (mkF m pc' Ls' st))) : Dn p e below P (T.setTop (mkF m pc Ls (.long v :: st))) := by
  subst hp
  obtain ⟨s₂, o, h1, h2⟩ := K
  exact ⟨s₂, o, XS.lstore X.here hx rfl hd rfl hl h1, h2⟩
theorem o_lstoreN (X : Stand p l e R s m args below meth c T locs cells slots) (hx : p.tables.exec = Jvm.exec) {k : Fin 4} {v : Int64} (hd : decode c.code pc = .ok (.lstore_n k, 1)) (hp : pc + 1 = pc') (hl : storeLocals Ls k.val (.long v) = some Ls') (K : Dn p e below P (T.setTop (mkF m pc' Ls' st))) : Dn p e below P (T.setTop (mkF m pc Ls (.long v :: st))) := by
  subst hp
  obtain ⟨s₂, o, h1, h2⟩ := K
  exact ⟨s₂, o, XS.lstoreN X.here hx rfl hd rfl hl h1, h2⟩
theorem o_aload (X : Stand p l e R s m args below meth c T locs cells slots) (hx : p.tables.exec = Jvm.exec) {k : Nat} {v : Value} (hd : decode c.code pc = .ok (.aload k, 2)) (hp : pc + 2 = pc') (hl : Ls[k]? = some (.val v)) (hv : v.isRef = true) (K : Dn p e below P (T.setTop (mkF m pc' Ls (v :: st)))) : Dn p e below P (T.setTop (mkF m pc Ls st)) := by
  subst hp
  obtain ⟨s₂, o, h1, h2⟩ := K
  exact ⟨s₂, o, XS.aload X.here hx rfl hd hl hv h1, h2⟩
theorem o_aloadN (X : Stand p l e R s m args below meth c T locs cells slots) (hx : p.tables.exec = Jvm.exec) {k : Fin 4} {v : Value} (hd : decode c.code pc = .ok (.aload_n k, 1)) (hp : pc + 1 = pc') (hl : Ls[k.val]? = some (.val v)) (hv : v.isRef = true) (K : Dn p e below P (T.setTop (mkF m pc' Ls (v :: st)))) : Dn p e below P (T.setTop (mkF m pc Ls st)) := by
  subst hp
  obtain ⟨s₂, o, h1, h2⟩ := K
  exact ⟨s₂, o, XS.aloadN X.here hx rfl hd hl hv h1, h2⟩
theorem o_astore (X : Stand p l e R s m args below meth c T locs cells slots) (hx : p.tables.exec = Jvm.exec) {k : Nat} {v : Value} (hd : decode c.code pc = .ok (.astore k, 2)) (hp : pc + 2 = pc') (hv : v.isRef = true) (hl : storeLocals Ls k v = some Ls') (K : Dn p e below P (T.setTop (mkF m pc' Ls' st))) : Dn p e below P (T.setTop (mkF m pc Ls (v :: st))) := by
  subst hp
  obtain ⟨s₂, o, h1, h2⟩ := K
  exact ⟨s₂, o, XS.astore X.here hx rfl hd rfl hv hl h1, h2⟩
theorem o_astoreN (X : Stand p l e R s m args below meth c T locs cells slots) (hx : p.tables.exec = Jvm.exec) {k : Fin 4} {v : Value} (hd : decode c.code pc = .ok (.astore_n k, 1)) (hp : pc + 1 = pc') (hv : v.isRef = true) (hl : storeLocals Ls k.val v = some Ls') (K : Dn p e below P (T.setTop (mkF m pc' Ls' st))) : Dn p e below P (T.setTop (mkF m pc Ls (v :: st))) := by
  subst hp
  obtain ⟨s₂, o, h1, h2⟩ := K
  exact ⟨s₂, o, XS.astoreN X.here hx rfl hd rfl hv hl h1, h2⟩
theorem o_iconst (X : Stand p l e R s m args below meth c T locs cells slots) (hx : p.tables.exec = Jvm.exec) {i : Int} {v : Int32} (hd : decode c.code pc = .ok (.iconst i, 1)) (hp : pc + 1 = pc') (hv : Int32.ofInt i = v) (K : Dn p e below P (T.setTop (mkF m pc' Ls (.int v :: st)))) : Dn p e below P (T.setTop (mkF m pc Ls st)) := by
  subst hp hv
  obtain ⟨s₂, o, h1, h2⟩ := K
  exact ⟨s₂, o, XS.iconst X.here hx rfl hd h1, h2⟩
theorem o_bipush (X : Stand p l e R s m args below meth c T locs cells slots) (hx : p.tables.exec = Jvm.exec) {i : Int} {v : Int32} (hd : decode c.code pc = .ok (.bipush i, 2)) (hp : pc + 2 = pc') (hv : (Int8.ofInt i).toInt32 = v) (K : Dn p e below P (T.setTop (mkF m pc' Ls (.int v :: st)))) : Dn p e below P (T.setTop (mkF m pc Ls st)) := by
  subst hp hv
  obtain ⟨s₂, o, h1, h2⟩ := K
  exact ⟨s₂, o, XS.bipush X.here hx rfl hd h1, h2⟩
theorem o_sipush (X : Stand p l e R s m args below meth c T locs cells slots) (hx : p.tables.exec = Jvm.exec) {i : Int} {v : Int32} (hd : decode c.code pc = .ok (.sipush i, 3)) (hp : pc + 3 = pc') (hv : (Int16.ofInt i).toInt32 = v) (K : Dn p e below P (T.setTop (mkF m pc' Ls (.int v :: st)))) : Dn p e below P (T.setTop (mkF m pc Ls st)) := by
  subst hp hv
  obtain ⟨s₂, o, h1, h2⟩ := K
  exact ⟨s₂, o, XS.sipush X.here hx rfl hd h1, h2⟩
theorem o_lconst (X : Stand p l e R s m args below meth c T locs cells slots) (hx : p.tables.exec = Jvm.exec) {k : Fin 2} {v : Int64} (hd : decode c.code pc = .ok (.lconst k, 1)) (hp : pc + 1 = pc') (hv : Int64.ofNat k = v) (K : Dn p e below P (T.setTop (mkF m pc' Ls (.long v :: st)))) : Dn p e below P (T.setTop (mkF m pc Ls st)) := by
  subst hp hv
  obtain ⟨s₂, o, h1, h2⟩ := K
  exact ⟨s₂, o, XS.lconst X.here hx rfl hd h1, h2⟩
theorem o_aconstNull (X : Stand p l e R s m args below meth c T locs cells slots) (hx : p.tables.exec = Jvm.exec)  (hd : decode c.code pc = .ok (.aconst_null, 1)) (hp : pc + 1 = pc')  (K : Dn p e below P (T.setTop (mkF m pc' Ls (.null :: st)))) : Dn p e below P (T.setTop (mkF m pc Ls st)) := by
  subst hp
  obtain ⟨s₂, o, h1, h2⟩ := K
  exact ⟨s₂, o, XS.aconstNull X.here hx rfl hd  h1, h2⟩
theorem o_iadd (X : Stand p l e R s m args below meth c T locs cells slots) (hx : p.tables.exec = Jvm.exec) {x y : Int32} (hd : decode c.code pc = .ok (.iadd, 1)) (hp : pc + 1 = pc')  (K : Dn p e below P (T.setTop (mkF m pc' Ls (.int (x + y) :: st)))) : Dn p e below P (T.setTop (mkF m pc Ls (.int y :: .int x :: st))) := by
  subst hp
  obtain ⟨s₂, o, h1, h2⟩ := K
  exact ⟨s₂, o, XS.iadd X.here hx rfl hd rfl h1, h2⟩
theorem o_isub (X : Stand p l e R s m args below meth c T locs cells slots) (hx : p.tables.exec = Jvm.exec) {x y : Int32} (hd : decode c.code pc = .ok (.isub, 1)) (hp : pc + 1 = pc')  (K : Dn p e below P (T.setTop (mkF m pc' Ls (.int (x - y) :: st)))) : Dn p e below P (T.setTop (mkF m pc Ls (.int y :: .int x :: st))) := by
  subst hp
  obtain ⟨s₂, o, h1, h2⟩ := K
  exact ⟨s₂, o, XS.isub X.here hx rfl hd rfl h1, h2⟩
theorem o_imul (X : Stand p l e R s m args below meth c T locs cells slots) (hx : p.tables.exec = Jvm.exec) {x y : Int32} (hd : decode c.code pc = .ok (.imul, 1)) (hp : pc + 1 = pc')  (K : Dn p e below P (T.setTop (mkF m pc' Ls (.int (x * y) :: st)))) : Dn p e below P (T.setTop (mkF m pc Ls (.int y :: .int x :: st))) := by
  subst hp
  obtain ⟨s₂, o, h1, h2⟩ := K
  exact ⟨s₂, o, XS.imul X.here hx rfl hd rfl h1, h2⟩
theorem o_iand (X : Stand p l e R s m args below meth c T locs cells slots) (hx : p.tables.exec = Jvm.exec) {x y : Int32} (hd : decode c.code pc = .ok (.iand, 1)) (hp : pc + 1 = pc')  (K : Dn p e below P (T.setTop (mkF m pc' Ls (.int (x &&& y) :: st)))) : Dn p e below P (T.setTop (mkF m pc Ls (.int y :: .int x :: st))) := by
  subst hp
  obtain ⟨s₂, o, h1, h2⟩ := K
  exact ⟨s₂, o, XS.iand X.here hx rfl hd rfl h1, h2⟩
theorem o_ior (X : Stand p l e R s m args below meth c T locs cells slots) (hx : p.tables.exec = Jvm.exec) {x y : Int32} (hd : decode c.code pc = .ok (.ior, 1)) (hp : pc + 1 = pc')  (K : Dn p e below P (T.setTop (mkF m pc' Ls (.int (x ||| y) :: st)))) : Dn p e below P (T.setTop (mkF m pc Ls (.int y :: .int x :: st))) := by
  subst hp
  obtain ⟨s₂, o, h1, h2⟩ := K
  exact ⟨s₂, o, XS.ior X.here hx rfl hd rfl h1, h2⟩
theorem o_ixor (X : Stand p l e R s m args below meth c T locs cells slots) (hx : p.tables.exec = Jvm.exec) {x y : Int32} (hd : decode c.code pc = .ok (.ixor, 1)) (hp : pc + 1 = pc')  (K : Dn p e below P (T.setTop (mkF m pc' Ls (.int (x ^^^ y) :: st)))) : Dn p e below P (T.setTop (mkF m pc Ls (.int y :: .int x :: st))) := by
  subst hp
  obtain ⟨s₂, o, h1, h2⟩ := K
  exact ⟨s₂, o, XS.ixor X.here hx rfl hd rfl h1, h2⟩
theorem o_ladd (X : Stand p l e R s m args below meth c T locs cells slots) (hx : p.tables.exec = Jvm.exec) {x y : Int64} (hd : decode c.code pc = .ok (.ladd, 1)) (hp : pc + 1 = pc')  (K : Dn p e below P (T.setTop (mkF m pc' Ls (.long (x + y) :: st)))) : Dn p e below P (T.setTop (mkF m pc Ls (.long y :: .long x :: st))) := by
  subst hp
  obtain ⟨s₂, o, h1, h2⟩ := K
  exact ⟨s₂, o, XS.ladd X.here hx rfl hd rfl h1, h2⟩
theorem o_lsub (X : Stand p l e R s m args below meth c T locs cells slots) (hx : p.tables.exec = Jvm.exec) {x y : Int64} (hd : decode c.code pc = .ok (.lsub, 1)) (hp : pc + 1 = pc')  (K : Dn p e below P (T.setTop (mkF m pc' Ls (.long (x - y) :: st)))) : Dn p e below P (T.setTop (mkF m pc Ls (.long y :: .long x :: st))) := by
  subst hp
  obtain ⟨s₂, o, h1, h2⟩ := K
  exact ⟨s₂, o, XS.lsub X.here hx rfl hd rfl h1, h2⟩
theorem o_lmul (X : Stand p l e R s m args below meth c T locs cells slots) (hx : p.tables.exec = Jvm.exec) {x y : Int64} (hd : decode c.code pc = .ok (.lmul, 1)) (hp : pc + 1 = pc')  (K : Dn p e below P (T.setTop (mkF m pc' Ls (.long (x * y) :: st)))) : Dn p e below P (T.setTop (mkF m pc Ls (.long y :: .long x :: st))) := by
  subst hp
  obtain ⟨s₂, o, h1, h2⟩ := K
  exact ⟨s₂, o, XS.lmul X.here hx rfl hd rfl h1, h2⟩
theorem o_land (X : Stand p l e R s m args below meth c T locs cells slots) (hx : p.tables.exec = Jvm.exec) {x y : Int64} (hd : decode c.code pc = .ok (.land, 1)) (hp : pc + 1 = pc')  (K : Dn p e below P (T.setTop (mkF m pc' Ls (.long (x &&& y) :: st)))) : Dn p e below P (T.setTop (mkF m pc Ls (.long y :: .long x :: st))) := by
  subst hp
  obtain ⟨s₂, o, h1, h2⟩ := K
  exact ⟨s₂, o, XS.land X.here hx rfl hd rfl h1, h2⟩
theorem o_lor (X : Stand p l e R s m args below meth c T locs cells slots) (hx : p.tables.exec = Jvm.exec) {x y : Int64} (hd : decode c.code pc = .ok (.lor, 1)) (hp : pc + 1 = pc')  (K : Dn p e below P (T.setTop (mkF m pc' Ls (.long (x ||| y) :: st)))) : Dn p e below P (T.setTop (mkF m pc Ls (.long y :: .long x :: st))) := by
  subst hp
  obtain ⟨s₂, o, h1, h2⟩ := K
  exact ⟨s₂, o, XS.lor X.here hx rfl hd rfl h1, h2⟩
theorem o_lxor (X : Stand p l e R s m args below meth c T locs cells slots) (hx : p.tables.exec = Jvm.exec) {x y : Int64} (hd : decode c.code pc = .ok (.lxor, 1)) (hp : pc + 1 = pc')  (K : Dn p e below P (T.setTop (mkF m pc' Ls (.long (x ^^^ y) :: st)))) : Dn p e below P (T.setTop (mkF m pc Ls (.long y :: .long x :: st))) := by
  subst hp
  obtain ⟨s₂, o, h1, h2⟩ := K
  exact ⟨s₂, o, XS.lxor X.here hx rfl hd rfl h1, h2⟩
theorem o_ishl (X : Stand p l e R s m args below meth c T locs cells slots) (hx : p.tables.exec = Jvm.exec) {x : Int32} {y : Int32} (hd : decode c.code pc = .ok (.ishl, 1)) (hp : pc + 1 = pc')  (K : Dn p e below P (T.setTop (mkF m pc' Ls (.int (x <<< (y &&& 31)) :: st)))) : Dn p e below P (T.setTop (mkF m pc Ls (.int y :: .int x :: st))) := by
  subst hp
  obtain ⟨s₂, o, h1, h2⟩ := K
  exact ⟨s₂, o, XS.ishl X.here hx rfl hd rfl h1, h2⟩
theorem o_ishr (X : Stand p l e R s m args below meth c T locs cells slots) (hx : p.tables.exec = Jvm.exec) {x : Int32} {y : Int32} (hd : decode c.code pc = .ok (.ishr, 1)) (hp : pc + 1 = pc')  (K : Dn p e below P (T.setTop (mkF m pc' Ls (.int (x >>> (y &&& 31)) :: st)))) : Dn p e below P (T.setTop (mkF m pc Ls (.int y :: .int x :: st))) := by
  subst hp
  obtain ⟨s₂, o, h1, h2⟩ := K
  exact ⟨s₂, o, XS.ishr X.here hx rfl hd rfl h1, h2⟩
theorem o_iushr (X : Stand p l e R s m args below meth c T locs cells slots) (hx : p.tables.exec = Jvm.exec) {x : Int32} {y : Int32} (hd : decode c.code pc = .ok (.iushr, 1)) (hp : pc + 1 = pc')  (K : Dn p e below P (T.setTop (mkF m pc' Ls (.int ((x.toUInt32 >>> (y &&& 31).toUInt32).toInt32) :: st)))) : Dn p e below P (T.setTop (mkF m pc Ls (.int y :: .int x :: st))) := by
  subst hp
  obtain ⟨s₂, o, h1, h2⟩ := K
  exact ⟨s₂, o, XS.iushr X.here hx rfl hd rfl h1, h2⟩
theorem o_lshl (X : Stand p l e R s m args below meth c T locs cells slots) (hx : p.tables.exec = Jvm.exec) {x : Int64} {y : Int32} (hd : decode c.code pc = .ok (.lshl, 1)) (hp : pc + 1 = pc')  (K : Dn p e below P (T.setTop (mkF m pc' Ls (.long (x <<< (y &&& 0x3f).toInt64) :: st)))) : Dn p e below P (T.setTop (mkF m pc Ls (.int y :: .long x :: st))) := by
  subst hp
  obtain ⟨s₂, o, h1, h2⟩ := K
  exact ⟨s₂, o, XS.lshl X.here hx rfl hd rfl h1, h2⟩
theorem o_lshr (X : Stand p l e R s m args below meth c T locs cells slots) (hx : p.tables.exec = Jvm.exec) {x : Int64} {y : Int32} (hd : decode c.code pc = .ok (.lshr, 1)) (hp : pc + 1 = pc')  (K : Dn p e below P (T.setTop (mkF m pc' Ls (.long (x >>> (y &&& 0x3f).toInt64) :: st)))) : Dn p e below P (T.setTop (mkF m pc Ls (.int y :: .long x :: st))) := by
  subst hp
  obtain ⟨s₂, o, h1, h2⟩ := K
  exact ⟨s₂, o, XS.lshr X.here hx rfl hd rfl h1, h2⟩
theorem o_lushr (X : Stand p l e R s m args below meth c T locs cells slots) (hx : p.tables.exec = Jvm.exec) {x : Int64} {y : Int32} (hd : decode c.code pc = .ok (.lushr, 1)) (hp : pc + 1 = pc')  (K : Dn p e below P (T.setTop (mkF m pc' Ls (.long ((x.toUInt64 >>> (y &&& 0x3f).toInt64.toUInt64).toInt64) :: st)))) : Dn p e below P (T.setTop (mkF m pc Ls (.int y :: .long x :: st))) := by
  subst hp
  obtain ⟨s₂, o, h1, h2⟩ := K
  exact ⟨s₂, o, XS.lushr X.here hx rfl hd rfl h1, h2⟩
theorem o_ineg (X : Stand p l e R s m args below meth c T locs cells slots) (hx : p.tables.exec = Jvm.exec) {x : Int32} (hd : decode c.code pc = .ok (.ineg, 1)) (hp : pc + 1 = pc')  (K : Dn p e below P (T.setTop (mkF m pc' Ls (.int (-x) :: st)))) : Dn p e below P (T.setTop (mkF m pc Ls (.int x :: st))) := by
  subst hp
  obtain ⟨s₂, o, h1, h2⟩ := K
  exact ⟨s₂, o, XS.ineg X.here hx rfl hd rfl h1, h2⟩
theorem o_lneg (X : Stand p l e R s m args below meth c T locs cells slots) (hx : p.tables.exec = Jvm.exec) {x : Int64} (hd : decode c.code pc = .ok (.lneg, 1)) (hp : pc + 1 = pc')  (K : Dn p e below P (T.setTop (mkF m pc' Ls (.long (-x) :: st)))) : Dn p e below P (T.setTop (mkF m pc Ls (.long x :: st))) := by
  subst hp
  obtain ⟨s₂, o, h1, h2⟩ := K
  exact ⟨s₂, o, XS.lneg X.here hx rfl hd rfl h1, h2⟩
theorem o_i2l (X : Stand p l e R s m args below meth c T locs cells slots) (hx : p.tables.exec = Jvm.exec) {x : Int32} (hd : decode c.code pc = .ok (.i2l, 1)) (hp : pc + 1 = pc')  (K : Dn p e below P (T.setTop (mkF m pc' Ls (.long (x.toInt64) :: st)))) : Dn p e below P (T.setTop (mkF m pc Ls (.int x :: st))) := by
  subst hp
  obtain ⟨s₂, o, h1, h2⟩ := K
  exact ⟨s₂, o, XS.i2l X.here hx rfl hd rfl h1, h2⟩
theorem o_l2i (X : Stand p l e R s m args below meth c T locs cells slots) (hx : p.tables.exec = Jvm.exec) {x : Int64} (hd : decode c.code pc = .ok (.l2i, 1)) (hp : pc + 1 = pc')  (K : Dn p e below P (T.setTop (mkF m pc' Ls (.int (x.toInt32) :: st)))) : Dn p e below P (T.setTop (mkF m pc Ls (.long x :: st))) := by
  subst hp
  obtain ⟨s₂, o, h1, h2⟩ := K
  exact ⟨s₂, o, XS.l2i X.here hx rfl hd rfl h1, h2⟩
theorem o_i2b (X : Stand p l e R s m args below meth c T locs cells slots) (hx : p.tables.exec = Jvm.exec) {x : Int32} (hd : decode c.code pc = .ok (.i2b, 1)) (hp : pc + 1 = pc')  (K : Dn p e below P (T.setTop (mkF m pc' Ls (.int (x.toInt8.toInt32) :: st)))) : Dn p e below P (T.setTop (mkF m pc Ls (.int x :: st))) := by
  subst hp
  obtain ⟨s₂, o, h1, h2⟩ := K
  exact ⟨s₂, o, XS.i2b X.here hx rfl hd rfl h1, h2⟩
theorem o_i2s (X : Stand p l e R s m args below meth c T locs cells slots) (hx : p.tables.exec = Jvm.exec) {x : Int32} (hd : decode c.code pc = .ok (.i2s, 1)) (hp : pc + 1 = pc')  (K : Dn p e below P (T.setTop (mkF m pc' Ls (.int (x.toInt16.toInt32) :: st)))) : Dn p e below P (T.setTop (mkF m pc Ls (.int x :: st))) := by
  subst hp
  obtain ⟨s₂, o, h1, h2⟩ := K
  exact ⟨s₂, o, XS.i2s X.here hx rfl hd rfl h1, h2⟩
theorem o_i2c (X : Stand p l e R s m args below meth c T locs cells slots) (hx : p.tables.exec = Jvm.exec) {x : Int32} (hd : decode c.code pc = .ok (.i2c, 1)) (hp : pc + 1 = pc')  (K : Dn p e below P (T.setTop (mkF m pc' Ls (.int (x.toUInt32.toUInt16.toUInt32.toInt32) :: st)))) : Dn p e below P (T.setTop (mkF m pc Ls (.int x :: st))) := by
  subst hp
  obtain ⟨s₂, o, h1, h2⟩ := K
  exact ⟨s₂, o, XS.i2c X.here hx rfl hd rfl h1, h2⟩
theorem o_idiv (X : Stand p l e R s m args below meth c T locs cells slots) (hx : p.tables.exec = Jvm.exec) {x y : Int32} (hd : decode c.code pc = .ok (.idiv, 1)) (hp : pc + 1 = pc') (hy : y ≠ 0) (K : Dn p e below P (T.setTop (mkF m pc' Ls (.int (x / y) :: st)))) : Dn p e below P (T.setTop (mkF m pc Ls (.int y :: .int x :: st))) := by
  subst hp
  obtain ⟨s₂, o, h1, h2⟩ := K
  exact ⟨s₂, o, XS.idiv X.here hx rfl hd rfl hy h1, h2⟩
theorem o_ldiv (X : Stand p l e R s m args below meth c T locs cells slots) (hx : p.tables.exec = Jvm.exec) {x y : Int64} (hd : decode c.code pc = .ok (.ldiv, 1)) (hp : pc + 1 = pc') (hy : y ≠ 0) (K : Dn p e below P (T.setTop (mkF m pc' Ls (.long (x / y) :: st)))) : Dn p e below P (T.setTop (mkF m pc Ls (.long y :: .long x :: st))) := by
  subst hp
  obtain ⟨s₂, o, h1, h2⟩ := K
  exact ⟨s₂, o, XS.ldiv X.here hx rfl hd rfl hy h1, h2⟩
theorem o_irem (X : Stand p l e R s m args below meth c T locs cells slots) (hx : p.tables.exec = Jvm.exec) {x y : Int32} (hd : decode c.code pc = .ok (.irem, 1)) (hp : pc + 1 = pc') (hy : y ≠ 0) (K : Dn p e below P (T.setTop (mkF m pc' Ls (.int (x % y) :: st)))) : Dn p e below P (T.setTop (mkF m pc Ls (.int y :: .int x :: st))) := by
  subst hp
  obtain ⟨s₂, o, h1, h2⟩ := K
  exact ⟨s₂, o, iremM X hx rfl hd rfl hy h1, h2⟩
theorem o_lcmp (X : Stand p l e R s m args below meth c T locs cells slots) (hx : p.tables.exec = Jvm.exec) {x y : Int64} (hd : decode c.code pc = .ok (.lcmp, 1)) (hp : pc + 1 = pc')  (K : Dn p e below P (T.setTop (mkF m pc' Ls (.int (lcmpW x y) :: st)))) : Dn p e below P (T.setTop (mkF m pc Ls (.long y :: .long x :: st))) := by
  subst hp
  obtain ⟨s₂, o, h1, h2⟩ := K
  exact ⟨s₂, o, XS.lcmp X.here hx rfl hd rfl h1, h2⟩
theorem o_dup (X : Stand p l e R s m args below meth c T locs cells slots) (hx : p.tables.exec = Jvm.exec) {v : Value} (hd : decode c.code pc = .ok (.dup, 1)) (hp : pc + 1 = pc') (hv : v.category = 1) (K : Dn p e below P (T.setTop (mkF m pc' Ls (v :: v :: st)))) : Dn p e below P (T.setTop (mkF m pc Ls (v :: st))) := by
  subst hp
  obtain ⟨s₂, o, h1, h2⟩ := K
  exact ⟨s₂, o, XS.dup X.here hx rfl hd rfl hv h1, h2⟩
theorem o_pop (X : Stand p l e R s m args below meth c T locs cells slots) (hx : p.tables.exec = Jvm.exec) {v : Value} (hd : decode c.code pc = .ok (.pop, 1)) (hp : pc + 1 = pc') (hv : v.category = 1) (K : Dn p e below P (T.setTop (mkF m pc' Ls st))) : Dn p e below P (T.setTop (mkF m pc Ls (v :: st))) := by
  subst hp
  obtain ⟨s₂, o, h1, h2⟩ := K
  exact ⟨s₂, o, XS.pop X.here hx rfl hd rfl hv h1, h2⟩
theorem o_dupX1 (X : Stand p l e R s m args below meth c T locs cells slots) (hx : p.tables.exec = Jvm.exec) {v w : Value} (hd : decode c.code pc = .ok (.dup_x1, 1)) (hp : pc + 1 = pc') (hv : v.category = 1) (hw : w.category = 1) (K : Dn p e below P (T.setTop (mkF m pc' Ls (v :: w :: v :: st)))) : Dn p e below P (T.setTop (mkF m pc Ls (v :: w :: st))) := by
  subst hp
  obtain ⟨s₂, o, h1, h2⟩ := K
  exact ⟨s₂, o, XS.dupX1 X.here hx rfl hd rfl hv hw h1, h2⟩
theorem o_iinc (X : Stand p l e R s m args below meth c T locs cells slots) (hx : p.tables.exec = Jvm.exec) {k : Nat} {i : Int} {x v : Int32} (hd : decode c.code pc = .ok (.iinc k i, 3)) (hp : pc + 3 = pc') (hv : Int32.ofInt i = v) (hl : Ls[k]? = some (.val (.int x))) (hl' : storeLocals Ls k (.int (x + v)) = some Ls') (K : Dn p e below P (T.setTop (mkF m pc' Ls' st))) : Dn p e below P (T.setTop (mkF m pc Ls st)) := by
  subst hp hv
  obtain ⟨s₂, o, h1, h2⟩ := K
  exact ⟨s₂, o, XS.iinc X.here hx rfl hd hl hl' h1, h2⟩
theorem o_goto (X : Stand p l e R s m args below meth c T locs cells slots) (hx : p.tables.exec = Jvm.exec) {i : Int} (hd : decode c.code pc = .ok (.goto i, 3)) (ho : 0 ≤ (pc : Int) + i) (hp : ((pc : Int) + i).toNat = pc') (K : Dn p e below P (T.setTop (mkF m pc' Ls st))) : Dn p e below P (T.setTop (mkF m pc Ls st)) := by
  obtain ⟨s₂, o, h1, h2⟩ := K
  exact ⟨s₂, o, XS.goto X.here hx rfl (pc0 := pc) rfl hd ho hp h1, h2⟩
theorem o_if_eq (X : Stand p l e R s m args below meth c T locs cells slots) (hx : p.tables.exec = Jvm.exec) {x : Int32} {i : Int} {pt : Nat} (hd : decode c.code pc = .ok (.ifCond .eq i, 3)) (hp : pc + 3 = pc') (ho : 0 ≤ (pc : Int) + i) (ht : ((pc : Int) + i).toNat = pt) (Kt : x = (0 : Int32) → Dn p e below P (T.setTop (mkF m pt Ls st))) (Kf : ¬ (x = (0 : Int32)) → Dn p e below P (T.setTop (mkF m pc' Ls st))) : Dn p e below P (T.setTop (mkF m pc Ls (.int x :: st))) := by
  subst hp
  by_cases hq : x = (0 : Int32)
  · obtain ⟨s₂, o, h1, h2⟩ := Kt hq
    exact ⟨s₂, o, XS.ifYes X.here hx rfl (pc0 := pc) rfl hd rfl ((if0 _ _).trans (teq hq).1) ho ht h1, h2⟩
  · obtain ⟨s₂, o, h1, h2⟩ := Kf hq
    exact ⟨s₂, o, XS.ifNo X.here hx rfl hd rfl ((if0 _ _).trans (feq hq).1) h1, h2⟩
theorem o_icmp_eq (X : Stand p l e R s m args below meth c T locs cells slots) (hx : p.tables.exec = Jvm.exec) {x y : Int32} {i : Int} {pt : Nat} (hd : decode c.code pc = .ok (.if_icmp .eq i, 3)) (hp : pc + 3 = pc') (ho : 0 ≤ (pc : Int) + i) (ht : ((pc : Int) + i).toNat = pt) (Kt : x = y → Dn p e below P (T.setTop (mkF m pt Ls st))) (Kf : ¬ (x = y) → Dn p e below P (T.setTop (mkF m pc' Ls st))) : Dn p e below P (T.setTop (mkF m pc Ls (.int y :: .int x :: st))) := by
  subst hp
  by_cases hq : x = y
  · obtain ⟨s₂, o, h1, h2⟩ := Kt hq
    exact ⟨s₂, o, XS.icmpYes X.here hx rfl (pc0 := pc) rfl hd rfl (teq hq).1 ho ht h1, h2⟩
  · obtain ⟨s₂, o, h1, h2⟩ := Kf hq
    exact ⟨s₂, o, XS.icmpNo X.here hx rfl hd rfl (feq hq).1 h1, h2⟩
theorem o_lif_eq (X : Stand p l e R s m args below meth c T locs cells slots) (hx : p.tables.exec = Jvm.exec) {x y : Int64} {i : Int} {pt : Nat} (hd : decode c.code pc = .ok (.ifCond .eq i, 3)) (hp : pc + 3 = pc') (ho : 0 ≤ (pc : Int) + i) (ht : ((pc : Int) + i).toNat = pt) (Kt : x = y → Dn p e below P (T.setTop (mkF m pt Ls st))) (Kf : ¬ (x = y) → Dn p e below P (T.setTop (mkF m pc' Ls st))) : Dn p e below P (T.setTop (mkF m pc Ls (.int (lcmpW x y) :: st))) := by
  subst hp
  by_cases hq : x = y
  · obtain ⟨s₂, o, h1, h2⟩ := Kt hq
    exact ⟨s₂, o, XS.ifYes X.here hx rfl (pc0 := pc) rfl hd rfl ((if0 _ _).trans (teq ((lw_eq x y).mpr hq)).1) ho ht h1, h2⟩
  · obtain ⟨s₂, o, h1, h2⟩ := Kf hq
    exact ⟨s₂, o, XS.ifNo X.here hx rfl hd rfl ((if0 _ _).trans (feq (fun z => hq ((lw_eq x y).mp z))).1) h1, h2⟩
theorem o_if_ne (X : Stand p l e R s m args below meth c T locs cells slots) (hx : p.tables.exec = Jvm.exec) {x : Int32} {i : Int} {pt : Nat} (hd : decode c.code pc = .ok (.ifCond .ne i, 3)) (hp : pc + 3 = pc') (ho : 0 ≤ (pc : Int) + i) (ht : ((pc : Int) + i).toNat = pt) (Kt : ¬ (x = (0 : Int32)) → Dn p e below P (T.setTop (mkF m pt Ls st))) (Kf : x = (0 : Int32) → Dn p e below P (T.setTop (mkF m pc' Ls st))) : Dn p e below P (T.setTop (mkF m pc Ls (.int x :: st))) := by
  subst hp
  by_cases hq : x = (0 : Int32)
  · obtain ⟨s₂, o, h1, h2⟩ := Kf hq
    exact ⟨s₂, o, XS.ifNo X.here hx rfl hd rfl ((if0 _ _).trans (teq hq).2) h1, h2⟩
  · obtain ⟨s₂, o, h1, h2⟩ := Kt hq
    exact ⟨s₂, o, XS.ifYes X.here hx rfl (pc0 := pc) rfl hd rfl ((if0 _ _).trans (feq hq).2) ho ht h1, h2⟩
theorem o_icmp_ne (X : Stand p l e R s m args below meth c T locs cells slots) (hx : p.tables.exec = Jvm.exec) {x y : Int32} {i : Int} {pt : Nat} (hd : decode c.code pc = .ok (.if_icmp .ne i, 3)) (hp : pc + 3 = pc') (ho : 0 ≤ (pc : Int) + i) (ht : ((pc : Int) + i).toNat = pt) (Kt : ¬ (x = y) → Dn p e below P (T.setTop (mkF m pt Ls st))) (Kf : x = y → Dn p e below P (T.setTop (mkF m pc' Ls st))) : Dn p e below P (T.setTop (mkF m pc Ls (.int y :: .int x :: st))) := by
  subst hp
  by_cases hq : x = y
  · obtain ⟨s₂, o, h1, h2⟩ := Kf hq
    exact ⟨s₂, o, XS.icmpNo X.here hx rfl hd rfl (teq hq).2 h1, h2⟩
  · obtain ⟨s₂, o, h1, h2⟩ := Kt hq
    exact ⟨s₂, o, XS.icmpYes X.here hx rfl (pc0 := pc) rfl hd rfl (feq hq).2 ho ht h1, h2⟩
theorem o_lif_ne (X : Stand p l e R s m args below meth c T locs cells slots) (hx : p.tables.exec = Jvm.exec) {x y : Int64} {i : Int} {pt : Nat} (hd : decode c.code pc = .ok (.ifCond .ne i, 3)) (hp : pc + 3 = pc') (ho : 0 ≤ (pc : Int) + i) (ht : ((pc : Int) + i).toNat = pt) (Kt : ¬ (x = y) → Dn p e below P (T.setTop (mkF m pt Ls st))) (Kf : x = y → Dn p e below P (T.setTop (mkF m pc' Ls st))) : Dn p e below P (T.setTop (mkF m pc Ls (.int (lcmpW x y) :: st))) := by
  subst hp
  by_cases hq : x = y
  · obtain ⟨s₂, o, h1, h2⟩ := Kf hq
    exact ⟨s₂, o, XS.ifNo X.here hx rfl hd rfl ((if0 _ _).trans (teq ((lw_eq x y).mpr hq)).2) h1, h2⟩
  · obtain ⟨s₂, o, h1, h2⟩ := Kt hq
    exact ⟨s₂, o, XS.ifYes X.here hx rfl (pc0 := pc) rfl hd rfl ((if0 _ _).trans (feq (fun z => hq ((lw_eq x y).mp z))).2) ho ht h1, h2⟩
theorem o_if_lt (X : Stand p l e R s m args below meth c T locs cells slots) (hx : p.tables.exec = Jvm.exec) {x : Int32} {i : Int} {pt : Nat} (hd : decode c.code pc = .ok (.ifCond .lt i, 3)) (hp : pc + 3 = pc') (ho : 0 ≤ (pc : Int) + i) (ht : ((pc : Int) + i).toNat = pt) (Kt : x < (0 : Int32) → Dn p e below P (T.setTop (mkF m pt Ls st))) (Kf : ¬ (x < (0 : Int32)) → Dn p e below P (T.setTop (mkF m pc' Ls st))) : Dn p e below P (T.setTop (mkF m pc Ls (.int x :: st))) := by
  subst hp
  by_cases hq : x < (0 : Int32)
  · obtain ⟨s₂, o, h1, h2⟩ := Kt hq
    exact ⟨s₂, o, XS.ifYes X.here hx rfl (pc0 := pc) rfl hd rfl ((if0 _ _).trans (tlt hq).1) ho ht h1, h2⟩
  · obtain ⟨s₂, o, h1, h2⟩ := Kf hq
    exact ⟨s₂, o, XS.ifNo X.here hx rfl hd rfl ((if0 _ _).trans (flt hq).1) h1, h2⟩
theorem o_icmp_lt (X : Stand p l e R s m args below meth c T locs cells slots) (hx : p.tables.exec = Jvm.exec) {x y : Int32} {i : Int} {pt : Nat} (hd : decode c.code pc = .ok (.if_icmp .lt i, 3)) (hp : pc + 3 = pc') (ho : 0 ≤ (pc : Int) + i) (ht : ((pc : Int) + i).toNat = pt) (Kt : x < y → Dn p e below P (T.setTop (mkF m pt Ls st))) (Kf : ¬ (x < y) → Dn p e below P (T.setTop (mkF m pc' Ls st))) : Dn p e below P (T.setTop (mkF m pc Ls (.int y :: .int x :: st))) := by
  subst hp
  by_cases hq : x < y
  · obtain ⟨s₂, o, h1, h2⟩ := Kt hq
    exact ⟨s₂, o, XS.icmpYes X.here hx rfl (pc0 := pc) rfl hd rfl (tlt hq).1 ho ht h1, h2⟩
  · obtain ⟨s₂, o, h1, h2⟩ := Kf hq
    exact ⟨s₂, o, XS.icmpNo X.here hx rfl hd rfl (flt hq).1 h1, h2⟩
theorem o_lif_lt (X : Stand p l e R s m args below meth c T locs cells slots) (hx : p.tables.exec = Jvm.exec) {x y : Int64} {i : Int} {pt : Nat} (hd : decode c.code pc = .ok (.ifCond .lt i, 3)) (hp : pc + 3 = pc') (ho : 0 ≤ (pc : Int) + i) (ht : ((pc : Int) + i).toNat = pt) (Kt : x < y → Dn p e below P (T.setTop (mkF m pt Ls st))) (Kf : ¬ (x < y) → Dn p e below P (T.setTop (mkF m pc' Ls st))) : Dn p e below P (T.setTop (mkF m pc Ls (.int (lcmpW x y) :: st))) := by
  subst hp
  by_cases hq : x < y
  · obtain ⟨s₂, o, h1, h2⟩ := Kt hq
    exact ⟨s₂, o, XS.ifYes X.here hx rfl (pc0 := pc) rfl hd rfl ((if0 _ _).trans (tlt ((lw_lt x y).mpr hq)).1) ho ht h1, h2⟩
  · obtain ⟨s₂, o, h1, h2⟩ := Kf hq
    exact ⟨s₂, o, XS.ifNo X.here hx rfl hd rfl ((if0 _ _).trans (flt (fun z => hq ((lw_lt x y).mp z))).1) h1, h2⟩
theorem o_if_ge (X : Stand p l e R s m args below meth c T locs cells slots) (hx : p.tables.exec = Jvm.exec) {x : Int32} {i : Int} {pt : Nat} (hd : decode c.code pc = .ok (.ifCond .ge i, 3)) (hp : pc + 3 = pc') (ho : 0 ≤ (pc : Int) + i) (ht : ((pc : Int) + i).toNat = pt) (Kt : ¬ (x < (0 : Int32)) → Dn p e below P (T.setTop (mkF m pt Ls st))) (Kf : x < (0 : Int32) → Dn p e below P (T.setTop (mkF m pc' Ls st))) : Dn p e below P (T.setTop (mkF m pc Ls (.int x :: st))) := by
  subst hp
  by_cases hq : x < (0 : Int32)
  · obtain ⟨s₂, o, h1, h2⟩ := Kf hq
    exact ⟨s₂, o, XS.ifNo X.here hx rfl hd rfl ((if0 _ _).trans (tlt hq).2.1) h1, h2⟩
  · obtain ⟨s₂, o, h1, h2⟩ := Kt hq
    exact ⟨s₂, o, XS.ifYes X.here hx rfl (pc0 := pc) rfl hd rfl ((if0 _ _).trans (flt hq).2.1) ho ht h1, h2⟩
theorem o_icmp_ge (X : Stand p l e R s m args below meth c T locs cells slots) (hx : p.tables.exec = Jvm.exec) {x y : Int32} {i : Int} {pt : Nat} (hd : decode c.code pc = .ok (.if_icmp .ge i, 3)) (hp : pc + 3 = pc') (ho : 0 ≤ (pc : Int) + i) (ht : ((pc : Int) + i).toNat = pt) (Kt : ¬ (x < y) → Dn p e below P (T.setTop (mkF m pt Ls st))) (Kf : x < y → Dn p e below P (T.setTop (mkF m pc' Ls st))) : Dn p e below P (T.setTop (mkF m pc Ls (.int y :: .int x :: st))) := by
  subst hp
  by_cases hq : x < y
  · obtain ⟨s₂, o, h1, h2⟩ := Kf hq
    exact ⟨s₂, o, XS.icmpNo X.here hx rfl hd rfl (tlt hq).2.1 h1, h2⟩
  · obtain ⟨s₂, o, h1, h2⟩ := Kt hq
    exact ⟨s₂, o, XS.icmpYes X.here hx rfl (pc0 := pc) rfl hd rfl (flt hq).2.1 ho ht h1, h2⟩
theorem o_lif_ge (X : Stand p l e R s m args below meth c T locs cells slots) (hx : p.tables.exec = Jvm.exec) {x y : Int64} {i : Int} {pt : Nat} (hd : decode c.code pc = .ok (.ifCond .ge i, 3)) (hp : pc + 3 = pc') (ho : 0 ≤ (pc : Int) + i) (ht : ((pc : Int) + i).toNat = pt) (Kt : ¬ (x < y) → Dn p e below P (T.setTop (mkF m pt Ls st))) (Kf : x < y → Dn p e below P (T.setTop (mkF m pc' Ls st))) : Dn p e below P (T.setTop (mkF m pc Ls (.int (lcmpW x y) :: st))) := by
  subst hp
  by_cases hq : x < y
  · obtain ⟨s₂, o, h1, h2⟩ := Kf hq
    exact ⟨s₂, o, XS.ifNo X.here hx rfl hd rfl ((if0 _ _).trans (tlt ((lw_lt x y).mpr hq)).2.1) h1, h2⟩
  · obtain ⟨s₂, o, h1, h2⟩ := Kt hq
    exact ⟨s₂, o, XS.ifYes X.here hx rfl (pc0 := pc) rfl hd rfl ((if0 _ _).trans (flt (fun z => hq ((lw_lt x y).mp z))).2.1) ho ht h1, h2⟩
theorem o_if_gt (X : Stand p l e R s m args below meth c T locs cells slots) (hx : p.tables.exec = Jvm.exec) {x : Int32} {i : Int} {pt : Nat} (hd : decode c.code pc = .ok (.ifCond .gt i, 3)) (hp : pc + 3 = pc') (ho : 0 ≤ (pc : Int) + i) (ht : ((pc : Int) + i).toNat = pt) (Kt : (0 : Int32) < x → Dn p e below P (T.setTop (mkF m pt Ls st))) (Kf : ¬ ((0 : Int32) < x) → Dn p e below P (T.setTop (mkF m pc' Ls st))) : Dn p e below P (T.setTop (mkF m pc Ls (.int x :: st))) := by
  subst hp
  by_cases hq : (0 : Int32) < x
  · obtain ⟨s₂, o, h1, h2⟩ := Kt hq
    exact ⟨s₂, o, XS.ifYes X.here hx rfl (pc0 := pc) rfl hd rfl ((if0 _ _).trans (tlt hq).2.2.1) ho ht h1, h2⟩
  · obtain ⟨s₂, o, h1, h2⟩ := Kf hq
    exact ⟨s₂, o, XS.ifNo X.here hx rfl hd rfl ((if0 _ _).trans (flt hq).2.2.1) h1, h2⟩
theorem o_icmp_gt (X : Stand p l e R s m args below meth c T locs cells slots) (hx : p.tables.exec = Jvm.exec) {x y : Int32} {i : Int} {pt : Nat} (hd : decode c.code pc = .ok (.if_icmp .gt i, 3)) (hp : pc + 3 = pc') (ho : 0 ≤ (pc : Int) + i) (ht : ((pc : Int) + i).toNat = pt) (Kt : y < x → Dn p e below P (T.setTop (mkF m pt Ls st))) (Kf : ¬ (y < x) → Dn p e below P (T.setTop (mkF m pc' Ls st))) : Dn p e below P (T.setTop (mkF m pc Ls (.int y :: .int x :: st))) := by
  subst hp
  by_cases hq : y < x
  · obtain ⟨s₂, o, h1, h2⟩ := Kt hq
    exact ⟨s₂, o, XS.icmpYes X.here hx rfl (pc0 := pc) rfl hd rfl (tlt hq).2.2.1 ho ht h1, h2⟩
  · obtain ⟨s₂, o, h1, h2⟩ := Kf hq
    exact ⟨s₂, o, XS.icmpNo X.here hx rfl hd rfl (flt hq).2.2.1 h1, h2⟩
theorem o_lif_gt (X : Stand p l e R s m args below meth c T locs cells slots) (hx : p.tables.exec = Jvm.exec) {x y : Int64} {i : Int} {pt : Nat} (hd : decode c.code pc = .ok (.ifCond .gt i, 3)) (hp : pc + 3 = pc') (ho : 0 ≤ (pc : Int) + i) (ht : ((pc : Int) + i).toNat = pt) (Kt : y < x → Dn p e below P (T.setTop (mkF m pt Ls st))) (Kf : ¬ (y < x) → Dn p e below P (T.setTop (mkF m pc' Ls st))) : Dn p e below P (T.setTop (mkF m pc Ls (.int (lcmpW x y) :: st))) := by
  subst hp
  by_cases hq : y < x
  · obtain ⟨s₂, o, h1, h2⟩ := Kt hq
    exact ⟨s₂, o, XS.ifYes X.here hx rfl (pc0 := pc) rfl hd rfl ((if0 _ _).trans (tlt ((lw_gt x y).mpr hq)).2.2.1) ho ht h1, h2⟩
  · obtain ⟨s₂, o, h1, h2⟩ := Kf hq
    exact ⟨s₂, o, XS.ifNo X.here hx rfl hd rfl ((if0 _ _).trans (flt (fun z => hq ((lw_gt x y).mp z))).2.2.1) h1, h2⟩
theorem o_if_le (X : Stand p l e R s m args below meth c T locs cells slots) (hx : p.tables.exec = Jvm.exec) {x : Int32} {i : Int} {pt : Nat} (hd : decode c.code pc = .ok (.ifCond .le i, 3)) (hp : pc + 3 = pc') (ho : 0 ≤ (pc : Int) + i) (ht : ((pc : Int) + i).toNat = pt) (Kt : ¬ ((0 : Int32) < x) → Dn p e below P (T.setTop (mkF m pt Ls st))) (Kf : (0 : Int32) < x → Dn p e below P (T.setTop (mkF m pc' Ls st))) : Dn p e below P (T.setTop (mkF m pc Ls (.int x :: st))) := by
  subst hp
  by_cases hq : (0 : Int32) < x
  · obtain ⟨s₂, o, h1, h2⟩ := Kf hq
    exact ⟨s₂, o, XS.ifNo X.here hx rfl hd rfl ((if0 _ _).trans (tlt hq).2.2.2) h1, h2⟩
  · obtain ⟨s₂, o, h1, h2⟩ := Kt hq
    exact ⟨s₂, o, XS.ifYes X.here hx rfl (pc0 := pc) rfl hd rfl ((if0 _ _).trans (flt hq).2.2.2) ho ht h1, h2⟩
theorem o_icmp_le (X : Stand p l e R s m args below meth c T locs cells slots) (hx : p.tables.exec = Jvm.exec) {x y : Int32} {i : Int} {pt : Nat} (hd : decode c.code pc = .ok (.if_icmp .le i, 3)) (hp : pc + 3 = pc') (ho : 0 ≤ (pc : Int) + i) (ht : ((pc : Int) + i).toNat = pt) (Kt : ¬ (y < x) → Dn p e below P (T.setTop (mkF m pt Ls st))) (Kf : y < x → Dn p e below P (T.setTop (mkF m pc' Ls st))) : Dn p e below P (T.setTop (mkF m pc Ls (.int y :: .int x :: st))) := by
  subst hp
  by_cases hq : y < x
  · obtain ⟨s₂, o, h1, h2⟩ := Kf hq
    exact ⟨s₂, o, XS.icmpNo X.here hx rfl hd rfl (tlt hq).2.2.2 h1, h2⟩
  · obtain ⟨s₂, o, h1, h2⟩ := Kt hq
    exact ⟨s₂, o, XS.icmpYes X.here hx rfl (pc0 := pc) rfl hd rfl (flt hq).2.2.2 ho ht h1, h2⟩
theorem o_lif_le (X : Stand p l e R s m args below meth c T locs cells slots) (hx : p.tables.exec = Jvm.exec) {x y : Int64} {i : Int} {pt : Nat} (hd : decode c.code pc = .ok (.ifCond .le i, 3)) (hp : pc + 3 = pc') (ho : 0 ≤ (pc : Int) + i) (ht : ((pc : Int) + i).toNat = pt) (Kt : ¬ (y < x) → Dn p e below P (T.setTop (mkF m pt Ls st))) (Kf : y < x → Dn p e below P (T.setTop (mkF m pc' Ls st))) : Dn p e below P (T.setTop (mkF m pc Ls (.int (lcmpW x y) :: st))) := by
  subst hp
  by_cases hq : y < x
  · obtain ⟨s₂, o, h1, h2⟩ := Kf hq
    exact ⟨s₂, o, XS.ifNo X.here hx rfl hd rfl ((if0 _ _).trans (tlt ((lw_gt x y).mpr hq)).2.2.2) h1, h2⟩
  · obtain ⟨s₂, o, h1, h2⟩ := Kt hq
    exact ⟨s₂, o, XS.ifYes X.here hx rfl (pc0 := pc) rfl hd rfl ((if0 _ _).trans (flt (fun z => hq ((lw_gt x y).mp z))).2.2.2) ho ht h1, h2⟩
theorem o_acmp_eq (X : Stand p l e R s m args below meth c T locs cells slots) (hx : p.tables.exec = Jvm.exec) {x y : Value} {i : Int} {pt : Nat} (hd : decode c.code pc = .ok (.if_acmp .eq i, 3)) (hp : pc + 3 = pc') (ho : 0 ≤ (pc : Int) + i) (ht : ((pc : Int) + i).toNat = pt) (hv : x.isRef = true) (hw : y.isRef = true) (Kt : x = y → Dn p e below P (T.setTop (mkF m pt Ls st))) (Kf : ¬ (x = y) → Dn p e below P (T.setTop (mkF m pc' Ls st))) : Dn p e below P (T.setTop (mkF m pc Ls (y :: x :: st))) := by
  subst hp
  by_cases hq : x = y
  · obtain ⟨s₂, o, h1, h2⟩ := Kt hq
    exact ⟨s₂, o, Jvm.RoadKit.acmp (g := mkF m pc Ls (y :: x :: st)) X hx rfl hv hw (pc0 := pc) (same := true) rfl hd rfl (decide_eq_true hq) ho ht.symm h1, h2⟩
  · obtain ⟨s₂, o, h1, h2⟩ := Kf hq
    exact ⟨s₂, o, Jvm.RoadKit.acmp (g := mkF m pc Ls (y :: x :: st)) X hx rfl hv hw (pc0 := pc) (same := false) rfl hd rfl (decide_eq_false hq) ho rfl h1, h2⟩
theorem o_acmp_ne (X : Stand p l e R s m args below meth c T locs cells slots) (hx : p.tables.exec = Jvm.exec) {x y : Value} {i : Int} {pt : Nat} (hd : decode c.code pc = .ok (.if_acmp .ne i, 3)) (hp : pc + 3 = pc') (ho : 0 ≤ (pc : Int) + i) (ht : ((pc : Int) + i).toNat = pt) (hv : x.isRef = true) (hw : y.isRef = true) (Kt : ¬ (x = y) → Dn p e below P (T.setTop (mkF m pt Ls st))) (Kf : x = y → Dn p e below P (T.setTop (mkF m pc' Ls st))) : Dn p e below P (T.setTop (mkF m pc Ls (y :: x :: st))) := by
  subst hp
  by_cases hq : x = y
  · obtain ⟨s₂, o, h1, h2⟩ := Kf hq
    exact ⟨s₂, o, Jvm.RoadKit.acmp (g := mkF m pc Ls (y :: x :: st)) X hx rfl hv hw (pc0 := pc) (same := true) rfl hd rfl (decide_eq_true hq) ho rfl h1, h2⟩
  · obtain ⟨s₂, o, h1, h2⟩ := Kt hq
    exact ⟨s₂, o, Jvm.RoadKit.acmp (g := mkF m pc Ls (y :: x :: st)) X hx rfl hv hw (pc0 := pc) (same := false) rfl hd rfl (decide_eq_false hq) ho ht.symm h1, h2⟩
theorem o_ifnull_no (X : Stand p l e R s m args below meth c T locs cells slots) (hx : p.tables.exec = Jvm.exec) {b : Addr} {i : Int} (hd : decode c.code pc = .ok (.ifnull i, 3)) (hp : pc + 3 = pc') (K : Dn p e below P (T.setTop (mkF m pc' Ls st))) : Dn p e below P (T.setTop (mkF m pc Ls (.ref b :: st))) := by
  subst hp
  obtain ⟨s₂, o, h1, h2⟩ := K
  exact ⟨s₂, o, XS.ifnullNo X.here hx rfl hd rfl h1, h2⟩
theorem o_ifnull_yes (X : Stand p l e R s m args below meth c T locs cells slots) (hx : p.tables.exec = Jvm.exec) {i : Int} (hd : decode c.code pc = .ok (.ifnull i, 3)) (ho : 0 ≤ (pc : Int) + i) (hp : ((pc : Int) + i).toNat = pc') (K : Dn p e below P (T.setTop (mkF m pc' Ls st))) : Dn p e below P (T.setTop (mkF m pc Ls (.null :: st))) := by
  obtain ⟨s₂, o, h1, h2⟩ := K
  exact ⟨s₂, o, XS.ifnullYes X.here hx rfl (pc0 := pc) rfl hd rfl ho hp h1, h2⟩
theorem o_ifnonnull_yes (X : Stand p l e R s m args below meth c T locs cells slots) (hx : p.tables.exec = Jvm.exec) {b : Addr} {i : Int} (hd : decode c.code pc = .ok (.ifnonnull i, 3)) (ho : 0 ≤ (pc : Int) + i) (hp : ((pc : Int) + i).toNat = pc') (K : Dn p e below P (T.setTop (mkF m pc' Ls st))) : Dn p e below P (T.setTop (mkF m pc Ls (.ref b :: st))) := by
  obtain ⟨s₂, o, h1, h2⟩ := K
  exact ⟨s₂, o, XS.ifnonnullYes X.here hx rfl (pc0 := pc) rfl hd rfl ho hp h1, h2⟩
theorem o_ldc2 (X : Stand p l e R s m args below meth c T locs cells slots) (hx : p.tables.exec = Jvm.exec) (hZ : Z.Warmed39 s.vm) {own : String} {index : Nat} {v : Int64} (hown : s.vm.findClass own = some m.cls) (w : (Jvm.Cond.constantLong own index v).before a0 Z = true) (hd : decode c.code pc = .ok (.ldc2_w index, 3)) (hp : pc + 3 = pc') (K : Dn p e below P (T.setTop (mkF m pc' Ls (.long v :: st)))) : Dn p e below P (T.setTop (mkF m pc Ls st)) := by
  subst hp
  exact go (X.ldc2Long hx hown (mvT hZ w) (g := mkF m pc Ls st) rfl hd) K
theorem o_ldc (X : Stand p l e R s m args below meth c T locs cells slots) (hx : p.tables.exec = Jvm.exec) (hZ : Z.Warmed39 s.vm) {own : String} {index : Nat} {v : Int32} (hown : s.vm.findClass own = some m.cls) (w : (Jvm.Cond.constant own index v).before a0 Z = true) (hd : decode c.code pc = .ok (.ldc index, 2)) (hp : pc + 2 = pc') (K : Dn p e below P (T.setTop (mkF m pc' Ls (.int v :: st)))) : Dn p e below P (T.setTop (mkF m pc Ls st)) := by
  subst hp
  exact go (X.ldcInt hx hown (mvT hZ w) (g := mkF m pc Ls st) rfl hd) K
theorem o_ldcw (X : Stand p l e R s m args below meth c T locs cells slots) (hx : p.tables.exec = Jvm.exec) (hZ : Z.Warmed39 s.vm) {own : String} {index : Nat} {v : Int32} (hown : s.vm.findClass own = some m.cls) (w : (Jvm.Cond.constant own index v).before a0 Z = true) (hd : decode c.code pc = .ok (.ldc_w index, 3)) (hp : pc + 3 = pc') (K : Dn p e below P (T.setTop (mkF m pc' Ls (.int v :: st)))) : Dn p e below P (T.setTop (mkF m pc Ls st)) := by
  subst hp
  exact go (X.ldcwInt hx hown (mvT hZ w) (g := mkF m pc Ls st) rfl hd) K
theorem o_dup2 (X : Stand p l e R s m args below meth c T locs cells slots) (hx : p.tables.exec = Jvm.exec) {v w : Value} (hd : decode c.code pc = .ok (.dup2, 1)) (hp : pc + 1 = pc') (hv : v.category = 1) (hw : w.category = 1) (K : Dn p e below P (T.setTop (mkF m pc' Ls (v :: w :: v :: w :: st)))) : Dn p e below P (T.setTop (mkF m pc Ls (v :: w :: st))) := by
  subst hp
  obtain ⟨s₂, o, h1, h2⟩ := K
  exact ⟨s₂, o, XT.dup2 X.here hx rfl hd rfl hv hw h1, h2⟩
theorem o_iaload (X : Stand p l e R s m args below meth c T locs cells slots) (hx : p.tables.exec = Jvm.exec) (hZ : Z.Warmed39 s.vm) (eT : T.heap = h) {a : Addr} {k : ClassId} {n j : Int32} {vs : List Value} {d v : Value} (V : Arv Z h a k .int n vs d) (hj : ¬ j < 0 ∧ j < n) (hv : vs.getD j.toNatClampNeg d = v) (hd : decode c.code pc = .ok (.iaload, 1)) (hp : pc + 1 = pc') (K : Dn p e below P (T.setTop (mkF m pc' Ls (v :: st)))) : Dn p e below P (T.setTop (mkF m pc Ls (.int j :: .ref a :: st))) := by
  subst hp
  obtain ⟨cl, A, -, S, N, H, -⟩ := V
  have hin := inb_of S hj
  exact go (X.iaload hx (j := j) (v := v) (by rw [eT]; exact A.1) (State.isArrayOf_alike hZ.alike A.2.1) A.2.2 hin (H.at hin hv) (g := mkF m pc Ls (.int j :: .ref a :: st)) rfl rfl hd) K
theorem o_laload (X : Stand p l e R s m args below meth c T locs cells slots) (hx : p.tables.exec = Jvm.exec) (hZ : Z.Warmed39 s.vm) (eT : T.heap = h) {a : Addr} {k : ClassId} {n j : Int32} {vs : List Value} {d v : Value} (V : Arv Z h a k .long n vs d) (hj : ¬ j < 0 ∧ j < n) (hv : vs.getD j.toNatClampNeg d = v) (hd : decode c.code pc = .ok (.laload, 1)) (hp : pc + 1 = pc') (K : Dn p e below P (T.setTop (mkF m pc' Ls (v :: st)))) : Dn p e below P (T.setTop (mkF m pc Ls (.int j :: .ref a :: st))) := by
  subst hp
  obtain ⟨cl, A, -, S, N, H, -⟩ := V
  have hin := inb_of S hj
  exact go (X.laload hx (j := j) (v := v) (by rw [eT]; exact A.1) (State.isArrayOf_alike hZ.alike A.2.1) A.2.2 hin (H.at hin hv) (g := mkF m pc Ls (.int j :: .ref a :: st)) rfl rfl hd) K
theorem o_caload (X : Stand p l e R s m args below meth c T locs cells slots) (hx : p.tables.exec = Jvm.exec) (hZ : Z.Warmed39 s.vm) (eT : T.heap = h) {a : Addr} {k : ClassId} {n j : Int32} {vs : List Value} {d v : Value} (V : Arv Z h a k .char n vs d) (hj : ¬ j < 0 ∧ j < n) (hv : vs.getD j.toNatClampNeg d = v) (hd : decode c.code pc = .ok (.caload, 1)) (hp : pc + 1 = pc') (K : Dn p e below P (T.setTop (mkF m pc' Ls (v :: st)))) : Dn p e below P (T.setTop (mkF m pc Ls (.int j :: .ref a :: st))) := by
  subst hp
  obtain ⟨cl, A, -, S, N, H, -⟩ := V
  have hin := inb_of S hj
  exact go (X.caload hx (j := j) (v := v) (by rw [eT]; exact A.1) (State.isArrayOf_alike hZ.alike A.2.1) A.2.2 hin (H.at hin hv) (g := mkF m pc Ls (.int j :: .ref a :: st)) rfl rfl hd) K
theorem o_baload (X : Stand p l e R s m args below meth c T locs cells slots) (hx : p.tables.exec = Jvm.exec) (hZ : Z.Warmed39 s.vm) (eT : T.heap = h) {a : Addr} {k : ClassId} {n j : Int32} {vs : List Value} {d v : Value} (V : Arv Z h a k .byte n vs d) (hj : ¬ j < 0 ∧ j < n) (hv : vs.getD j.toNatClampNeg d = v) (hd : decode c.code pc = .ok (.baload, 1)) (hp : pc + 1 = pc') (K : Dn p e below P (T.setTop (mkF m pc' Ls (v :: st)))) : Dn p e below P (T.setTop (mkF m pc Ls (.int j :: .ref a :: st))) := by
  subst hp
  obtain ⟨cl, A, -, S, N, H, -⟩ := V
  have hin := inb_of S hj
  exact go (X.baloadBytes hx (j := j) (v := v) (by rw [eT]; exact A.1) (State.isArrayOf_alike hZ.alike A.2.1) A.2.2 hin (H.at hin hv) (g := mkF m pc Ls (.int j :: .ref a :: st)) rfl rfl hd) K
theorem o_aaload (X : Stand p l e R s m args below meth c T locs cells slots) (hx : p.tables.exec = Jvm.exec) (hZ : Z.Warmed39 s.vm) (eT : T.heap = h) {a : Addr} {k : ClassId} {n j : Int32} {vs : List Value} {d v : Value} {ty : FieldType} (V : Arv Z h a k ty n vs d) (hty : ty.isReference = true) (hj : ¬ j < 0 ∧ j < n) (hv : vs.getD j.toNatClampNeg d = v) (hd : decode c.code pc = .ok (.aaload, 1)) (hp : pc + 1 = pc') (K : Dn p e below P (T.setTop (mkF m pc' Ls (v :: st)))) : Dn p e below P (T.setTop (mkF m pc Ls (.int j :: .ref a :: st))) := by
  subst hp
  obtain ⟨cl, A, -, S, N, H, -⟩ := V
  have hin := inb_of S hj
  exact go (X.aaload hx (j := j) (v := v) (by rw [eT]; exact A.1) (State.isArrayOf_alike hZ.alike A.2.1) hty A.2.2 hin (H.at hin hv) (g := mkF m pc Ls (.int j :: .ref a :: st)) rfl rfl hd) K
theorem o_arraylength (X : Stand p l e R s m args below meth c T locs cells slots) (hx : p.tables.exec = Jvm.exec) (hZ : Z.Warmed39 s.vm) (eT : T.heap = h) {a : Addr} {k : ClassId} {n : Int32} {vs : List Value} {d : Value} {ty : FieldType} (V : Arv Z h a k ty n vs d) (hd : decode c.code pc = .ok (.arraylength, 1)) (hp : pc + 1 = pc') (K : Dn p e below P (T.setTop (mkF m pc' Ls (.int n :: st)))) : Dn p e below P (T.setTop (mkF m pc Ls (.ref a :: st))) := by
  subst hp
  obtain ⟨cl, A, -, S, N, H, -⟩ := V
  refine go (X.arraylength hx (by rw [eT]; exact A.1) (State.isArrayOf_alike hZ.alike A.2.1) (g := mkF m pc Ls (.ref a :: st)) rfl rfl hd) ?_
  rw [len_of S N]
  exact K
theorem o_iastore (X : Stand p l e R s m args below meth c T locs cells slots) (hx : p.tables.exec = Jvm.exec) (hZ : Z.Warmed39 s.vm) (eT : T.heap = h) {a : Addr} {k : ClassId} {n j : Int32} {vs : List Value} {d : Value} {x : Int32} (V : Arv Z h a k .int n vs d) (hj : ¬ j < 0 ∧ j < n) (i : Nat) (hi : j.toNatClampNeg = i) (hl : i < vs.length) (hd : decode c.code pc = .ok (.iastore, 1)) (hp : pc + 1 = pc') (K : ∀ T' h', Stand p l e R s m args below meth c T' (locs ++ [⟨a, j.toNatClampNeg⟩]) cells slots → T'.heap = h' → Wr h h' a j.toNatClampNeg (.int x) → Arv Z h' a k .int n (vs.set i (.int x)) d → Dn p e below P (T'.setTop (mkF m pc' Ls st))) : Dn p e below P (T.setTop (mkF m pc Ls (.int x :: .int j :: .ref a :: st))) := by
  subst hp
  obtain ⟨cl, A, q, S, N, H, G⟩ := V
  have hin := inb_of S hj
  obtain ⟨T', h', X', e', W', st'⟩ := stI X hx hZ eT A (j := j) (x := x) hin (g := mkF m pc Ls (.int x :: .int j :: .ref a :: st)) rfl rfl hd
  exact go st' (K T' h' X' e' W' (Arv.set A q S N H G rfl W' i hi hl))
theorem o_lastore (X : Stand p l e R s m args below meth c T locs cells slots) (hx : p.tables.exec = Jvm.exec) (hZ : Z.Warmed39 s.vm) (eT : T.heap = h) {a : Addr} {k : ClassId} {n j : Int32} {vs : List Value} {d : Value} {x : Int64} (V : Arv Z h a k .long n vs d) (hj : ¬ j < 0 ∧ j < n) (i : Nat) (hi : j.toNatClampNeg = i) (hl : i < vs.length) (hd : decode c.code pc = .ok (.lastore, 1)) (hp : pc + 1 = pc') (K : ∀ T' h', Stand p l e R s m args below meth c T' (locs ++ [⟨a, j.toNatClampNeg⟩]) cells slots → T'.heap = h' → Wr h h' a j.toNatClampNeg (.long x) → Arv Z h' a k .long n (vs.set i (.long x)) d → Dn p e below P (T'.setTop (mkF m pc' Ls st))) : Dn p e below P (T.setTop (mkF m pc Ls (.long x :: .int j :: .ref a :: st))) := by
  subst hp
  obtain ⟨cl, A, q, S, N, H, G⟩ := V
  have hin := inb_of S hj
  obtain ⟨T', h', X', e', W', st'⟩ := stJ X hx hZ eT A (j := j) (x := x) hin (g := mkF m pc Ls (.long x :: .int j :: .ref a :: st)) rfl rfl hd
  exact go st' (K T' h' X' e' W' (Arv.set A q S N H G rfl W' i hi hl))
theorem o_castore (X : Stand p l e R s m args below meth c T locs cells slots) (hx : p.tables.exec = Jvm.exec) (hZ : Z.Warmed39 s.vm) (eT : T.heap = h) {a : Addr} {k : ClassId} {n j : Int32} {vs : List Value} {d : Value} {x : Int32} (V : Arv Z h a k .char n vs d) (hj : ¬ j < 0 ∧ j < n) (i : Nat) (hi : j.toNatClampNeg = i) (hl : i < vs.length) (hd : decode c.code pc = .ok (.castore, 1)) (hp : pc + 1 = pc') (K : ∀ T' h', Stand p l e R s m args below meth c T' (locs ++ [⟨a, j.toNatClampNeg⟩]) cells slots → T'.heap = h' → Wr h h' a j.toNatClampNeg (.int (nar .char x)) → Arv Z h' a k .char n (vs.set i (.int (nar .char x))) d → Dn p e below P (T'.setTop (mkF m pc' Ls st))) : Dn p e below P (T.setTop (mkF m pc Ls (.int x :: .int j :: .ref a :: st))) := by
  subst hp
  obtain ⟨cl, A, q, S, N, H, G⟩ := V
  have hin := inb_of S hj
  obtain ⟨T', h', X', e', W', st'⟩ := stC X hx hZ eT A (j := j) (x := x) hin (g := mkF m pc Ls (.int x :: .int j :: .ref a :: st)) rfl rfl hd
  exact go st' (K T' h' X' e' W' (Arv.set A q S N H G (fits_nar_char x) W' i hi hl))
theorem o_bastore (X : Stand p l e R s m args below meth c T locs cells slots) (hx : p.tables.exec = Jvm.exec) (hZ : Z.Warmed39 s.vm) (eT : T.heap = h) {a : Addr} {k : ClassId} {n j : Int32} {vs : List Value} {d : Value} {x : Int32} (V : Arv Z h a k .byte n vs d) (hj : ¬ j < 0 ∧ j < n) (i : Nat) (hi : j.toNatClampNeg = i) (hl : i < vs.length) (hd : decode c.code pc = .ok (.bastore, 1)) (hp : pc + 1 = pc') (K : ∀ T' h', Stand p l e R s m args below meth c T' (locs ++ [⟨a, j.toNatClampNeg⟩]) cells slots → T'.heap = h' → Wr h h' a j.toNatClampNeg (.int (nar .byte x)) → Arv Z h' a k .byte n (vs.set i (.int (nar .byte x))) d → Dn p e below P (T'.setTop (mkF m pc' Ls st))) : Dn p e below P (T.setTop (mkF m pc Ls (.int x :: .int j :: .ref a :: st))) := by
  subst hp
  obtain ⟨cl, A, q, S, N, H, G⟩ := V
  have hin := inb_of S hj
  obtain ⟨T', h', X', e', W', st'⟩ := stB X hx hZ eT A (j := j) (x := x) hin (g := mkF m pc Ls (.int x :: .int j :: .ref a :: st)) rfl rfl hd
  exact go st' (K T' h' X' e' W' (Arv.set A q S N H G (fits_nar_byte x) W' i hi hl))
theorem o_newarray (X : Stand p l e R s m args below meth c T locs cells slots) (hx : p.tables.exec = Jvm.exec) (hZ : Z.Warmed39 s.vm) (eT : T.heap = h) {aty : ArrayType} (w : (Jvm.Cond.arrayClass (newarray.typeOf aty)).before a0 Z = true) (hd : decode c.code pc = .ok (.newarray aty, 2)) (hp : pc + 2 = pc') {n : Int32} (hn : ¬ n < 0) (cap : Nat) (hcap : n.toNatClampNeg ≤ cap) (hb : cap * 8 ≤ 536870912) (hc : cells + 1 ≤ R.cells) (hs : slots + cap ≤ R.slots) (K : ∀ T' h' a k, a = h.size → Stand p l e R s m args below meth c T' locs (cells + 1) (slots + cap) → T'.heap = h' → Ext h h' → Arv Z h' a k (newarray.typeOf aty) n [] (defaultValue (newarray.typeOf aty)) → Dn p e below P (T'.setTop (mkF m pc' Ls (.ref a :: st)))) : Dn p e below P (T.setTop (mkF m pc Ls (.int n :: st))) := by
  subst hp
  obtain ⟨T', h', k, X', e', E', A', st'⟩ := newP X hx hZ w eT (g := mkF m pc Ls (.int n :: st)) rfl hd rfl hn hcap hb hc hs
  exact go st' (K T' h' _ k rfl X' e' E' (Arv.new A' hn))
theorem o_getfield (X : Stand p l e R s m args below meth c T locs cells slots) (hx : p.tables.exec = Jvm.exec) (hZ : Z.Warmed39 s.vm) {own O n d : String} {index : Nat} (hown : s.vm.findClass own = some m.cls) (w : (Jvm.Cond.fieldLink own index O n d).before a0 Z = true) (eT : T.heap = h) {a : Addr} {v : Value} (F : Fld Z h a O n d v) (hd : decode c.code pc = .ok (.getfield index, 3)) (hp : pc + 3 = pc') (K : ∀ T', Stand p l e R s m args below meth c T' locs cells slots → T'.heap = h → Dn p e below P (T'.setTop (mkF m pc' Ls (v :: st)))) : Dn p e below P (T.setTop (mkF m pc Ls (.ref a :: st))) := by
  subst hp
  obtain ⟨T', X', e', st'⟩ := getF X hx hZ hown (host := "") (Or.inl w) Via.refl eT F (g := mkF m pc Ls (.ref a :: st)) rfl rfl hd
  exact go st' (K T' X' e')
theorem o_getfieldN (X : Stand p l e R s m args below meth c T locs cells slots) (hx : p.tables.exec = Jvm.exec) (hZ : Z.Warmed39 s.vm) {own O n d host : String} {index : Nat} (hown : s.vm.findClass own = some m.cls) (w : (Jvm.Cond.fieldLinkNest own index O n d host).before a0 Z = true) (eT : T.heap = h) {a : Addr} {v : Value} (F : Fld Z h a O n d v) (hd : decode c.code pc = .ok (.getfield index, 3)) (hp : pc + 3 = pc') (K : ∀ T', Stand p l e R s m args below meth c T' locs cells slots → T'.heap = h → Dn p e below P (T'.setTop (mkF m pc' Ls (v :: st)))) : Dn p e below P (T.setTop (mkF m pc Ls (.ref a :: st))) := by
  subst hp
  obtain ⟨T', X', e', st'⟩ := getF X hx hZ hown (host := host) (Or.inr w) Via.refl eT F (g := mkF m pc Ls (.ref a :: st)) rfl rfl hd
  exact go st' (K T' X' e')
theorem o_putfield (X : Stand p l e R s m args below meth c T locs cells slots) (hx : p.tables.exec = Jvm.exec) (hZ : Z.Warmed39 s.vm) {own O n d C : String} {index kk : Nat} {ty : FieldType} (hown : s.vm.findClass own = some m.cls) (w : (Jvm.Cond.fieldLink own index O n d).before a0 Z = true) (eT : T.heap = h) {a : Addr} {v v' old : Value} (F : Fld Z h a O n d old) (E : Exa Z h a C) (L : (Jvm.Cond.lays C O n d).before a0 Z = true ∨ ((Jvm.Cond.laysFinal C O n d).before a0 Z = true ∧ own = O ∧ meth.name = "<init>")) (wi : (Jvm.Cond.instantiable C kk).before a0 Z = true) (hty : parseFieldDescriptor d = some ty) (hn : narrow ty v = v') (hf : fits ty v' = true) (hd : decode c.code pc = .ok (.putfield index, 3)) (hp : pc + 3 = pc') (K : ∀ T' h', Stand p l e R s m args below meth c T' (locs ++ [⟨a, Jvm.RoadKit.slotOf Z O n d⟩]) cells slots → T'.heap = h' → Wr h h' a (Jvm.RoadKit.slotOf Z O n d) v' → Fld Z h' a O n d v' → Exa Z h' a C → Dn p e below P (T'.setTop (mkF m pc' Ls st))) : Dn p e below P (T.setTop (mkF m pc Ls (v :: .ref a :: st))) := by
  subst hp
  obtain ⟨T', h', X', e', W', st'⟩ := putFN X hx hZ hown w Via.refl eT F E L wi hty hn hf (g := mkF m pc Ls (v :: .ref a :: st)) rfl rfl hd
  exact go st' (K T' h' X' e' W' (F.same W') (E.wr W'))
theorem o_getstatic (X : Stand p l e R s m args below meth c T locs cells slots) (hx : p.tables.exec = Jvm.exec) (hZ : Z.Warmed39 s.vm) {own O n d : String} {index : Nat} (hown : s.vm.findClass own = some m.cls) (w : (Jvm.Cond.fieldLink own index O n d).before a0 Z = true) (eT : T.heap = h) {v : Value} (F : Sta Z h O n d v) (hd : decode c.code pc = .ok (.getstatic index, 3)) (hp : pc + 3 = pc') (K : ∀ T', Stand p l e R s m args below meth c T' locs cells slots → T'.heap = h → Dn p e below P (T'.setTop (mkF m pc' Ls (v :: st)))) : Dn p e below P (T.setTop (mkF m pc Ls st)) := by
  subst hp
  obtain ⟨T', X', e', st'⟩ := getS2 X hx hZ hown (host := "") (Or.inl w) Via.refl eT F (g := mkF m pc Ls st) rfl hd
  exact go st' (K T' X' e')
theorem o_new (X : Stand p l e R s m args below meth c T locs cells slots) (hx : p.tables.exec = Jvm.exec) (hZ : Z.Warmed39 s.vm) {own C : String} {index n : Nat} (hown : s.vm.findClass own = some m.cls) (w : (Jvm.Cond.classLink own index C).before a0 Z = true) (wi : (Jvm.Cond.instantiable C n).before a0 Z = true) (wz : (Jvm.Cond.initialized C).before a0 Z = true) (eT : T.heap = h) (hd : decode c.code pc = .ok (.new index, 3)) (hp : pc + 3 = pc') (hc : cells + 1 ≤ R.cells) (hs : slots + n ≤ R.slots) (K : ∀ T' h' a, a = h.size → Stand p l e R s m args below meth c T' locs (cells + 1) (slots + n) → T'.heap = h' → Ext h h' → Exa Z h' a C → (∀ {O nm d : String} {ty : FieldType}, Laid Z a0 C O nm d → parseFieldDescriptor d = some ty → Fld Z h' a O nm d (defaultValue ty)) → Dn p e below P (T'.setTop (mkF m pc' Ls (.ref a :: st)))) : Dn p e below P (T.setTop (mkF m pc Ls st)) := by
  subst hp
  obtain ⟨T', h', X', e', E', A', D', -, st'⟩ := newO X hx hZ hown w wi wz eT (g := mkF m pc Ls st) rfl hd hc hs
  exact go st' (K T' h' _ rfl X' e' E' A' D')
theorem o_initO (X : Stand p l e R s m args below meth c T locs cells slots) (hx : p.tables.exec = Jvm.exec) (hZ : Z.Warmed39 s.vm) {own : String} {index : Nat} (hown : s.vm.findClass own = some m.cls) (w1 : (Jvm.Cond.methodLink own index Lib.objectInit).before a0 Z = true) (w2 : (Jvm.Cond.instanceMethod Lib.objectInit).before a0 Z = true) (w3 : (Jvm.Cond.code Lib.objectInit ⟨#[0xb1]⟩ 1 none).before a0 Z = true) (eT : T.heap = h) (hsize : Ls.size = c.maxLocals) {a : Addr} (hd : decode c.code pc = .ok (.invokespecial index, 3)) (hp : pc + 3 = pc') (hf : 1 ≤ R.frames) {W : Nat} (hW : 2 * 0 + (st.map fun v => v.category).sum ≤ W) (hl : W + 12 ≤ R.locals) (K : ∀ T', Stand p l e R s m args below meth c T' locs cells slots → T'.heap = h → Dn p e below P (T'.setTop (mkF m pc' Ls st))) : Dn p e below P (T.setTop (mkF m pc Ls (.ref a :: st))) := by
  subst hp
  obtain ⟨T', X', e', st'⟩ := initO X hx hZ hown w1 w2 w3 eT (g := mkF m pc Ls (.ref a :: st)) rfl hsize rfl hd hf (W := W) hW hl
  exact go st' (K T' X' e')
theorem o_callS (X : Stand p l e R s m args below meth c T locs cells slots) (hx : p.tables.exec = Jvm.exec) (hZ : Z.Warmed39 s.vm) {own : String} {index : Nat} {y : MethodName} {bytes : ByteArray} {maxL : Nat} {ret : Option FieldType} {Rm : Room} {Q : Option Value → Heap → List Loc → Prop} {ps : List FieldType} (argsL : List Value) {as' : Array Value} (C : Ctr l Z y bytes maxL ret [] Rm as' h Q) (hown : s.vm.findClass own = some m.cls) (w1 : (Jvm.Cond.methodLink own index y).before a0 Z = true) (w2 : (Jvm.Cond.static y).before a0 Z = true) (w3 : (Jvm.Cond.initialized y.cls).before a0 Z = true) (w4 : (Jvm.Cond.code y bytes maxL ret).before a0 Z = true) (hy : y.cls ≠ "java/lang/invoke/MethodHandle" ∧ y.cls ≠ "java/lang/invoke/VarHandle") (hpd : parseMethodDescriptor y.desc = some ⟨ps, ret⟩) (eT : T.heap = h) (hsize : Ls.size = c.maxLocals) {stk : List Value} (has : as' = argsL.toArray) (hln : argsL.length = ps.length) (hst : stk = argsL.reverse ++ st) (hd : decode c.code pc = .ok (.invokestatic index, 3)) (hp : pc + 3 = pc') (W : Nat) (hW : 2 * 0 + (st.map fun v => v.category).sum ≤ W) (hf : Rm.frames + 1 ≤ R.frames) (hl : W + (maxL + 11) + Rm.locals ≤ R.locals) (hc : cells + Rm.cells ≤ R.cells) (hs : slots + Rm.slots ≤ R.slots) (K : ∀ T' v L, Stand p l e R s m args below meth c T' (locs ++ L) (cells + Rm.cells) (slots + Rm.slots) → Q v T'.heap L → Dn p e below P (T'.setTop (mkF m pc' Ls (v.toList ++ st)))) : Dn p e below P (T.setTop (mkF m pc Ls stk)) := by
  subst hp has hst
  obtain ⟨v, vm₁, ⟨T', L', k', n'⟩, -, X', ⟨L, hQ, l1, y1, z1⟩, st'⟩ := Jvm.LawKit.callS X hx (y := y) hown (mvT hZ w1) (mvT hZ w2) (mvT hZ w3) (mvT hZ w4) hy (backOf (W := W) C hZ w4 w3 hf hl) (g := mkF m pc Ls (argsL.reverse ++ st)) rfl hsize (argsL := argsL) (rest := st) (lenOf hpd hln) rfl hW hd (fun _ _ => ⟨rfl, eT, hc, hs⟩)
  dsimp only [Pt.U, Pt.locs, Pt.cells, Pt.slots] at X' l1 y1 z1 st' hQ
  subst l1 y1 z1
  exact go st' (K T' v L X' hQ)
theorem o_callI (X : Stand p l e R s m args below meth c T locs cells slots) (hx : p.tables.exec = Jvm.exec) (hZ : Z.Warmed39 s.vm) {own : String} {index : Nat} {y : MethodName} {bytes : ByteArray} {maxL : Nat} {Rm : Room} {Q : Option Value → Heap → List Loc → Prop} {ps : List FieldType} (a : Addr) (argsL : List Value) {as' : Array Value} (C : Ctr l Z y bytes maxL none [] Rm as' h Q) (hy1 : y.name = "<init>") (hown : s.vm.findClass own = some m.cls) (w1 : (Jvm.Cond.methodLink own index y).before a0 Z = true) (w2 : (Jvm.Cond.instanceMethod y).before a0 Z = true) (w3 : (Jvm.Cond.initialized y.cls).before a0 Z = true) (w4 : (Jvm.Cond.code y bytes maxL none).before a0 Z = true) (hy : y.cls ≠ "java/lang/invoke/MethodHandle" ∧ y.cls ≠ "java/lang/invoke/VarHandle") (hpd : parseMethodDescriptor y.desc = some ⟨ps, none⟩) (eT : T.heap = h) (hsize : Ls.size = c.maxLocals) {stk : List Value} (has : as' = (.ref a :: argsL).toArray) (hln : argsL.length = ps.length) (hst : stk = argsL.reverse ++ .ref a :: st) (hd : decode c.code pc = .ok (.invokespecial index, 3)) (hp : pc + 3 = pc') (W : Nat) (hW : 2 * 0 + (st.map fun v => v.category).sum ≤ W) (hf : Rm.frames + 1 ≤ R.frames) (hl : W + (maxL + 11) + Rm.locals ≤ R.locals) (hc : cells + Rm.cells ≤ R.cells) (hs : slots + Rm.slots ≤ R.slots) (K : ∀ T' v L, Stand p l e R s m args below meth c T' (locs ++ L) (cells + Rm.cells) (slots + Rm.slots) → Q v T'.heap L → Dn p e below P (T'.setTop (mkF m pc' Ls (v.toList ++ st)))) : Dn p e below P (T.setTop (mkF m pc Ls stk)) := by
  subst hp has hst
  obtain ⟨v, vm₁, ⟨T', L', k', n'⟩, -, X', ⟨L, hQ, l1, y1, z1⟩, st'⟩ := X.specialBack hx (y := y) hy1 hown (mvT hZ w1) (mvT hZ w2) (mvT hZ w4) hy (backOf (W := W) C hZ w4 w3 hf hl) (g := mkF m pc Ls (argsL.reverse ++ .ref a :: st)) rfl hsize (Steps.refl _) (a := a) (argsL := argsL) (rest := st) (lenOf hpd hln) rfl hW hd (fun _ _ => ⟨rfl, eT, hc, hs⟩)
  dsimp only [Pt.U, Pt.locs, Pt.cells, Pt.slots] at X' l1 y1 z1 st' hQ
  subst l1 y1 z1
  exact goS st' (K T' v L X' hQ)
theorem o_callV (X : Stand p l e R s m args below meth c T locs cells slots) (hx : p.tables.exec = Jvm.exec) (hZ : Z.Warmed39 s.vm) {own Cc : String} {index : Nat} {y : MethodName} {bytes : ByteArray} {maxL : Nat} {ret : Option FieldType} {Rm : Room} {Q : Option Value → Heap → List Loc → Prop} {ps : List FieldType} (a : Addr) (argsL : List Value) {as' : Array Value} (C : Ctr l Z y bytes maxL ret [] Rm as' h Q) (hown : s.vm.findClass own = some m.cls) (w1 : (Jvm.Cond.methodLink own index y).before a0 Z = true) (w5 : (Jvm.Cond.declares y).before a0 Z = true) (w6 : (Jvm.Cond.selects Cc y y).before a0 Z = true) (w2 : (Jvm.Cond.instanceMethod y).before a0 Z = true) (w3 : (Jvm.Cond.initialized y.cls).before a0 Z = true) (w4 : (Jvm.Cond.code y bytes maxL ret).before a0 Z = true) (hy : y.cls ≠ "java/lang/invoke/MethodHandle" ∧ y.cls ≠ "java/lang/invoke/VarHandle") (E : Exa Z h a Cc) (hpd : parseMethodDescriptor y.desc = some ⟨ps, ret⟩) (eT : T.heap = h) (hsize : Ls.size = c.maxLocals) {stk : List Value} (has : as' = (.ref a :: argsL).toArray) (hln : argsL.length = ps.length) (hst : stk = argsL.reverse ++ .ref a :: st) (hd : decode c.code pc = .ok (.invokevirtual index, 3)) (hp : pc + 3 = pc') (W : Nat) (hW : 2 * 0 + (st.map fun v => v.category).sum ≤ W) (hf : Rm.frames + 1 ≤ R.frames) (hl : W + (maxL + 11) + Rm.locals ≤ R.locals) (hc : cells + Rm.cells ≤ R.cells) (hs : slots + Rm.slots ≤ R.slots) (K : ∀ T' v L, Stand p l e R s m args below meth c T' (locs ++ L) (cells + Rm.cells) (slots + Rm.slots) → Q v T'.heap L → Dn p e below P (T'.setTop (mkF m pc' Ls (v.toList ++ st)))) : Dn p e below P (T.setTop (mkF m pc Ls stk)) := by
  subst hp has hst
  obtain ⟨cq, kq, qa, qb, qc⟩ := isOf (T := T) hZ eT E
  obtain ⟨v, vm₁, ⟨T', L', k', n'⟩, -, X', ⟨L, hQ, l1, y1, z1⟩, st'⟩ := X.virtualBack hx (y := y) (z := y) hown (mvT hZ w1) (mvT hZ w5) (notFace_of_selects (args := #[]) (mvT hZ w6)) (mvT hZ w6) (mvT hZ w2) hy (backOf (W := W) C hZ w4 w3 hf hl) qa qc (g := mkF m pc Ls (argsL.reverse ++ .ref a :: st)) rfl hsize (Steps.refl _) (argsL := argsL) (rest := st) (lenOf hpd hln) rfl hW hd (fun _ _ => ⟨rfl, eT, hc, hs⟩)
  dsimp only [Pt.U, Pt.locs, Pt.cells, Pt.slots] at X' l1 y1 z1 st' hQ
  subst l1 y1 z1
  exact goS st' (K T' v L X' hQ)
theorem o_callP (X : Stand p l e R s m args below meth c T locs cells slots) (hx : p.tables.exec = Jvm.exec) (hZ : Z.Warmed39 s.vm) {own : String} {index : Nat} {y : MethodName} {bytes : ByteArray} {maxL : Nat} {ret : Option FieldType} {Rm : Room} {Q : Option Value → Heap → List Loc → Prop} {ps : List FieldType} (a : Addr) (argsL : List Value) {as' : Array Value} (C : Ctr l Z y bytes maxL ret [] Rm as' h Q) (hown : s.vm.findClass own = some m.cls) (w1 : (Jvm.Cond.methodLink own index y).before a0 Z = true) {kk : Nat} (w6 : (Jvm.Cond.instantiable y.cls kk).before a0 Z = true) (w7 : (Jvm.Cond.privateMethod y).before a0 Z = true) (w2 : (Jvm.Cond.instanceMethod y).before a0 Z = true) (w3 : (Jvm.Cond.initialized y.cls).before a0 Z = true) (w4 : (Jvm.Cond.code y bytes maxL ret).before a0 Z = true) (hy : y.cls ≠ "java/lang/invoke/MethodHandle" ∧ y.cls ≠ "java/lang/invoke/VarHandle") {Cc : String} (E : Exa Z h a Cc) (hpd : parseMethodDescriptor y.desc = some ⟨ps, ret⟩) (eT : T.heap = h) (hsize : Ls.size = c.maxLocals) {stk : List Value} (has : as' = (.ref a :: argsL).toArray) (hln : argsL.length = ps.length) (hst : stk = argsL.reverse ++ .ref a :: st) (hd : decode c.code pc = .ok (.invokevirtual index, 3)) (hp : pc + 3 = pc') (W : Nat) (hW : 2 * 0 + (st.map fun v => v.category).sum ≤ W) (hf : Rm.frames + 1 ≤ R.frames) (hl : W + (maxL + 11) + Rm.locals ≤ R.locals) (hc : cells + Rm.cells ≤ R.cells) (hs : slots + Rm.slots ≤ R.slots) (K : ∀ T' v L, Stand p l e R s m args below meth c T' (locs ++ L) (cells + Rm.cells) (slots + Rm.slots) → Q v T'.heap L → Dn p e below P (T'.setTop (mkF m pc' Ls (v.toList ++ st)))) : Dn p e below P (T.setTop (mkF m pc Ls stk)) := by
  subst hp has hst
  obtain ⟨cq, q1, q2⟩ := E.cell
  obtain ⟨cc, kc, hcc, hkc, -, hni, -, -⟩ := Jvm.Cond.instantiable_spec (mvT (args := args) hZ w6)
  have hpv := Jvm.Cond.privateMethod_at (mvP hZ w7 (args := #[]))
  have hsel := selects_self_of_private (args := args) hcc hkc (Bool.or_eq_false_iff.mp hni).1 hpv (mvT hZ w2) hy
  obtain ⟨v, vm₁, ⟨T', L', k', n'⟩, -, X', ⟨L, hQ, l1, y1, z1⟩, st'⟩ := X.privateBack hx (y := y) hown (mvT hZ w1) (mvT hZ w2) hsel hpv (mvT hZ w4) hy (backOf (W := W) C hZ w4 w3 hf hl) (g := mkF m pc Ls (argsL.reverse ++ .ref a :: st)) rfl hsize (Steps.refl _) (a := a) (by rw [eT]; exact q1) q2 (argsL := argsL) (rest := st) (lenOf hpd hln) rfl hW hd (fun _ _ => ⟨rfl, eT, hc, hs⟩)
  dsimp only [Pt.U, Pt.locs, Pt.cells, Pt.slots] at X' l1 y1 z1 st' hQ
  subst l1 y1 z1
  exact goS st' (K T' v L X' hQ)
abbrev Pure (v0 : Value) (h0 : Heap) : Option Value → Heap → List Loc → Prop := fun v h L => v = some v0 ∧ L = [] ∧ h = h0
theorem o_callSP (X : Stand p l e R s m args below meth c T locs cells slots) (hx : p.tables.exec = Jvm.exec) (hZ : Z.Warmed39 s.vm) {own : String} {index : Nat} {y : MethodName} {bytes : ByteArray} {maxL : Nat} {ret : Option FieldType} {Rm : Room} {v0 : Value} {ps : List FieldType} (argsL : List Value) {as' : Array Value} (C : Ctr l Z y bytes maxL ret [] Rm as' h (Pure v0 h)) (hown : s.vm.findClass own = some m.cls) (w1 : (Jvm.Cond.methodLink own index y).before a0 Z = true) (w2 : (Jvm.Cond.static y).before a0 Z = true) (w3 : (Jvm.Cond.initialized y.cls).before a0 Z = true) (w4 : (Jvm.Cond.code y bytes maxL ret).before a0 Z = true) (hy : y.cls ≠ "java/lang/invoke/MethodHandle" ∧ y.cls ≠ "java/lang/invoke/VarHandle") (hpd : parseMethodDescriptor y.desc = some ⟨ps, ret⟩) (eT : T.heap = h) (hsize : Ls.size = c.maxLocals) {stk : List Value} (has : as' = argsL.toArray) (hln : argsL.length = ps.length) (hst : stk = argsL.reverse ++ st) (hd : decode c.code pc = .ok (.invokestatic index, 3)) (hp : pc + 3 = pc') (W : Nat) (hW : 2 * 0 + (st.map fun v => v.category).sum ≤ W) (hf : Rm.frames + 1 ≤ R.frames) (hl : W + (maxL + 11) + Rm.locals ≤ R.locals) (hc0 : Rm.cells = 0) (hs0 : Rm.slots = 0) (hc : cells ≤ R.cells) (hs : slots ≤ R.slots) (K : ∀ T', Stand p l e R s m args below meth c T' locs cells slots → T'.heap = h → Dn p e below P (T'.setTop (mkF m pc' Ls (v0 :: st)))) : Dn p e below P (T.setTop (mkF m pc Ls stk)) := by
  refine o_callS X hx hZ argsL C hown w1 w2 w3 w4 hy hpd eT hsize has hln hst hd hp W hW hf hl (by rw [hc0]; exact hc) (by rw [hs0]; exact hs) ?_
  intro T' v L X' hQ
  obtain ⟨rfl, rfl, e'⟩ := hQ
  rw [List.append_nil, hc0, hs0] at X'
  exact K T' X' e'
theorem o_callVP (X : Stand p l e R s m args below meth c T locs cells slots) (hx : p.tables.exec = Jvm.exec) (hZ : Z.Warmed39 s.vm) {own Cc : String} {index : Nat} {y : MethodName} {bytes : ByteArray} {maxL : Nat} {ret : Option FieldType} {Rm : Room} {v0 : Value} {ps : List FieldType} (a : Addr) (argsL : List Value) {as' : Array Value} (C : Ctr l Z y bytes maxL ret [] Rm as' h (Pure v0 h)) (hown : s.vm.findClass own = some m.cls) (w1 : (Jvm.Cond.methodLink own index y).before a0 Z = true) (w5 : (Jvm.Cond.declares y).before a0 Z = true) (w6 : (Jvm.Cond.selects Cc y y).before a0 Z = true) (w2 : (Jvm.Cond.instanceMethod y).before a0 Z = true) (w3 : (Jvm.Cond.initialized y.cls).before a0 Z = true) (w4 : (Jvm.Cond.code y bytes maxL ret).before a0 Z = true) (hy : y.cls ≠ "java/lang/invoke/MethodHandle" ∧ y.cls ≠ "java/lang/invoke/VarHandle") (E : Exa Z h a Cc) (hpd : parseMethodDescriptor y.desc = some ⟨ps, ret⟩) (eT : T.heap = h) (hsize : Ls.size = c.maxLocals) {stk : List Value} (has : as' = (.ref a :: argsL).toArray) (hln : argsL.length = ps.length) (hst : stk = argsL.reverse ++ .ref a :: st) (hd : decode c.code pc = .ok (.invokevirtual index, 3)) (hp : pc + 3 = pc') (W : Nat) (hW : 2 * 0 + (st.map fun v => v.category).sum ≤ W) (hf : Rm.frames + 1 ≤ R.frames) (hl : W + (maxL + 11) + Rm.locals ≤ R.locals) (hc0 : Rm.cells = 0) (hs0 : Rm.slots = 0) (hc : cells ≤ R.cells) (hs : slots ≤ R.slots) (K : ∀ T', Stand p l e R s m args below meth c T' locs cells slots → T'.heap = h → Dn p e below P (T'.setTop (mkF m pc' Ls (v0 :: st)))) : Dn p e below P (T.setTop (mkF m pc Ls stk)) := by
  refine o_callV X hx hZ a argsL C hown w1 w5 w6 w2 w3 w4 hy E hpd eT hsize has hln hst hd hp W hW hf hl (by rw [hc0]; exact hc) (by rw [hs0]; exact hs) ?_
  intro T' v L X' hQ
  obtain ⟨rfl, rfl, e'⟩ := hQ
  rw [List.append_nil, hc0, hs0] at X'
  exact K T' X' e'
theorem o_callPP (X : Stand p l e R s m args below meth c T locs cells slots) (hx : p.tables.exec = Jvm.exec) (hZ : Z.Warmed39 s.vm) {own : String} {index : Nat} {y : MethodName} {bytes : ByteArray} {maxL : Nat} {ret : Option FieldType} {Rm : Room} {v0 : Value} {ps : List FieldType} (a : Addr) (argsL : List Value) {as' : Array Value} (C : Ctr l Z y bytes maxL ret [] Rm as' h (Pure v0 h)) (hown : s.vm.findClass own = some m.cls) (w1 : (Jvm.Cond.methodLink own index y).before a0 Z = true) {kk : Nat} (w6 : (Jvm.Cond.instantiable y.cls kk).before a0 Z = true) (w7 : (Jvm.Cond.privateMethod y).before a0 Z = true) (w2 : (Jvm.Cond.instanceMethod y).before a0 Z = true) (w3 : (Jvm.Cond.initialized y.cls).before a0 Z = true) (w4 : (Jvm.Cond.code y bytes maxL ret).before a0 Z = true) (hy : y.cls ≠ "java/lang/invoke/MethodHandle" ∧ y.cls ≠ "java/lang/invoke/VarHandle") {Cc : String} (E : Exa Z h a Cc) (hpd : parseMethodDescriptor y.desc = some ⟨ps, ret⟩) (eT : T.heap = h) (hsize : Ls.size = c.maxLocals) {stk : List Value} (has : as' = (.ref a :: argsL).toArray) (hln : argsL.length = ps.length) (hst : stk = argsL.reverse ++ .ref a :: st) (hd : decode c.code pc = .ok (.invokevirtual index, 3)) (hp : pc + 3 = pc') (W : Nat) (hW : 2 * 0 + (st.map fun v => v.category).sum ≤ W) (hf : Rm.frames + 1 ≤ R.frames) (hl : W + (maxL + 11) + Rm.locals ≤ R.locals) (hc0 : Rm.cells = 0) (hs0 : Rm.slots = 0) (hc : cells ≤ R.cells) (hs : slots ≤ R.slots) (K : ∀ T', Stand p l e R s m args below meth c T' locs cells slots → T'.heap = h → Dn p e below P (T'.setTop (mkF m pc' Ls (v0 :: st)))) : Dn p e below P (T.setTop (mkF m pc Ls stk)) := by
  refine o_callP X hx hZ a argsL C hown w1 w6 w7 w2 w3 w4 hy E hpd eT hsize has hln hst hd hp W hW hf hl (by rw [hc0]; exact hc) (by rw [hs0]; exact hs) ?_
  intro T' v L X' hQ
  obtain ⟨rfl, rfl, e'⟩ := hQ
  rw [List.append_nil, hc0, hs0] at X'
  exact K T' X' e'
end Own
def own_iv (f : Nat → Int32) : List Value := (List.range 2048).map fun i => Value.int (f i)
theorem own_ilen (f : Nat → Int32) : (own_iv f).length = 2048 := by simp [own_iv]
theorem own_iget (f : Nat → Int32) {i : Nat} (hi : i < 2048) (d : Value) : (own_iv f).getD i d = .int (f i) := by
  simp [own_iv, List.getD, hi]
theorem own_iset (f : Nat → Int32) (i : Nat) (x : Int32) : (own_iv f).set i (.int x) = own_iv (fun j => if j = i then x else f j) := by
  apply List.ext_getElem
  · simp [own_iv]
  · intro n h1 h2
    simp only [own_iv, List.getElem_set, List.getElem_map, List.getElem_range]
    by_cases q : i = n
    · subst q; simp
    · have q' : ¬ n = i := fun z => q z.symm
      simp [q, q']
theorem own_izero : ∀ i, (own_iv (fun _ => 0)).getD i (.int 0) = ([] : List Value).getD i (.int 0) := by
  intro i
  by_cases q : i < 2048
  · rw [own_iget _ q]; rfl
  · simp [own_iv, List.getD, q]
/-- a position with one king on the squares B, all its cells below t -/
def Pos (Z : State) (h : Heap) (t : Nat) (a : Addr) (B : Int64) : Prop :=
  ∃ (bp bc : Addr) (kp kc : ClassId), a < t ∧ bp < t ∧ bc < t ∧ Exa Z h a "com/example/jadoube/jadoube/Position" ∧ Fld Z h a "com/example/jadoube/jadoube/Position" "pieces" "[J" (.ref bp) ∧ Fld Z h a "com/example/jadoube/jadoube/Position" "colours" "[J" (.ref bc) ∧ Fld Z h a "com/example/jadoube/jadoube/Position" "sideToMove" "I" (.int 0) ∧ Fld Z h a "com/example/jadoube/jadoube/Position" "castlingRooks" "J" (.long 0) ∧ Fld Z h a "com/example/jadoube/jadoube/Position" "enPassant" "I" (.int (-1)) ∧ Fld Z h a "com/example/jadoube/jadoube/Position" "chess960" "Z" (.int 0) ∧
    Arv Z h bp kp .long 6 [.long 0, .long 0, .long 0, .long 0, .long 0, .long B] (.long 0) ∧ Arv Z h bc kc .long 2 [.long B, .long 0] (.long 0)
theorem Pos.keep {Z : State} {h h' : Heap} {t : Nat} {a : Addr} {B : Int64} {ws : List Addr} (F : Pos Z h t a B) (K : Keep h h' ws) (q : ∀ x ∈ ws, t ≤ x) : Pos Z h' t a B := by
  obtain ⟨bp, bc, kp, kc, h1, h2, h3, E, f1, f2, f3, f4, f5, f6, v1, v2⟩ := F
  have n1 : a ∉ ws := fun z => absurd (q a z) (Nat.not_le.mpr h1)
  have n2 : bp ∉ ws := fun z => absurd (q bp z) (Nat.not_le.mpr h2)
  have n3 : bc ∉ ws := fun z => absurd (q bc z) (Nat.not_le.mpr h3)
  exact ⟨bp, bc, kp, kc, h1, h2, h3, E.keep K, f1.keep K n1, f2.keep K n1, f3.keep K n1, f4.keep K n1, f5.keep K n1, f6.keep K n1, v1.keep K n2, v2.keep K n3⟩
theorem Pos.ext {Z : State} {h h' : Heap} {t : Nat} {a : Addr} {B : Int64} (F : Pos Z h t a B) (E' : Ext h h') : Pos Z h' t a B := F.keep ((Keep.refl h []).ext E') (fun x hx => nomatch hx)
theorem Pos.mono {Z : State} {h : Heap} {t t' : Nat} {a : Addr} {B : Int64} (F : Pos Z h t a B) (q : t ≤ t') : Pos Z h t' a B := by
  obtain ⟨bp, bc, kp, kc, h1, h2, h3, r⟩ := F
  exact ⟨bp, bc, kp, kc, Nat.lt_of_lt_of_le h1 q, Nat.lt_of_lt_of_le h2 q, Nat.lt_of_lt_of_le h3 q, r⟩
/-- the table at t: n entries, their parents, their moves, the slots' numbers -/
def Tab (Z : State) (h : Heap) (t : Addr) (n : Int32) (pv mv : List Value) (f : Nat → Int32) : Prop :=
  ∃ (ge sc wd pa mo sl : Addr) (k1 k2 k3 k4 k5 : ClassId) (x y : Int64) (vs : List Value) (u : Value) (w : Int32), t < ge ∧ ge < sc ∧ sc < wd ∧ wd < pa ∧ pa < mo ∧ mo < sl ∧
    Exa Z h t "com/example/jadoube/jadoube/PositionTable" ∧ Exa Z h ge "com/example/jadoube/jadoube/MoveGenerator" ∧ Fld Z h t "com/example/jadoube/jadoube/PositionTable" "width" "I" (.int 2) ∧ Fld Z h t "com/example/jadoube/jadoube/PositionTable" "scratch" "[J" (.ref sc) ∧ Fld Z h t "com/example/jadoube/jadoube/PositionTable" "words" "[J" (.ref wd) ∧ Fld Z h t "com/example/jadoube/jadoube/PositionTable" "parents" "[I" (.ref pa) ∧ Fld Z h t "com/example/jadoube/jadoube/PositionTable" "moves" "[I" (.ref mo) ∧ Fld Z h t "com/example/jadoube/jadoube/PositionTable" "slots" "[I" (.ref sl) ∧ Fld Z h t "com/example/jadoube/jadoube/PositionTable" "size" "I" (.int n) ∧ Fld Z h t "com/example/jadoube/jadoube/PositionTable" "generator" "Lcom/example/jadoube/jadoube/MoveGenerator;" (.ref ge) ∧
    Fld Z h ge "com/example/jadoube/jadoube/MoveGenerator" "moves" "[I" u ∧ Fld Z h ge "com/example/jadoube/jadoube/MoveGenerator" "size" "I" (.int w) ∧ Arv Z h sc k1 .long 2 [.long x, .long y] (.long 0) ∧ Arv Z h wd k2 .long 2048 vs (.long 0) ∧ Arv Z h pa k3 .int 1024 pv (.int 0) ∧ Arv Z h mo k4 .int 1024 mv (.int 0) ∧ Arv Z h sl k5 .int 2048 (own_iv f) (.int 0)
theorem Tab.exa {Z : State} {h : Heap} {t : Addr} {n : Int32} {pv mv : List Value} {f : Nat → Int32} (F : Tab Z h t n pv mv f) : Exa Z h t "com/example/jadoube/jadoube/PositionTable" := by
  obtain ⟨ge, sc, wd, pa, mo, sl, k1, k2, k3, k4, k5, x, y, vs, u, w, -, -, -, -, -, -, E, -⟩ := F
  exact E
theorem Pos.exa {Z : State} {h : Heap} {t : Nat} {a : Addr} {B : Int64} (F : Pos Z h t a B) : Exa Z h a "com/example/jadoube/jadoube/Position" := by
  obtain ⟨bp, bc, kp, kc, -, -, -, E, -⟩ := F
  exact E
theorem all7 {t a b c d e f g : Nat} (h1 : t ≤ a) (h2 : a < b) (h3 : b < c) (h4 : c < d) (h5 : d < e) (h6 : e < f) (h7 : f < g) : ∀ x ∈ [a, b, c, d, e, f, g], t ≤ x := by
  intro x hx
  simp only [List.mem_cons, List.not_mem_nil, or_false] at hx
  omega
theorem d17_0 : decode prog_31_method_9_code 0 = .ok (.aload_n 0, 1) := by decide +kernel
theorem d17_1 : decode prog_31_method_9_code 1 = .ok (.getfield 16, 3) := by decide +kernel
theorem d17_4 : decode prog_31_method_9_code 4 = .ok (.ireturn, 1) := by decide +kernel
theorem pn_17 : plainFor (⟨"com/example/jadoube/jadoube/Position", "sideToMove", "()I"⟩ : MethodName) = true := plainFor_of_name (by show plainName "com/example/jadoube/jadoube/Position" = true; first | (simp [plainName, overriddenIn]; done) | decide +kernel)
theorem ef_17 (m : MethodId) (a1 : Addr) : entryFrame m #[(.ref a1)] 1 = mkF m 0 #[.val (.ref a1)] [] := by first | (simp [entryFrame, mkF, argsToLocals, Value.category]; done) | rfl
set_option maxRecDepth 65536 in
set_option maxHeartbeats 40000000 in
theorem rm17 (l : Launch) (Z : State) (a0 : Array Value) (hw : ∀ d ∈ tables_1, d.before a0 Z = true) (h0 : Heap) (n0 : Nat) (Z0 : n0 ≤ h0.size) (a1 : Addr) (hF : Fld Z h0 a1 "com/example/jadoube/jadoube/Position" "sideToMove" "I" (.int (0 : Int32))) : Ctr l Z (⟨"com/example/jadoube/jadoube/Position", "sideToMove", "()I"⟩ : MethodName) prog_31_method_9_code 1 (some .int) [] ({ frames := 0, cells := 0, slots := 0, locals := 0 } : Room) #[(.ref a1)] h0 (Pure ((.int (0 : Int32))) h0) := by
  refine ctr_mk pn_17 (own := "com/example/jadoube/jadoube/Position") (mn := "sideToMove") rfl rfl ?_
  intro p e s m below meth c T0 X0 hx hby hml hZ hown hnm hret hlk e0
  refine o_entry (ef_17 m a1) ?_
  refine o_aloadN X0 hx (pc' := 1) (hb hby d17_0) rfl rfl rfl ?_
  refine o_getfield X0 hx hZ hown (hw _ (List.mem_of_getElem? (i := 18) rfl)) e0 hF (hb hby d17_1) (pc' := 4) rfl ?_
  intro T1 X1 e1
  exact finI X1 hx hlk hret (hb hby d17_4) (by decide) (by decide) ⟨rfl, rfl, e1⟩
theorem d8_0 : decode prog_31_method_10_code 0 = .ok (.aload_n 0, 1) := by decide +kernel
theorem d8_1 : decode prog_31_method_10_code 1 = .ok (.getfield 20, 3) := by decide +kernel
theorem d8_4 : decode prog_31_method_10_code 4 = .ok (.lreturn, 1) := by decide +kernel
theorem pn_8 : plainFor (⟨"com/example/jadoube/jadoube/Position", "castlingRooks", "()J"⟩ : MethodName) = true := plainFor_of_name (by show plainName "com/example/jadoube/jadoube/Position" = true; first | (simp [plainName, overriddenIn]; done) | decide +kernel)
theorem ef_8 (m : MethodId) (a1 : Addr) : entryFrame m #[(.ref a1)] 1 = mkF m 0 #[.val (.ref a1)] [] := by first | (simp [entryFrame, mkF, argsToLocals, Value.category]; done) | rfl
set_option maxRecDepth 65536 in
set_option maxHeartbeats 40000000 in
theorem rm8 (l : Launch) (Z : State) (a0 : Array Value) (hw : ∀ d ∈ tables_1, d.before a0 Z = true) (h0 : Heap) (n0 : Nat) (Z0 : n0 ≤ h0.size) (a1 : Addr) (hF : Fld Z h0 a1 "com/example/jadoube/jadoube/Position" "castlingRooks" "J" (.long (0 : Int64))) : Ctr l Z (⟨"com/example/jadoube/jadoube/Position", "castlingRooks", "()J"⟩ : MethodName) prog_31_method_10_code 1 (some .long) [] ({ frames := 0, cells := 0, slots := 0, locals := 0 } : Room) #[(.ref a1)] h0 (Pure ((.long (0 : Int64))) h0) := by
  refine ctr_mk pn_8 (own := "com/example/jadoube/jadoube/Position") (mn := "castlingRooks") rfl rfl ?_
  intro p e s m below meth c T0 X0 hx hby hml hZ hown hnm hret hlk e0
  refine o_entry (ef_8 m a1) ?_
  refine o_aloadN X0 hx (pc' := 1) (hb hby d8_0) rfl rfl rfl ?_
  refine o_getfield X0 hx hZ hown (hw _ (List.mem_of_getElem? (i := 20) rfl)) e0 hF (hb hby d8_1) (pc' := 4) rfl ?_
  intro T1 X1 e1
  exact finJ X1 hx hlk hret (hb hby d8_4) (by decide) (by decide) ⟨rfl, rfl, e1⟩
theorem d20_0 : decode prog_31_method_12_code 0 = .ok (.aload_n 0, 1) := by decide +kernel
theorem d20_1 : decode prog_31_method_12_code 1 = .ok (.getfield 24, 3) := by decide +kernel
theorem d20_4 : decode prog_31_method_12_code 4 = .ok (.ireturn, 1) := by decide +kernel
theorem pn_20 : plainFor (⟨"com/example/jadoube/jadoube/Position", "enPassant", "()I"⟩ : MethodName) = true := plainFor_of_name (by show plainName "com/example/jadoube/jadoube/Position" = true; first | (simp [plainName, overriddenIn]; done) | decide +kernel)
theorem ef_20 (m : MethodId) (a1 : Addr) : entryFrame m #[(.ref a1)] 1 = mkF m 0 #[.val (.ref a1)] [] := by first | (simp [entryFrame, mkF, argsToLocals, Value.category]; done) | rfl
set_option maxRecDepth 65536 in
set_option maxHeartbeats 40000000 in
theorem rm20 (l : Launch) (Z : State) (a0 : Array Value) (hw : ∀ d ∈ tables_1, d.before a0 Z = true) (h0 : Heap) (n0 : Nat) (Z0 : n0 ≤ h0.size) (a1 : Addr) (hF : Fld Z h0 a1 "com/example/jadoube/jadoube/Position" "enPassant" "I" (.int (-1 : Int32))) : Ctr l Z (⟨"com/example/jadoube/jadoube/Position", "enPassant", "()I"⟩ : MethodName) prog_31_method_12_code 1 (some .int) [] ({ frames := 0, cells := 0, slots := 0, locals := 0 } : Room) #[(.ref a1)] h0 (Pure ((.int (-1 : Int32))) h0) := by
  refine ctr_mk pn_20 (own := "com/example/jadoube/jadoube/Position") (mn := "enPassant") rfl rfl ?_
  intro p e s m below meth c T0 X0 hx hby hml hZ hown hnm hret hlk e0
  refine o_entry (ef_20 m a1) ?_
  refine o_aloadN X0 hx (pc' := 1) (hb hby d20_0) rfl rfl rfl ?_
  refine o_getfield X0 hx hZ hown (hw _ (List.mem_of_getElem? (i := 22) rfl)) e0 hF (hb hby d20_1) (pc' := 4) rfl ?_
  intro T1 X1 e1
  exact finI X1 hx hlk hret (hb hby d20_4) (by decide) (by decide) ⟨rfl, rfl, e1⟩
theorem d9_0 : decode prog_31_method_5_code 0 = .ok (.aload_n 0, 1) := by decide +kernel
theorem d9_1 : decode prog_31_method_5_code 1 = .ok (.getfield 33, 3) := by decide +kernel
theorem d9_4 : decode prog_31_method_5_code 4 = .ok (.ireturn, 1) := by decide +kernel
theorem pn_9 : plainFor (⟨"com/example/jadoube/jadoube/Position", "isChess960", "()Z"⟩ : MethodName) = true := plainFor_of_name (by show plainName "com/example/jadoube/jadoube/Position" = true; first | (simp [plainName, overriddenIn]; done) | decide +kernel)
theorem ef_9 (m : MethodId) (a1 : Addr) : entryFrame m #[(.ref a1)] 1 = mkF m 0 #[.val (.ref a1)] [] := by first | (simp [entryFrame, mkF, argsToLocals, Value.category]; done) | rfl
set_option maxRecDepth 65536 in
set_option maxHeartbeats 40000000 in
theorem rm9 (l : Launch) (Z : State) (a0 : Array Value) (hw : ∀ d ∈ tables_1, d.before a0 Z = true) (h0 : Heap) (n0 : Nat) (Z0 : n0 ≤ h0.size) (a1 : Addr) (hF : Fld Z h0 a1 "com/example/jadoube/jadoube/Position" "chess960" "Z" (.int (0 : Int32))) : Ctr l Z (⟨"com/example/jadoube/jadoube/Position", "isChess960", "()Z"⟩ : MethodName) prog_31_method_5_code 1 (some .boolean) [] ({ frames := 0, cells := 0, slots := 0, locals := 0 } : Room) #[(.ref a1)] h0 (Pure ((.int (0 : Int32))) h0) := by
  refine ctr_mk pn_9 (own := "com/example/jadoube/jadoube/Position") (mn := "isChess960") rfl rfl ?_
  intro p e s m below meth c T0 X0 hx hby hml hZ hown hnm hret hlk e0
  refine o_entry (ef_9 m a1) ?_
  refine o_aloadN X0 hx (pc' := 1) (hb hby d9_0) rfl rfl rfl ?_
  refine o_getfield X0 hx hZ hown (hw _ (List.mem_of_getElem? (i := 28) rfl)) e0 hF (hb hby d9_1) (pc' := 4) rfl ?_
  intro T1 X1 e1
  exact finN X1 hx hlk (t := .boolean) hret (by simp) (hb hby d9_4) (by decide) (by decide) ⟨rfl, rfl, e1⟩
theorem d6_0 : decode prog_31_method_8_code 0 = .ok (.aload_n 0, 1) := by decide +kernel
theorem d6_1 : decode prog_31_method_8_code 1 = .ok (.getfield 13, 3) := by decide +kernel
theorem d6_4 : decode prog_31_method_8_code 4 = .ok (.iload_n 1, 1) := by decide +kernel
theorem d6_5 : decode prog_31_method_8_code 5 = .ok (.laload, 1) := by decide +kernel
theorem d6_6 : decode prog_31_method_8_code 6 = .ok (.lreturn, 1) := by decide +kernel
theorem pn_6 : plainFor (⟨"com/example/jadoube/jadoube/Position", "colour", "(I)J"⟩ : MethodName) = true := plainFor_of_name (by show plainName "com/example/jadoube/jadoube/Position" = true; first | (simp [plainName, overriddenIn]; done) | decide +kernel)
theorem ef_6 (m : MethodId) (a1 : Addr) (p2 : Int32) : entryFrame m #[(.ref a1), (.int p2)] 2 = mkF m 0 #[.val (.ref a1), .val (.int p2)] [] := by first | (simp [entryFrame, mkF, argsToLocals, Value.category]; done) | rfl
set_option maxRecDepth 65536 in
set_option maxHeartbeats 40000000 in
theorem rm6 (l : Launch) (Z : State) (a0 : Array Value) (hw : ∀ d ∈ tables_1, d.before a0 Z = true) (h0 : Heap) (n0 : Nat) (Z0 : n0 ≤ h0.size) (a1 : Addr) (p2 : Int32) (bc : Addr) (kc : ClassId) (vs : List Value) (r : Int64) (hF : Fld Z h0 a1 "com/example/jadoube/jadoube/Position" "colours" "[J" (.ref bc)) (hV : Arv Z h0 bc kc .long 2 vs (.long 0)) (hj : ¬ p2 < 0 ∧ p2 < 2) (hv : vs.getD p2.toNatClampNeg (.long 0) = .long r) : Ctr l Z (⟨"com/example/jadoube/jadoube/Position", "colour", "(I)J"⟩ : MethodName) prog_31_method_8_code 2 (some .long) [] ({ frames := 0, cells := 0, slots := 0, locals := 0 } : Room) #[(.ref a1), (.int p2)] h0 (Pure (.long r) h0) := by
  refine ctr_mk pn_6 (own := "com/example/jadoube/jadoube/Position") (mn := "colour") rfl rfl ?_
  intro p e s m below meth c T0 X0 hx hby hml hZ hown hnm hret hlk e0
  refine o_entry (ef_6 m a1 p2) ?_
  refine o_aloadN X0 hx (pc' := 1) (hb hby d6_0) rfl rfl rfl ?_
  refine o_getfield X0 hx hZ hown (hw _ (List.mem_of_getElem? (i := 16) rfl)) e0 hF (hb hby d6_1) (pc' := 4) rfl ?_
  intro T1 X1 e1
  refine o_iloadN X1 hx (pc' := 5) (hb hby d6_4) rfl rfl ?_
  refine o_laload X1 hx hZ e1 hV hj (v := (.long r)) hv (hb hby d6_5) (pc' := 6) rfl ?_
  exact finJ X1 hx hlk hret (hb hby d6_6) (by decide) (by decide) ⟨rfl, rfl, e1⟩
theorem d21_0 : decode prog_31_method_11_code 0 = .ok (.iconst 0, 1) := by decide +kernel
theorem d21_1 : decode prog_31_method_11_code 1 = .ok (.istore_n 1, 1) := by decide +kernel
theorem d21_2 : decode prog_31_method_11_code 2 = .ok (.aload_n 0, 1) := by decide +kernel
theorem d21_3 : decode prog_31_method_11_code 3 = .ok (.getfield 20, 3) := by decide +kernel
theorem d21_6 : decode prog_31_method_11_code 6 = .ok (.lstore_n 2, 1) := by decide +kernel
theorem d21_7 : decode prog_31_method_11_code 7 = .ok (.lload_n 2, 1) := by decide +kernel
theorem d21_8 : decode prog_31_method_11_code 8 = .ok (.lconst 0, 1) := by decide +kernel
theorem d21_9 : decode prog_31_method_11_code 9 = .ok (.lcmp, 1) := by decide +kernel
theorem d21_10 : decode prog_31_method_11_code 10 = .ok (.ifCond .eq 45, 3) := by decide +kernel
theorem d21_55 : decode prog_31_method_11_code 55 = .ok (.iload_n 1, 1) := by decide +kernel
theorem d21_56 : decode prog_31_method_11_code 56 = .ok (.ireturn, 1) := by decide +kernel
theorem pn_21 : plainFor (⟨"com/example/jadoube/jadoube/Position", "castlingRights", "()I"⟩ : MethodName) = true := plainFor_of_name (by show plainName "com/example/jadoube/jadoube/Position" = true; first | (simp [plainName, overriddenIn]; done) | decide +kernel)
theorem ef_21 (m : MethodId) (a1 : Addr) : entryFrame m #[(.ref a1)] 5 = mkF m 0 #[.val (.ref a1), .unset, .unset, .unset, .unset] [] := by first | (simp [entryFrame, mkF, argsToLocals, Value.category]; done) | rfl
set_option maxRecDepth 65536 in
set_option maxHeartbeats 40000000 in
theorem rm21 (l : Launch) (Z : State) (a0 : Array Value) (hw : ∀ d ∈ tables_1, d.before a0 Z = true) (h0 : Heap) (n0 : Nat) (Z0 : n0 ≤ h0.size) (a1 : Addr) (hF : Fld Z h0 a1 "com/example/jadoube/jadoube/Position" "castlingRooks" "J" (.long (0 : Int64))) : Ctr l Z (⟨"com/example/jadoube/jadoube/Position", "castlingRights", "()I"⟩ : MethodName) prog_31_method_11_code 5 (some .int) [] ({ frames := 0, cells := 0, slots := 0, locals := 0 } : Room) #[(.ref a1)] h0 (Pure (.int 0) h0) := by
  refine ctr_mk pn_21 (own := "com/example/jadoube/jadoube/Position") (mn := "castlingRights") rfl rfl ?_
  intro p e s m below meth c T0 X0 hx hby hml hZ hown hnm hret hlk e0
  refine o_entry (ef_21 m a1) ?_
  refine o_iconst X0 hx (pc' := 1) (v := (0 : Int32)) (hb hby d21_0) rfl rfl ?_
  refine o_istoreN X0 hx (pc' := 2) (Ls' := #[.val (.ref a1), .val (.int (0 : Int32)), .unset, .unset, .unset]) (hb hby d21_1) rfl rfl ?_
  refine o_aloadN X0 hx (pc' := 3) (hb hby d21_2) rfl rfl rfl ?_
  refine o_getfield X0 hx hZ hown (hw _ (List.mem_of_getElem? (i := 20) rfl)) e0 hF (hb hby d21_3) (pc' := 6) rfl ?_
  intro T1 X1 e1
  refine o_lstoreN X1 hx (pc' := 7) (Ls' := #[.val (.ref a1), .val (.int (0 : Int32)), .val (.long (0 : Int64)), .second, .unset]) (hb hby d21_6) rfl rfl ?_
  refine o_lloadN X1 hx (pc' := 8) (hb hby d21_7) rfl rfl ?_
  refine o_lconst X1 hx (pc' := 9) (v := (0 : Int64)) (hb hby d21_8) rfl rfl ?_
  refine o_lcmp X1 hx (pc' := 10) (hb hby d21_9) rfl ?_
  refine o_lif_eq X1 hx (pc' := 13) (pt := 55) (hb hby d21_10) rfl (by decide) (by decide) (fun _ => ?_) (fun q => absurd (by decide) q)
  refine o_iloadN X1 hx (pc' := 56) (hb hby d21_55) rfl rfl ?_
  exact finI X1 hx hlk hret (hb hby d21_56) (by decide) (by decide) ⟨rfl, rfl, e1⟩
theorem d14_0 : decode jdk_33_method_48_code 0 = .ok (.iload_n 0, 1) := by decide +kernel
theorem d14_1 : decode jdk_33_method_48_code 1 = .ok (.iconst (-1), 1) := by decide +kernel
theorem d14_2 : decode jdk_33_method_48_code 2 = .ok (.ixor, 1) := by decide +kernel
theorem d14_3 : decode jdk_33_method_48_code 3 = .ok (.iload_n 0, 1) := by decide +kernel
theorem d14_4 : decode jdk_33_method_48_code 4 = .ok (.iconst 1, 1) := by decide +kernel
theorem d14_5 : decode jdk_33_method_48_code 5 = .ok (.isub, 1) := by decide +kernel
theorem d14_6 : decode jdk_33_method_48_code 6 = .ok (.iand, 1) := by decide +kernel
theorem d14_7 : decode jdk_33_method_48_code 7 = .ok (.istore_n 0, 1) := by decide +kernel
theorem d14_8 : decode jdk_33_method_48_code 8 = .ok (.iload_n 0, 1) := by decide +kernel
theorem d14_9 : decode jdk_33_method_48_code 9 = .ok (.ifCond .gt 8, 3) := by decide +kernel
theorem d14_12 : decode jdk_33_method_48_code 12 = .ok (.iload_n 0, 1) := by decide +kernel
theorem d14_13 : decode jdk_33_method_48_code 13 = .ok (.bipush 32, 2) := by decide +kernel
theorem d14_15 : decode jdk_33_method_48_code 15 = .ok (.iand, 1) := by decide +kernel
theorem d14_16 : decode jdk_33_method_48_code 16 = .ok (.ireturn, 1) := by decide +kernel
theorem pn_14 : plainFor (⟨"java/lang/Integer", "numberOfTrailingZeros", "(I)I"⟩ : MethodName) = true := plainFor_of_name (by show plainName "java/lang/Integer" = true; first | (simp [plainName, overriddenIn]; done) | decide +kernel)
theorem ef_14_1 (m : MethodId)  : entryFrame m #[(.int (1 : Int32))] 2 = mkF m 0 #[.val (.int (1 : Int32)), .unset] [] := by first | (simp [entryFrame, mkF, argsToLocals, Value.category]; done) | rfl
set_option maxRecDepth 65536 in
set_option maxHeartbeats 40000000 in
theorem rmP14_1 (l : Launch) (Z : State) (a0 : Array Value) (hw : ∀ d ∈ tables_1, d.before a0 Z = true) (h0 : Heap) (n0 : Nat) (Z0 : n0 ≤ h0.size)   : Ctr l Z (⟨"java/lang/Integer", "numberOfTrailingZeros", "(I)I"⟩ : MethodName) jdk_33_method_48_code 2 (some .int) [] ({ frames := 0, cells := 0, slots := 0, locals := 0 } : Room) #[(.int (1 : Int32))] h0 (Pure ((.int (0 : Int32))) h0) := by
  refine ctr_mk pn_14 (own := "java/lang/Integer") (mn := "numberOfTrailingZeros") rfl rfl ?_
  intro p e s m below meth c T0 X0 hx hby hml hZ hown hnm hret hlk e0
  refine o_entry (ef_14_1 m ) ?_
  refine o_iloadN X0 hx (pc' := 1) (hb hby d14_0) rfl rfl ?_
  refine o_iconst X0 hx (pc' := 2) (v := (-1 : Int32)) (hb hby d14_1) rfl rfl ?_
  refine o_ixor X0 hx (pc' := 3) (hb hby d14_2) rfl ?_
  rw [show ((1 : Int32) ^^^ (-1 : Int32)) = (-2 : Int32) from by decide +kernel]
  refine o_iloadN X0 hx (pc' := 4) (hb hby d14_3) rfl rfl ?_
  refine o_iconst X0 hx (pc' := 5) (v := (1 : Int32)) (hb hby d14_4) rfl rfl ?_
  refine o_isub X0 hx (pc' := 6) (hb hby d14_5) rfl ?_
  rw [show ((1 : Int32) - (1 : Int32)) = (0 : Int32) from by decide +kernel]
  refine o_iand X0 hx (pc' := 7) (hb hby d14_6) rfl ?_
  rw [show ((-2 : Int32) &&& (0 : Int32)) = (0 : Int32) from by decide +kernel]
  refine o_istoreN X0 hx (pc' := 8) (Ls' := #[.val (.int (0 : Int32)), .unset]) (hb hby d14_7) rfl rfl ?_
  refine o_iloadN X0 hx (pc' := 9) (hb hby d14_8) rfl rfl ?_
  refine o_if_gt X0 hx (pc' := 12) (pt := 17) (hb hby d14_9) rfl (by decide) (by decide) (fun q => absurd q (by decide)) (fun _ => ?_)
  refine o_iloadN X0 hx (pc' := 13) (hb hby d14_12) rfl rfl ?_
  refine o_bipush X0 hx (pc' := 15) (v := (32 : Int32)) (hb hby d14_13) rfl rfl ?_
  refine o_iand X0 hx (pc' := 16) (hb hby d14_15) rfl ?_
  rw [show ((0 : Int32) &&& (32 : Int32)) = (0 : Int32) from by decide +kernel]
  exact finI X0 hx hlk hret (hb hby d14_16) (by decide) (by decide) ⟨rfl, rfl, e0⟩
theorem pd_0 : parseMethodDescriptor "(I)I" = some ⟨[.int], some .int⟩ := by decide +kernel
theorem d13_0 : decode jdk_35_method_49_code 0 = .ok (.lload_n 0, 1) := by decide +kernel
theorem d13_1 : decode jdk_35_method_49_code 1 = .ok (.l2i, 1) := by decide +kernel
theorem d13_2 : decode jdk_35_method_49_code 2 = .ok (.istore_n 2, 1) := by decide +kernel
theorem d13_3 : decode jdk_35_method_49_code 3 = .ok (.iload_n 2, 1) := by decide +kernel
theorem d13_4 : decode jdk_35_method_49_code 4 = .ok (.ifCond .ne 17, 3) := by decide +kernel
theorem d13_21 : decode jdk_35_method_49_code 21 = .ok (.iload_n 2, 1) := by decide +kernel
theorem d13_22 : decode jdk_35_method_49_code 22 = .ok (.invokestatic 311, 3) := by decide +kernel
theorem d13_25 : decode jdk_35_method_49_code 25 = .ok (.ireturn, 1) := by decide +kernel
theorem pn_13 : plainFor (⟨"java/lang/Long", "numberOfTrailingZeros", "(J)I"⟩ : MethodName) = true := plainFor_of_name (by show plainName "java/lang/Long" = true; first | (simp [plainName, overriddenIn]; done) | decide +kernel)
theorem ef_13_1 (m : MethodId)  : entryFrame m #[(.long (1 : Int64))] 3 = mkF m 0 #[.val (.long (1 : Int64)), .second, .unset] [] := by first | (simp [entryFrame, mkF, argsToLocals, Value.category]; done) | rfl
set_option maxRecDepth 65536 in
set_option maxHeartbeats 40000000 in
theorem rmP13_1 (l : Launch) (Z : State) (a0 : Array Value) (hw : ∀ d ∈ tables_1, d.before a0 Z = true) (h0 : Heap) (n0 : Nat) (Z0 : n0 ≤ h0.size)   : Ctr l Z (⟨"java/lang/Long", "numberOfTrailingZeros", "(J)I"⟩ : MethodName) jdk_35_method_49_code 3 (some .int) [] ({ frames := 1, cells := 0, slots := 0, locals := 13 } : Room) #[(.long (1 : Int64))] h0 (Pure ((.int (0 : Int32))) h0) := by
  refine ctr_mk pn_13 (own := "java/lang/Long") (mn := "numberOfTrailingZeros") rfl rfl ?_
  intro p e s m below meth c T0 X0 hx hby hml hZ hown hnm hret hlk e0
  refine o_entry (ef_13_1 m ) ?_
  refine o_lloadN X0 hx (pc' := 1) (hb hby d13_0) rfl rfl ?_
  refine o_l2i X0 hx (pc' := 2) (hb hby d13_1) rfl ?_
  rw [show ((1 : Int64).toInt32) = (1 : Int32) from by decide +kernel]
  refine o_istoreN X0 hx (pc' := 3) (Ls' := #[.val (.long (1 : Int64)), .second, .val (.int (1 : Int32))]) (hb hby d13_2) rfl rfl ?_
  refine o_iloadN X0 hx (pc' := 4) (hb hby d13_3) rfl rfl ?_
  refine o_if_ne X0 hx (pc' := 7) (pt := 21) (hb hby d13_4) rfl (by decide) (by decide) (fun _ => ?_) (fun q => absurd q (by decide))
  refine o_iloadN X0 hx (pc' := 22) (hb hby d13_21) rfl rfl ?_
  refine o_callSP X0 hx hZ [(.int (1 : Int32))] (rmP14_1 l Z a0 hw h0 n0 Z0) hown (hw _ (List.mem_of_getElem? (i := 101) rfl)) (hw _ (List.mem_of_getElem? (i := 102) rfl)) (hw _ (List.mem_of_getElem? (i := 103) rfl)) (hw _ (List.mem_of_getElem? (i := 104) rfl)) (by decide) pd_0 e0 (by rw [hml]; rfl) rfl rfl rfl (hb hby d13_22) (pc' := 25) rfl 0 (Nat.le_of_eq rfl) (by decide) (by decide) rfl rfl (by decide) (by decide) ?_
  intro T1 X1 e1
  show Dn p e below _ (T1.setTop (mkF m 25 #[.val (.long (1 : Int64)), .second, .val (.int (1 : Int32))] [(.int (0 : Int32))]))
  exact finI X1 hx hlk hret (hb hby d13_25) (by decide) (by decide) ⟨rfl, rfl, e1⟩
theorem pd_1 : parseMethodDescriptor "(J)I" = some ⟨[.long], some .int⟩ := by decide +kernel
theorem d18_0 : decode prog_31_method_18_code 0 = .ok (.aload_n 0, 1) := by decide +kernel
theorem d18_1 : decode prog_31_method_18_code 1 = .ok (.getfield 7, 3) := by decide +kernel
theorem d18_4 : decode prog_31_method_18_code 4 = .ok (.iconst 5, 1) := by decide +kernel
theorem d18_5 : decode prog_31_method_18_code 5 = .ok (.laload, 1) := by decide +kernel
theorem d18_6 : decode prog_31_method_18_code 6 = .ok (.aload_n 0, 1) := by decide +kernel
theorem d18_7 : decode prog_31_method_18_code 7 = .ok (.getfield 13, 3) := by decide +kernel
theorem d18_10 : decode prog_31_method_18_code 10 = .ok (.iload_n 1, 1) := by decide +kernel
theorem d18_11 : decode prog_31_method_18_code 11 = .ok (.laload, 1) := by decide +kernel
theorem d18_12 : decode prog_31_method_18_code 12 = .ok (.land, 1) := by decide +kernel
theorem d18_13 : decode prog_31_method_18_code 13 = .ok (.invokestatic 56, 3) := by decide +kernel
theorem d18_16 : decode prog_31_method_18_code 16 = .ok (.ireturn, 1) := by decide +kernel
theorem pn_18 : plainFor (⟨"com/example/jadoube/jadoube/Position", "kingSquare", "(I)I"⟩ : MethodName) = true := plainFor_of_name (by show plainName "com/example/jadoube/jadoube/Position" = true; first | (simp [plainName, overriddenIn]; done) | decide +kernel)
theorem ef_18_a1_0 (m : MethodId) (a1 : Addr) : entryFrame m #[(.ref a1), (.int (0 : Int32))] 2 = mkF m 0 #[.val (.ref a1), .val (.int (0 : Int32))] [] := by first | (simp [entryFrame, mkF, argsToLocals, Value.category]; done) | rfl
set_option maxRecDepth 65536 in
set_option maxHeartbeats 40000000 in
theorem rmKS0 (l : Launch) (Z : State) (a0 : Array Value) (hw : ∀ d ∈ tables_1, d.before a0 Z = true) (h0 : Heap) (n0 : Nat) (Z0 : n0 ≤ h0.size) (a1 : Addr) (t : Nat) (hP : Pos Z h0 t a1 1) : Ctr l Z (⟨"com/example/jadoube/jadoube/Position", "kingSquare", "(I)I"⟩ : MethodName) prog_31_method_18_code 2 (some .int) [] ({ frames := 2, cells := 0, slots := 0, locals := 27 } : Room) #[(.ref a1), (.int (0 : Int32))] h0 (Pure (.int 0) h0) := by
  refine ctr_mk pn_18 (own := "com/example/jadoube/jadoube/Position") (mn := "kingSquare") rfl rfl ?_
  intro p e s m below meth c T0 X0 hx hby hml hZ hown hnm hret hlk e0
  refine o_entry (ef_18_a1_0 m a1) ?_
  have hPo := hP
  obtain ⟨bp, bc, kp, kc, lt_a, lt_bp, lt_bc, pE, pPi, pCo, pSi, pCa, pEn, pC9, pV1, pV2⟩ := hPo
  refine o_aloadN X0 hx (pc' := 1) (hb hby d18_0) rfl rfl rfl ?_
  refine o_getfield X0 hx hZ hown (hw _ (List.mem_of_getElem? (i := 14) rfl)) e0 pPi (hb hby d18_1) (pc' := 4) rfl ?_
  intro T1 X1 e1
  refine o_iconst X1 hx (pc' := 5) (v := (5 : Int32)) (hb hby d18_4) rfl rfl ?_
  refine o_laload X1 hx hZ e1 pV1 (by decide) (v := (.long (1 : Int64))) rfl (hb hby d18_5) (pc' := 6) rfl ?_
  refine o_aloadN X1 hx (pc' := 7) (hb hby d18_6) rfl rfl rfl ?_
  refine o_getfield X1 hx hZ hown (hw _ (List.mem_of_getElem? (i := 16) rfl)) e1 pCo (hb hby d18_7) (pc' := 10) rfl ?_
  intro T2 X2 e2
  refine o_iloadN X2 hx (pc' := 11) (hb hby d18_10) rfl rfl ?_
  refine o_laload X2 hx hZ e2 pV2 (by decide) (v := (.long (1 : Int64))) rfl (hb hby d18_11) (pc' := 12) rfl ?_
  refine o_land X2 hx (pc' := 13) (hb hby d18_12) rfl ?_
  rw [show ((1 : Int64) &&& (1 : Int64)) = (1 : Int64) from by decide +kernel]
  refine o_callSP X2 hx hZ [(.long (1 : Int64))] (rmP13_1 l Z a0 hw h0 n0 Z0) hown (hw _ (List.mem_of_getElem? (i := 129) rfl)) (hw _ (List.mem_of_getElem? (i := 99) rfl)) (hw _ (List.mem_of_getElem? (i := 53) rfl)) (hw _ (List.mem_of_getElem? (i := 100) rfl)) (by decide) pd_1 e2 (by rw [hml]; rfl) rfl rfl rfl (hb hby d18_13) (pc' := 16) rfl 0 (Nat.le_of_eq rfl) (by decide) (by decide) rfl rfl (by decide) (by decide) ?_
  intro T3 X3 e3
  show Dn p e below _ (T3.setTop (mkF m 16 #[.val (.ref a1), .val (.int (0 : Int32))] [(.int (0 : Int32))]))
  exact finI X3 hx hlk hret (hb hby d18_16) (by decide) (by decide) ⟨rfl, rfl, e3⟩
theorem d15_0 : decode prog_31_method_19_code 0 = .ok (.lconst 1, 1) := by decide +kernel
theorem d15_1 : decode prog_31_method_19_code 1 = .ok (.iload_n 1, 1) := by decide +kernel
theorem d15_2 : decode prog_31_method_19_code 2 = .ok (.lshl, 1) := by decide +kernel
theorem d15_3 : decode prog_31_method_19_code 3 = .ok (.lstore_n 2, 1) := by decide +kernel
theorem d15_4 : decode prog_31_method_19_code 4 = .ok (.iconst 0, 1) := by decide +kernel
theorem d15_5 : decode prog_31_method_19_code 5 = .ok (.istore 4, 2) := by decide +kernel
theorem d15_7 : decode prog_31_method_19_code 7 = .ok (.iload 4, 2) := by decide +kernel
theorem d15_9 : decode prog_31_method_19_code 9 = .ok (.iconst 5, 1) := by decide +kernel
theorem d15_10 : decode prog_31_method_19_code 10 = .ok (.if_icmp .gt 26, 3) := by decide +kernel
theorem d15_13 : decode prog_31_method_19_code 13 = .ok (.aload_n 0, 1) := by decide +kernel
theorem d15_14 : decode prog_31_method_19_code 14 = .ok (.getfield 7, 3) := by decide +kernel
theorem d15_17 : decode prog_31_method_19_code 17 = .ok (.iload 4, 2) := by decide +kernel
theorem d15_19 : decode prog_31_method_19_code 19 = .ok (.laload, 1) := by decide +kernel
theorem d15_20 : decode prog_31_method_19_code 20 = .ok (.lload_n 2, 1) := by decide +kernel
theorem d15_21 : decode prog_31_method_19_code 21 = .ok (.land, 1) := by decide +kernel
theorem d15_22 : decode prog_31_method_19_code 22 = .ok (.lconst 0, 1) := by decide +kernel
theorem d15_23 : decode prog_31_method_19_code 23 = .ok (.lcmp, 1) := by decide +kernel
theorem d15_24 : decode prog_31_method_19_code 24 = .ok (.ifCond .eq 6, 3) := by decide +kernel
theorem d15_27 : decode prog_31_method_19_code 27 = .ok (.iload 4, 2) := by decide +kernel
theorem d15_29 : decode prog_31_method_19_code 29 = .ok (.ireturn, 1) := by decide +kernel
theorem d15_30 : decode prog_31_method_19_code 30 = .ok (.iinc 4 1, 3) := by decide +kernel
theorem d15_33 : decode prog_31_method_19_code 33 = .ok (.goto (-26), 3) := by decide +kernel
theorem pn_15 : plainFor (⟨"com/example/jadoube/jadoube/Position", "kindOn", "(I)I"⟩ : MethodName) = true := plainFor_of_name (by show plainName "com/example/jadoube/jadoube/Position" = true; first | (simp [plainName, overriddenIn]; done) | decide +kernel)
theorem ef_15_a1_0 (m : MethodId) (a1 : Addr) : entryFrame m #[(.ref a1), (.int (0 : Int32))] 5 = mkF m 0 #[.val (.ref a1), .val (.int (0 : Int32)), .unset, .unset, .unset] [] := by first | (simp [entryFrame, mkF, argsToLocals, Value.category]; done) | rfl
set_option maxRecDepth 65536 in
set_option maxHeartbeats 40000000 in
theorem rmKO0 (l : Launch) (Z : State) (a0 : Array Value) (hw : ∀ d ∈ tables_1, d.before a0 Z = true) (h0 : Heap) (n0 : Nat) (Z0 : n0 ≤ h0.size) (a1 : Addr) (t : Nat) (hP : Pos Z h0 t a1 1) : Ctr l Z (⟨"com/example/jadoube/jadoube/Position", "kindOn", "(I)I"⟩ : MethodName) prog_31_method_19_code 5 (some .int) [] ({ frames := 0, cells := 0, slots := 0, locals := 0 } : Room) #[(.ref a1), (.int (0 : Int32))] h0 (Pure (.int 5) h0) := by
  refine ctr_mk pn_15 (own := "com/example/jadoube/jadoube/Position") (mn := "kindOn") rfl rfl ?_
  intro p e s m below meth c T0 X0 hx hby hml hZ hown hnm hret hlk e0
  refine o_entry (ef_15_a1_0 m a1) ?_
  have hPo := hP
  obtain ⟨bp, bc, kp, kc, lt_a, lt_bp, lt_bc, pE, pPi, pCo, pSi, pCa, pEn, pC9, pV1, pV2⟩ := hPo
  refine o_lconst X0 hx (pc' := 1) (v := (1 : Int64)) (hb hby d15_0) rfl rfl ?_
  refine o_iloadN X0 hx (pc' := 2) (hb hby d15_1) rfl rfl ?_
  refine o_lshl X0 hx (pc' := 3) (hb hby d15_2) rfl ?_
  rw [show ((1 : Int64) <<< ((0 : Int32) &&& 0x3f).toInt64) = (1 : Int64) from by decide +kernel]
  refine o_lstoreN X0 hx (pc' := 4) (Ls' := #[.val (.ref a1), .val (.int (0 : Int32)), .val (.long (1 : Int64)), .second, .unset]) (hb hby d15_3) rfl rfl ?_
  refine o_iconst X0 hx (pc' := 5) (v := (0 : Int32)) (hb hby d15_4) rfl rfl ?_
  refine o_istore X0 hx (pc' := 7) (Ls' := #[.val (.ref a1), .val (.int (0 : Int32)), .val (.long (1 : Int64)), .second, .val (.int (0 : Int32))]) (hb hby d15_5) rfl rfl ?_
  refine o_iload X0 hx (pc' := 9) (hb hby d15_7) rfl rfl ?_
  refine o_iconst X0 hx (pc' := 10) (v := (5 : Int32)) (hb hby d15_9) rfl rfl ?_
  refine o_icmp_gt X0 hx (pc' := 13) (pt := 36) (hb hby d15_10) rfl (by decide) (by decide) (fun q => absurd q (by decide)) (fun _ => ?_)
  refine o_aloadN X0 hx (pc' := 14) (hb hby d15_13) rfl rfl rfl ?_
  refine o_getfield X0 hx hZ hown (hw _ (List.mem_of_getElem? (i := 14) rfl)) e0 pPi (hb hby d15_14) (pc' := 17) rfl ?_
  intro T1 X1 e1
  refine o_iload X1 hx (pc' := 19) (hb hby d15_17) rfl rfl ?_
  refine o_laload X1 hx hZ e1 pV1 (by decide) (v := (.long (0 : Int64))) rfl (hb hby d15_19) (pc' := 20) rfl ?_
  refine o_lloadN X1 hx (pc' := 21) (hb hby d15_20) rfl rfl ?_
  refine o_land X1 hx (pc' := 22) (hb hby d15_21) rfl ?_
  rw [show ((0 : Int64) &&& (1 : Int64)) = (0 : Int64) from by decide +kernel]
  refine o_lconst X1 hx (pc' := 23) (v := (0 : Int64)) (hb hby d15_22) rfl rfl ?_
  refine o_lcmp X1 hx (pc' := 24) (hb hby d15_23) rfl ?_
  refine o_lif_eq X1 hx (pc' := 27) (pt := 30) (hb hby d15_24) rfl (by decide) (by decide) (fun _ => ?_) (fun q => absurd (by decide) q)
  refine o_iinc X1 hx (pc' := 33) (Ls' := #[.val (.ref a1), .val (.int (0 : Int32)), .val (.long (1 : Int64)), .second, .val (.int (1 : Int32))]) (v := (1 : Int32)) (hb hby d15_30) rfl rfl rfl rfl ?_
  refine o_goto X1 hx (pc' := 7) (hb hby d15_33) (by decide) (by decide) ?_
  refine o_iload X1 hx (pc' := 9) (hb hby d15_7) rfl rfl ?_
  refine o_iconst X1 hx (pc' := 10) (v := (5 : Int32)) (hb hby d15_9) rfl rfl ?_
  refine o_icmp_gt X1 hx (pc' := 13) (pt := 36) (hb hby d15_10) rfl (by decide) (by decide) (fun q => absurd q (by decide)) (fun _ => ?_)
  refine o_aloadN X1 hx (pc' := 14) (hb hby d15_13) rfl rfl rfl ?_
  refine o_getfield X1 hx hZ hown (hw _ (List.mem_of_getElem? (i := 14) rfl)) e1 pPi (hb hby d15_14) (pc' := 17) rfl ?_
  intro T2 X2 e2
  refine o_iload X2 hx (pc' := 19) (hb hby d15_17) rfl rfl ?_
  refine o_laload X2 hx hZ e2 pV1 (by decide) (v := (.long (0 : Int64))) rfl (hb hby d15_19) (pc' := 20) rfl ?_
  refine o_lloadN X2 hx (pc' := 21) (hb hby d15_20) rfl rfl ?_
  refine o_land X2 hx (pc' := 22) (hb hby d15_21) rfl ?_
  rw [show ((0 : Int64) &&& (1 : Int64)) = (0 : Int64) from by decide +kernel]
  refine o_lconst X2 hx (pc' := 23) (v := (0 : Int64)) (hb hby d15_22) rfl rfl ?_
  refine o_lcmp X2 hx (pc' := 24) (hb hby d15_23) rfl ?_
  refine o_lif_eq X2 hx (pc' := 27) (pt := 30) (hb hby d15_24) rfl (by decide) (by decide) (fun _ => ?_) (fun q => absurd (by decide) q)
  refine o_iinc X2 hx (pc' := 33) (Ls' := #[.val (.ref a1), .val (.int (0 : Int32)), .val (.long (1 : Int64)), .second, .val (.int (2 : Int32))]) (v := (1 : Int32)) (hb hby d15_30) rfl rfl rfl rfl ?_
  refine o_goto X2 hx (pc' := 7) (hb hby d15_33) (by decide) (by decide) ?_
  refine o_iload X2 hx (pc' := 9) (hb hby d15_7) rfl rfl ?_
  refine o_iconst X2 hx (pc' := 10) (v := (5 : Int32)) (hb hby d15_9) rfl rfl ?_
  refine o_icmp_gt X2 hx (pc' := 13) (pt := 36) (hb hby d15_10) rfl (by decide) (by decide) (fun q => absurd q (by decide)) (fun _ => ?_)
  refine o_aloadN X2 hx (pc' := 14) (hb hby d15_13) rfl rfl rfl ?_
  refine o_getfield X2 hx hZ hown (hw _ (List.mem_of_getElem? (i := 14) rfl)) e2 pPi (hb hby d15_14) (pc' := 17) rfl ?_
  intro T3 X3 e3
  refine o_iload X3 hx (pc' := 19) (hb hby d15_17) rfl rfl ?_
  refine o_laload X3 hx hZ e3 pV1 (by decide) (v := (.long (0 : Int64))) rfl (hb hby d15_19) (pc' := 20) rfl ?_
  refine o_lloadN X3 hx (pc' := 21) (hb hby d15_20) rfl rfl ?_
  refine o_land X3 hx (pc' := 22) (hb hby d15_21) rfl ?_
  rw [show ((0 : Int64) &&& (1 : Int64)) = (0 : Int64) from by decide +kernel]
  refine o_lconst X3 hx (pc' := 23) (v := (0 : Int64)) (hb hby d15_22) rfl rfl ?_
  refine o_lcmp X3 hx (pc' := 24) (hb hby d15_23) rfl ?_
  refine o_lif_eq X3 hx (pc' := 27) (pt := 30) (hb hby d15_24) rfl (by decide) (by decide) (fun _ => ?_) (fun q => absurd (by decide) q)
  refine o_iinc X3 hx (pc' := 33) (Ls' := #[.val (.ref a1), .val (.int (0 : Int32)), .val (.long (1 : Int64)), .second, .val (.int (3 : Int32))]) (v := (1 : Int32)) (hb hby d15_30) rfl rfl rfl rfl ?_
  refine o_goto X3 hx (pc' := 7) (hb hby d15_33) (by decide) (by decide) ?_
  refine o_iload X3 hx (pc' := 9) (hb hby d15_7) rfl rfl ?_
  refine o_iconst X3 hx (pc' := 10) (v := (5 : Int32)) (hb hby d15_9) rfl rfl ?_
  refine o_icmp_gt X3 hx (pc' := 13) (pt := 36) (hb hby d15_10) rfl (by decide) (by decide) (fun q => absurd q (by decide)) (fun _ => ?_)
  refine o_aloadN X3 hx (pc' := 14) (hb hby d15_13) rfl rfl rfl ?_
  refine o_getfield X3 hx hZ hown (hw _ (List.mem_of_getElem? (i := 14) rfl)) e3 pPi (hb hby d15_14) (pc' := 17) rfl ?_
  intro T4 X4 e4
  refine o_iload X4 hx (pc' := 19) (hb hby d15_17) rfl rfl ?_
  refine o_laload X4 hx hZ e4 pV1 (by decide) (v := (.long (0 : Int64))) rfl (hb hby d15_19) (pc' := 20) rfl ?_
  refine o_lloadN X4 hx (pc' := 21) (hb hby d15_20) rfl rfl ?_
  refine o_land X4 hx (pc' := 22) (hb hby d15_21) rfl ?_
  rw [show ((0 : Int64) &&& (1 : Int64)) = (0 : Int64) from by decide +kernel]
  refine o_lconst X4 hx (pc' := 23) (v := (0 : Int64)) (hb hby d15_22) rfl rfl ?_
  refine o_lcmp X4 hx (pc' := 24) (hb hby d15_23) rfl ?_
  refine o_lif_eq X4 hx (pc' := 27) (pt := 30) (hb hby d15_24) rfl (by decide) (by decide) (fun _ => ?_) (fun q => absurd (by decide) q)
  refine o_iinc X4 hx (pc' := 33) (Ls' := #[.val (.ref a1), .val (.int (0 : Int32)), .val (.long (1 : Int64)), .second, .val (.int (4 : Int32))]) (v := (1 : Int32)) (hb hby d15_30) rfl rfl rfl rfl ?_
  refine o_goto X4 hx (pc' := 7) (hb hby d15_33) (by decide) (by decide) ?_
  refine o_iload X4 hx (pc' := 9) (hb hby d15_7) rfl rfl ?_
  refine o_iconst X4 hx (pc' := 10) (v := (5 : Int32)) (hb hby d15_9) rfl rfl ?_
  refine o_icmp_gt X4 hx (pc' := 13) (pt := 36) (hb hby d15_10) rfl (by decide) (by decide) (fun q => absurd q (by decide)) (fun _ => ?_)
  refine o_aloadN X4 hx (pc' := 14) (hb hby d15_13) rfl rfl rfl ?_
  refine o_getfield X4 hx hZ hown (hw _ (List.mem_of_getElem? (i := 14) rfl)) e4 pPi (hb hby d15_14) (pc' := 17) rfl ?_
  intro T5 X5 e5
  refine o_iload X5 hx (pc' := 19) (hb hby d15_17) rfl rfl ?_
  refine o_laload X5 hx hZ e5 pV1 (by decide) (v := (.long (0 : Int64))) rfl (hb hby d15_19) (pc' := 20) rfl ?_
  refine o_lloadN X5 hx (pc' := 21) (hb hby d15_20) rfl rfl ?_
  refine o_land X5 hx (pc' := 22) (hb hby d15_21) rfl ?_
  rw [show ((0 : Int64) &&& (1 : Int64)) = (0 : Int64) from by decide +kernel]
  refine o_lconst X5 hx (pc' := 23) (v := (0 : Int64)) (hb hby d15_22) rfl rfl ?_
  refine o_lcmp X5 hx (pc' := 24) (hb hby d15_23) rfl ?_
  refine o_lif_eq X5 hx (pc' := 27) (pt := 30) (hb hby d15_24) rfl (by decide) (by decide) (fun _ => ?_) (fun q => absurd (by decide) q)
  refine o_iinc X5 hx (pc' := 33) (Ls' := #[.val (.ref a1), .val (.int (0 : Int32)), .val (.long (1 : Int64)), .second, .val (.int (5 : Int32))]) (v := (1 : Int32)) (hb hby d15_30) rfl rfl rfl rfl ?_
  refine o_goto X5 hx (pc' := 7) (hb hby d15_33) (by decide) (by decide) ?_
  refine o_iload X5 hx (pc' := 9) (hb hby d15_7) rfl rfl ?_
  refine o_iconst X5 hx (pc' := 10) (v := (5 : Int32)) (hb hby d15_9) rfl rfl ?_
  refine o_icmp_gt X5 hx (pc' := 13) (pt := 36) (hb hby d15_10) rfl (by decide) (by decide) (fun q => absurd q (by decide)) (fun _ => ?_)
  refine o_aloadN X5 hx (pc' := 14) (hb hby d15_13) rfl rfl rfl ?_
  refine o_getfield X5 hx hZ hown (hw _ (List.mem_of_getElem? (i := 14) rfl)) e5 pPi (hb hby d15_14) (pc' := 17) rfl ?_
  intro T6 X6 e6
  refine o_iload X6 hx (pc' := 19) (hb hby d15_17) rfl rfl ?_
  refine o_laload X6 hx hZ e6 pV1 (by decide) (v := (.long (1 : Int64))) rfl (hb hby d15_19) (pc' := 20) rfl ?_
  refine o_lloadN X6 hx (pc' := 21) (hb hby d15_20) rfl rfl ?_
  refine o_land X6 hx (pc' := 22) (hb hby d15_21) rfl ?_
  rw [show ((1 : Int64) &&& (1 : Int64)) = (1 : Int64) from by decide +kernel]
  refine o_lconst X6 hx (pc' := 23) (v := (0 : Int64)) (hb hby d15_22) rfl rfl ?_
  refine o_lcmp X6 hx (pc' := 24) (hb hby d15_23) rfl ?_
  refine o_lif_eq X6 hx (pc' := 27) (pt := 30) (hb hby d15_24) rfl (by decide) (by decide) (fun q => absurd q (by decide)) (fun _ => ?_)
  refine o_iload X6 hx (pc' := 29) (hb hby d15_27) rfl rfl ?_
  exact finI X6 hx hlk hret (hb hby d15_29) (by decide) (by decide) ⟨rfl, rfl, e6⟩
theorem d14_17 : decode jdk_33_method_48_code 17 = .ok (.iconst 1, 1) := by decide +kernel
theorem d14_18 : decode jdk_33_method_48_code 18 = .ok (.istore_n 1, 1) := by decide +kernel
theorem d14_19 : decode jdk_33_method_48_code 19 = .ok (.iload_n 0, 1) := by decide +kernel
theorem d14_20 : decode jdk_33_method_48_code 20 = .ok (.ldc_w 264, 3) := by decide +kernel
theorem d14_23 : decode jdk_33_method_48_code 23 = .ok (.if_icmp .le 11, 3) := by decide +kernel
theorem d14_34 : decode jdk_33_method_48_code 34 = .ok (.iload_n 0, 1) := by decide +kernel
theorem d14_35 : decode jdk_33_method_48_code 35 = .ok (.sipush 256, 3) := by decide +kernel
theorem d14_38 : decode jdk_33_method_48_code 38 = .ok (.if_icmp .le 11, 3) := by decide +kernel
theorem d14_49 : decode jdk_33_method_48_code 49 = .ok (.iload_n 0, 1) := by decide +kernel
theorem d14_50 : decode jdk_33_method_48_code 50 = .ok (.bipush 16, 2) := by decide +kernel
theorem d14_52 : decode jdk_33_method_48_code 52 = .ok (.if_icmp .le 10, 3) := by decide +kernel
theorem d14_62 : decode jdk_33_method_48_code 62 = .ok (.iload_n 0, 1) := by decide +kernel
theorem d14_63 : decode jdk_33_method_48_code 63 = .ok (.iconst 4, 1) := by decide +kernel
theorem d14_64 : decode jdk_33_method_48_code 64 = .ok (.if_icmp .le 10, 3) := by decide +kernel
theorem d14_74 : decode jdk_33_method_48_code 74 = .ok (.iload_n 1, 1) := by decide +kernel
theorem d14_75 : decode jdk_33_method_48_code 75 = .ok (.iload_n 0, 1) := by decide +kernel
theorem d14_76 : decode jdk_33_method_48_code 76 = .ok (.iconst 1, 1) := by decide +kernel
theorem d14_77 : decode jdk_33_method_48_code 77 = .ok (.iushr, 1) := by decide +kernel
theorem d14_78 : decode jdk_33_method_48_code 78 = .ok (.iadd, 1) := by decide +kernel
theorem d14_79 : decode jdk_33_method_48_code 79 = .ok (.ireturn, 1) := by decide +kernel
theorem ef_14_2 (m : MethodId)  : entryFrame m #[(.int (2 : Int32))] 2 = mkF m 0 #[.val (.int (2 : Int32)), .unset] [] := by first | (simp [entryFrame, mkF, argsToLocals, Value.category]; done) | rfl
set_option maxRecDepth 65536 in
set_option maxHeartbeats 40000000 in
theorem rmP14_2 (l : Launch) (Z : State) (a0 : Array Value) (hw : ∀ d ∈ tables_1, d.before a0 Z = true) (h0 : Heap) (n0 : Nat) (Z0 : n0 ≤ h0.size)   : Ctr l Z (⟨"java/lang/Integer", "numberOfTrailingZeros", "(I)I"⟩ : MethodName) jdk_33_method_48_code 2 (some .int) [] ({ frames := 0, cells := 0, slots := 0, locals := 0 } : Room) #[(.int (2 : Int32))] h0 (Pure ((.int (1 : Int32))) h0) := by
  refine ctr_mk pn_14 (own := "java/lang/Integer") (mn := "numberOfTrailingZeros") rfl rfl ?_
  intro p e s m below meth c T0 X0 hx hby hml hZ hown hnm hret hlk e0
  refine o_entry (ef_14_2 m ) ?_
  refine o_iloadN X0 hx (pc' := 1) (hb hby d14_0) rfl rfl ?_
  refine o_iconst X0 hx (pc' := 2) (v := (-1 : Int32)) (hb hby d14_1) rfl rfl ?_
  refine o_ixor X0 hx (pc' := 3) (hb hby d14_2) rfl ?_
  rw [show ((2 : Int32) ^^^ (-1 : Int32)) = (-3 : Int32) from by decide +kernel]
  refine o_iloadN X0 hx (pc' := 4) (hb hby d14_3) rfl rfl ?_
  refine o_iconst X0 hx (pc' := 5) (v := (1 : Int32)) (hb hby d14_4) rfl rfl ?_
  refine o_isub X0 hx (pc' := 6) (hb hby d14_5) rfl ?_
  rw [show ((2 : Int32) - (1 : Int32)) = (1 : Int32) from by decide +kernel]
  refine o_iand X0 hx (pc' := 7) (hb hby d14_6) rfl ?_
  rw [show ((-3 : Int32) &&& (1 : Int32)) = (1 : Int32) from by decide +kernel]
  refine o_istoreN X0 hx (pc' := 8) (Ls' := #[.val (.int (1 : Int32)), .unset]) (hb hby d14_7) rfl rfl ?_
  refine o_iloadN X0 hx (pc' := 9) (hb hby d14_8) rfl rfl ?_
  refine o_if_gt X0 hx (pc' := 12) (pt := 17) (hb hby d14_9) rfl (by decide) (by decide) (fun _ => ?_) (fun q => absurd (by decide) q)
  refine o_iconst X0 hx (pc' := 18) (v := (1 : Int32)) (hb hby d14_17) rfl rfl ?_
  refine o_istoreN X0 hx (pc' := 19) (Ls' := #[.val (.int (1 : Int32)), .val (.int (1 : Int32))]) (hb hby d14_18) rfl rfl ?_
  refine o_iloadN X0 hx (pc' := 20) (hb hby d14_19) rfl rfl ?_
  refine o_ldcw X0 hx hZ hown (hw _ (List.mem_of_getElem? (i := 158) rfl)) (pc' := 23) (hb hby d14_20) rfl ?_
  refine o_icmp_le X0 hx (pc' := 26) (pt := 34) (hb hby d14_23) rfl (by decide) (by decide) (fun _ => ?_) (fun q => absurd q (by decide))
  refine o_iloadN X0 hx (pc' := 35) (hb hby d14_34) rfl rfl ?_
  refine o_sipush X0 hx (pc' := 38) (v := (256 : Int32)) (hb hby d14_35) rfl rfl ?_
  refine o_icmp_le X0 hx (pc' := 41) (pt := 49) (hb hby d14_38) rfl (by decide) (by decide) (fun _ => ?_) (fun q => absurd q (by decide))
  refine o_iloadN X0 hx (pc' := 50) (hb hby d14_49) rfl rfl ?_
  refine o_bipush X0 hx (pc' := 52) (v := (16 : Int32)) (hb hby d14_50) rfl rfl ?_
  refine o_icmp_le X0 hx (pc' := 55) (pt := 62) (hb hby d14_52) rfl (by decide) (by decide) (fun _ => ?_) (fun q => absurd q (by decide))
  refine o_iloadN X0 hx (pc' := 63) (hb hby d14_62) rfl rfl ?_
  refine o_iconst X0 hx (pc' := 64) (v := (4 : Int32)) (hb hby d14_63) rfl rfl ?_
  refine o_icmp_le X0 hx (pc' := 67) (pt := 74) (hb hby d14_64) rfl (by decide) (by decide) (fun _ => ?_) (fun q => absurd q (by decide))
  refine o_iloadN X0 hx (pc' := 75) (hb hby d14_74) rfl rfl ?_
  refine o_iloadN X0 hx (pc' := 76) (hb hby d14_75) rfl rfl ?_
  refine o_iconst X0 hx (pc' := 77) (v := (1 : Int32)) (hb hby d14_76) rfl rfl ?_
  refine o_iushr X0 hx (pc' := 78) (hb hby d14_77) rfl ?_
  rw [show (((1 : Int32).toUInt32 >>> ((1 : Int32) &&& 31).toUInt32).toInt32) = (0 : Int32) from by decide +kernel]
  refine o_iadd X0 hx (pc' := 79) (hb hby d14_78) rfl ?_
  rw [show ((1 : Int32) + (0 : Int32)) = (1 : Int32) from by decide +kernel]
  exact finI X0 hx hlk hret (hb hby d14_79) (by decide) (by decide) ⟨rfl, rfl, e0⟩
theorem ef_13_2 (m : MethodId)  : entryFrame m #[(.long (2 : Int64))] 3 = mkF m 0 #[.val (.long (2 : Int64)), .second, .unset] [] := by first | (simp [entryFrame, mkF, argsToLocals, Value.category]; done) | rfl
set_option maxRecDepth 65536 in
set_option maxHeartbeats 40000000 in
theorem rmP13_2 (l : Launch) (Z : State) (a0 : Array Value) (hw : ∀ d ∈ tables_1, d.before a0 Z = true) (h0 : Heap) (n0 : Nat) (Z0 : n0 ≤ h0.size)   : Ctr l Z (⟨"java/lang/Long", "numberOfTrailingZeros", "(J)I"⟩ : MethodName) jdk_35_method_49_code 3 (some .int) [] ({ frames := 1, cells := 0, slots := 0, locals := 13 } : Room) #[(.long (2 : Int64))] h0 (Pure ((.int (1 : Int32))) h0) := by
  refine ctr_mk pn_13 (own := "java/lang/Long") (mn := "numberOfTrailingZeros") rfl rfl ?_
  intro p e s m below meth c T0 X0 hx hby hml hZ hown hnm hret hlk e0
  refine o_entry (ef_13_2 m ) ?_
  refine o_lloadN X0 hx (pc' := 1) (hb hby d13_0) rfl rfl ?_
  refine o_l2i X0 hx (pc' := 2) (hb hby d13_1) rfl ?_
  rw [show ((2 : Int64).toInt32) = (2 : Int32) from by decide +kernel]
  refine o_istoreN X0 hx (pc' := 3) (Ls' := #[.val (.long (2 : Int64)), .second, .val (.int (2 : Int32))]) (hb hby d13_2) rfl rfl ?_
  refine o_iloadN X0 hx (pc' := 4) (hb hby d13_3) rfl rfl ?_
  refine o_if_ne X0 hx (pc' := 7) (pt := 21) (hb hby d13_4) rfl (by decide) (by decide) (fun _ => ?_) (fun q => absurd q (by decide))
  refine o_iloadN X0 hx (pc' := 22) (hb hby d13_21) rfl rfl ?_
  refine o_callSP X0 hx hZ [(.int (2 : Int32))] (rmP14_2 l Z a0 hw h0 n0 Z0) hown (hw _ (List.mem_of_getElem? (i := 101) rfl)) (hw _ (List.mem_of_getElem? (i := 102) rfl)) (hw _ (List.mem_of_getElem? (i := 103) rfl)) (hw _ (List.mem_of_getElem? (i := 104) rfl)) (by decide) pd_0 e0 (by rw [hml]; rfl) rfl rfl rfl (hb hby d13_22) (pc' := 25) rfl 0 (Nat.le_of_eq rfl) (by decide) (by decide) rfl rfl (by decide) (by decide) ?_
  intro T1 X1 e1
  show Dn p e below _ (T1.setTop (mkF m 25 #[.val (.long (2 : Int64)), .second, .val (.int (2 : Int32))] [(.int (1 : Int32))]))
  exact finI X1 hx hlk hret (hb hby d13_25) (by decide) (by decide) ⟨rfl, rfl, e1⟩
set_option maxRecDepth 65536 in
set_option maxHeartbeats 40000000 in
theorem rmKS1 (l : Launch) (Z : State) (a0 : Array Value) (hw : ∀ d ∈ tables_1, d.before a0 Z = true) (h0 : Heap) (n0 : Nat) (Z0 : n0 ≤ h0.size) (a1 : Addr) (t : Nat) (hP : Pos Z h0 t a1 2) : Ctr l Z (⟨"com/example/jadoube/jadoube/Position", "kingSquare", "(I)I"⟩ : MethodName) prog_31_method_18_code 2 (some .int) [] ({ frames := 2, cells := 0, slots := 0, locals := 27 } : Room) #[(.ref a1), (.int (0 : Int32))] h0 (Pure (.int 1) h0) := by
  refine ctr_mk pn_18 (own := "com/example/jadoube/jadoube/Position") (mn := "kingSquare") rfl rfl ?_
  intro p e s m below meth c T0 X0 hx hby hml hZ hown hnm hret hlk e0
  refine o_entry (ef_18_a1_0 m a1) ?_
  have hPo := hP
  obtain ⟨bp, bc, kp, kc, lt_a, lt_bp, lt_bc, pE, pPi, pCo, pSi, pCa, pEn, pC9, pV1, pV2⟩ := hPo
  refine o_aloadN X0 hx (pc' := 1) (hb hby d18_0) rfl rfl rfl ?_
  refine o_getfield X0 hx hZ hown (hw _ (List.mem_of_getElem? (i := 14) rfl)) e0 pPi (hb hby d18_1) (pc' := 4) rfl ?_
  intro T1 X1 e1
  refine o_iconst X1 hx (pc' := 5) (v := (5 : Int32)) (hb hby d18_4) rfl rfl ?_
  refine o_laload X1 hx hZ e1 pV1 (by decide) (v := (.long (2 : Int64))) rfl (hb hby d18_5) (pc' := 6) rfl ?_
  refine o_aloadN X1 hx (pc' := 7) (hb hby d18_6) rfl rfl rfl ?_
  refine o_getfield X1 hx hZ hown (hw _ (List.mem_of_getElem? (i := 16) rfl)) e1 pCo (hb hby d18_7) (pc' := 10) rfl ?_
  intro T2 X2 e2
  refine o_iloadN X2 hx (pc' := 11) (hb hby d18_10) rfl rfl ?_
  refine o_laload X2 hx hZ e2 pV2 (by decide) (v := (.long (2 : Int64))) rfl (hb hby d18_11) (pc' := 12) rfl ?_
  refine o_land X2 hx (pc' := 13) (hb hby d18_12) rfl ?_
  rw [show ((2 : Int64) &&& (2 : Int64)) = (2 : Int64) from by decide +kernel]
  refine o_callSP X2 hx hZ [(.long (2 : Int64))] (rmP13_2 l Z a0 hw h0 n0 Z0) hown (hw _ (List.mem_of_getElem? (i := 129) rfl)) (hw _ (List.mem_of_getElem? (i := 99) rfl)) (hw _ (List.mem_of_getElem? (i := 53) rfl)) (hw _ (List.mem_of_getElem? (i := 100) rfl)) (by decide) pd_1 e2 (by rw [hml]; rfl) rfl rfl rfl (hb hby d18_13) (pc' := 16) rfl 0 (Nat.le_of_eq rfl) (by decide) (by decide) rfl rfl (by decide) (by decide) ?_
  intro T3 X3 e3
  show Dn p e below _ (T3.setTop (mkF m 16 #[.val (.ref a1), .val (.int (0 : Int32))] [(.int (1 : Int32))]))
  exact finI X3 hx hlk hret (hb hby d18_16) (by decide) (by decide) ⟨rfl, rfl, e3⟩
theorem ef_15_a1_1 (m : MethodId) (a1 : Addr) : entryFrame m #[(.ref a1), (.int (1 : Int32))] 5 = mkF m 0 #[.val (.ref a1), .val (.int (1 : Int32)), .unset, .unset, .unset] [] := by first | (simp [entryFrame, mkF, argsToLocals, Value.category]; done) | rfl
set_option maxRecDepth 65536 in
set_option maxHeartbeats 40000000 in
theorem rmKO1 (l : Launch) (Z : State) (a0 : Array Value) (hw : ∀ d ∈ tables_1, d.before a0 Z = true) (h0 : Heap) (n0 : Nat) (Z0 : n0 ≤ h0.size) (a1 : Addr) (t : Nat) (hP : Pos Z h0 t a1 2) : Ctr l Z (⟨"com/example/jadoube/jadoube/Position", "kindOn", "(I)I"⟩ : MethodName) prog_31_method_19_code 5 (some .int) [] ({ frames := 0, cells := 0, slots := 0, locals := 0 } : Room) #[(.ref a1), (.int (1 : Int32))] h0 (Pure (.int 5) h0) := by
  refine ctr_mk pn_15 (own := "com/example/jadoube/jadoube/Position") (mn := "kindOn") rfl rfl ?_
  intro p e s m below meth c T0 X0 hx hby hml hZ hown hnm hret hlk e0
  refine o_entry (ef_15_a1_1 m a1) ?_
  have hPo := hP
  obtain ⟨bp, bc, kp, kc, lt_a, lt_bp, lt_bc, pE, pPi, pCo, pSi, pCa, pEn, pC9, pV1, pV2⟩ := hPo
  refine o_lconst X0 hx (pc' := 1) (v := (1 : Int64)) (hb hby d15_0) rfl rfl ?_
  refine o_iloadN X0 hx (pc' := 2) (hb hby d15_1) rfl rfl ?_
  refine o_lshl X0 hx (pc' := 3) (hb hby d15_2) rfl ?_
  rw [show ((1 : Int64) <<< ((1 : Int32) &&& 0x3f).toInt64) = (2 : Int64) from by decide +kernel]
  refine o_lstoreN X0 hx (pc' := 4) (Ls' := #[.val (.ref a1), .val (.int (1 : Int32)), .val (.long (2 : Int64)), .second, .unset]) (hb hby d15_3) rfl rfl ?_
  refine o_iconst X0 hx (pc' := 5) (v := (0 : Int32)) (hb hby d15_4) rfl rfl ?_
  refine o_istore X0 hx (pc' := 7) (Ls' := #[.val (.ref a1), .val (.int (1 : Int32)), .val (.long (2 : Int64)), .second, .val (.int (0 : Int32))]) (hb hby d15_5) rfl rfl ?_
  refine o_iload X0 hx (pc' := 9) (hb hby d15_7) rfl rfl ?_
  refine o_iconst X0 hx (pc' := 10) (v := (5 : Int32)) (hb hby d15_9) rfl rfl ?_
  refine o_icmp_gt X0 hx (pc' := 13) (pt := 36) (hb hby d15_10) rfl (by decide) (by decide) (fun q => absurd q (by decide)) (fun _ => ?_)
  refine o_aloadN X0 hx (pc' := 14) (hb hby d15_13) rfl rfl rfl ?_
  refine o_getfield X0 hx hZ hown (hw _ (List.mem_of_getElem? (i := 14) rfl)) e0 pPi (hb hby d15_14) (pc' := 17) rfl ?_
  intro T1 X1 e1
  refine o_iload X1 hx (pc' := 19) (hb hby d15_17) rfl rfl ?_
  refine o_laload X1 hx hZ e1 pV1 (by decide) (v := (.long (0 : Int64))) rfl (hb hby d15_19) (pc' := 20) rfl ?_
  refine o_lloadN X1 hx (pc' := 21) (hb hby d15_20) rfl rfl ?_
  refine o_land X1 hx (pc' := 22) (hb hby d15_21) rfl ?_
  rw [show ((0 : Int64) &&& (2 : Int64)) = (0 : Int64) from by decide +kernel]
  refine o_lconst X1 hx (pc' := 23) (v := (0 : Int64)) (hb hby d15_22) rfl rfl ?_
  refine o_lcmp X1 hx (pc' := 24) (hb hby d15_23) rfl ?_
  refine o_lif_eq X1 hx (pc' := 27) (pt := 30) (hb hby d15_24) rfl (by decide) (by decide) (fun _ => ?_) (fun q => absurd (by decide) q)
  refine o_iinc X1 hx (pc' := 33) (Ls' := #[.val (.ref a1), .val (.int (1 : Int32)), .val (.long (2 : Int64)), .second, .val (.int (1 : Int32))]) (v := (1 : Int32)) (hb hby d15_30) rfl rfl rfl rfl ?_
  refine o_goto X1 hx (pc' := 7) (hb hby d15_33) (by decide) (by decide) ?_
  refine o_iload X1 hx (pc' := 9) (hb hby d15_7) rfl rfl ?_
  refine o_iconst X1 hx (pc' := 10) (v := (5 : Int32)) (hb hby d15_9) rfl rfl ?_
  refine o_icmp_gt X1 hx (pc' := 13) (pt := 36) (hb hby d15_10) rfl (by decide) (by decide) (fun q => absurd q (by decide)) (fun _ => ?_)
  refine o_aloadN X1 hx (pc' := 14) (hb hby d15_13) rfl rfl rfl ?_
  refine o_getfield X1 hx hZ hown (hw _ (List.mem_of_getElem? (i := 14) rfl)) e1 pPi (hb hby d15_14) (pc' := 17) rfl ?_
  intro T2 X2 e2
  refine o_iload X2 hx (pc' := 19) (hb hby d15_17) rfl rfl ?_
  refine o_laload X2 hx hZ e2 pV1 (by decide) (v := (.long (0 : Int64))) rfl (hb hby d15_19) (pc' := 20) rfl ?_
  refine o_lloadN X2 hx (pc' := 21) (hb hby d15_20) rfl rfl ?_
  refine o_land X2 hx (pc' := 22) (hb hby d15_21) rfl ?_
  rw [show ((0 : Int64) &&& (2 : Int64)) = (0 : Int64) from by decide +kernel]
  refine o_lconst X2 hx (pc' := 23) (v := (0 : Int64)) (hb hby d15_22) rfl rfl ?_
  refine o_lcmp X2 hx (pc' := 24) (hb hby d15_23) rfl ?_
  refine o_lif_eq X2 hx (pc' := 27) (pt := 30) (hb hby d15_24) rfl (by decide) (by decide) (fun _ => ?_) (fun q => absurd (by decide) q)
  refine o_iinc X2 hx (pc' := 33) (Ls' := #[.val (.ref a1), .val (.int (1 : Int32)), .val (.long (2 : Int64)), .second, .val (.int (2 : Int32))]) (v := (1 : Int32)) (hb hby d15_30) rfl rfl rfl rfl ?_
  refine o_goto X2 hx (pc' := 7) (hb hby d15_33) (by decide) (by decide) ?_
  refine o_iload X2 hx (pc' := 9) (hb hby d15_7) rfl rfl ?_
  refine o_iconst X2 hx (pc' := 10) (v := (5 : Int32)) (hb hby d15_9) rfl rfl ?_
  refine o_icmp_gt X2 hx (pc' := 13) (pt := 36) (hb hby d15_10) rfl (by decide) (by decide) (fun q => absurd q (by decide)) (fun _ => ?_)
  refine o_aloadN X2 hx (pc' := 14) (hb hby d15_13) rfl rfl rfl ?_
  refine o_getfield X2 hx hZ hown (hw _ (List.mem_of_getElem? (i := 14) rfl)) e2 pPi (hb hby d15_14) (pc' := 17) rfl ?_
  intro T3 X3 e3
  refine o_iload X3 hx (pc' := 19) (hb hby d15_17) rfl rfl ?_
  refine o_laload X3 hx hZ e3 pV1 (by decide) (v := (.long (0 : Int64))) rfl (hb hby d15_19) (pc' := 20) rfl ?_
  refine o_lloadN X3 hx (pc' := 21) (hb hby d15_20) rfl rfl ?_
  refine o_land X3 hx (pc' := 22) (hb hby d15_21) rfl ?_
  rw [show ((0 : Int64) &&& (2 : Int64)) = (0 : Int64) from by decide +kernel]
  refine o_lconst X3 hx (pc' := 23) (v := (0 : Int64)) (hb hby d15_22) rfl rfl ?_
  refine o_lcmp X3 hx (pc' := 24) (hb hby d15_23) rfl ?_
  refine o_lif_eq X3 hx (pc' := 27) (pt := 30) (hb hby d15_24) rfl (by decide) (by decide) (fun _ => ?_) (fun q => absurd (by decide) q)
  refine o_iinc X3 hx (pc' := 33) (Ls' := #[.val (.ref a1), .val (.int (1 : Int32)), .val (.long (2 : Int64)), .second, .val (.int (3 : Int32))]) (v := (1 : Int32)) (hb hby d15_30) rfl rfl rfl rfl ?_
  refine o_goto X3 hx (pc' := 7) (hb hby d15_33) (by decide) (by decide) ?_
  refine o_iload X3 hx (pc' := 9) (hb hby d15_7) rfl rfl ?_
  refine o_iconst X3 hx (pc' := 10) (v := (5 : Int32)) (hb hby d15_9) rfl rfl ?_
  refine o_icmp_gt X3 hx (pc' := 13) (pt := 36) (hb hby d15_10) rfl (by decide) (by decide) (fun q => absurd q (by decide)) (fun _ => ?_)
  refine o_aloadN X3 hx (pc' := 14) (hb hby d15_13) rfl rfl rfl ?_
  refine o_getfield X3 hx hZ hown (hw _ (List.mem_of_getElem? (i := 14) rfl)) e3 pPi (hb hby d15_14) (pc' := 17) rfl ?_
  intro T4 X4 e4
  refine o_iload X4 hx (pc' := 19) (hb hby d15_17) rfl rfl ?_
  refine o_laload X4 hx hZ e4 pV1 (by decide) (v := (.long (0 : Int64))) rfl (hb hby d15_19) (pc' := 20) rfl ?_
  refine o_lloadN X4 hx (pc' := 21) (hb hby d15_20) rfl rfl ?_
  refine o_land X4 hx (pc' := 22) (hb hby d15_21) rfl ?_
  rw [show ((0 : Int64) &&& (2 : Int64)) = (0 : Int64) from by decide +kernel]
  refine o_lconst X4 hx (pc' := 23) (v := (0 : Int64)) (hb hby d15_22) rfl rfl ?_
  refine o_lcmp X4 hx (pc' := 24) (hb hby d15_23) rfl ?_
  refine o_lif_eq X4 hx (pc' := 27) (pt := 30) (hb hby d15_24) rfl (by decide) (by decide) (fun _ => ?_) (fun q => absurd (by decide) q)
  refine o_iinc X4 hx (pc' := 33) (Ls' := #[.val (.ref a1), .val (.int (1 : Int32)), .val (.long (2 : Int64)), .second, .val (.int (4 : Int32))]) (v := (1 : Int32)) (hb hby d15_30) rfl rfl rfl rfl ?_
  refine o_goto X4 hx (pc' := 7) (hb hby d15_33) (by decide) (by decide) ?_
  refine o_iload X4 hx (pc' := 9) (hb hby d15_7) rfl rfl ?_
  refine o_iconst X4 hx (pc' := 10) (v := (5 : Int32)) (hb hby d15_9) rfl rfl ?_
  refine o_icmp_gt X4 hx (pc' := 13) (pt := 36) (hb hby d15_10) rfl (by decide) (by decide) (fun q => absurd q (by decide)) (fun _ => ?_)
  refine o_aloadN X4 hx (pc' := 14) (hb hby d15_13) rfl rfl rfl ?_
  refine o_getfield X4 hx hZ hown (hw _ (List.mem_of_getElem? (i := 14) rfl)) e4 pPi (hb hby d15_14) (pc' := 17) rfl ?_
  intro T5 X5 e5
  refine o_iload X5 hx (pc' := 19) (hb hby d15_17) rfl rfl ?_
  refine o_laload X5 hx hZ e5 pV1 (by decide) (v := (.long (0 : Int64))) rfl (hb hby d15_19) (pc' := 20) rfl ?_
  refine o_lloadN X5 hx (pc' := 21) (hb hby d15_20) rfl rfl ?_
  refine o_land X5 hx (pc' := 22) (hb hby d15_21) rfl ?_
  rw [show ((0 : Int64) &&& (2 : Int64)) = (0 : Int64) from by decide +kernel]
  refine o_lconst X5 hx (pc' := 23) (v := (0 : Int64)) (hb hby d15_22) rfl rfl ?_
  refine o_lcmp X5 hx (pc' := 24) (hb hby d15_23) rfl ?_
  refine o_lif_eq X5 hx (pc' := 27) (pt := 30) (hb hby d15_24) rfl (by decide) (by decide) (fun _ => ?_) (fun q => absurd (by decide) q)
  refine o_iinc X5 hx (pc' := 33) (Ls' := #[.val (.ref a1), .val (.int (1 : Int32)), .val (.long (2 : Int64)), .second, .val (.int (5 : Int32))]) (v := (1 : Int32)) (hb hby d15_30) rfl rfl rfl rfl ?_
  refine o_goto X5 hx (pc' := 7) (hb hby d15_33) (by decide) (by decide) ?_
  refine o_iload X5 hx (pc' := 9) (hb hby d15_7) rfl rfl ?_
  refine o_iconst X5 hx (pc' := 10) (v := (5 : Int32)) (hb hby d15_9) rfl rfl ?_
  refine o_icmp_gt X5 hx (pc' := 13) (pt := 36) (hb hby d15_10) rfl (by decide) (by decide) (fun q => absurd q (by decide)) (fun _ => ?_)
  refine o_aloadN X5 hx (pc' := 14) (hb hby d15_13) rfl rfl rfl ?_
  refine o_getfield X5 hx hZ hown (hw _ (List.mem_of_getElem? (i := 14) rfl)) e5 pPi (hb hby d15_14) (pc' := 17) rfl ?_
  intro T6 X6 e6
  refine o_iload X6 hx (pc' := 19) (hb hby d15_17) rfl rfl ?_
  refine o_laload X6 hx hZ e6 pV1 (by decide) (v := (.long (2 : Int64))) rfl (hb hby d15_19) (pc' := 20) rfl ?_
  refine o_lloadN X6 hx (pc' := 21) (hb hby d15_20) rfl rfl ?_
  refine o_land X6 hx (pc' := 22) (hb hby d15_21) rfl ?_
  rw [show ((2 : Int64) &&& (2 : Int64)) = (2 : Int64) from by decide +kernel]
  refine o_lconst X6 hx (pc' := 23) (v := (0 : Int64)) (hb hby d15_22) rfl rfl ?_
  refine o_lcmp X6 hx (pc' := 24) (hb hby d15_23) rfl ?_
  refine o_lif_eq X6 hx (pc' := 27) (pt := 30) (hb hby d15_24) rfl (by decide) (by decide) (fun q => absurd q (by decide)) (fun _ => ?_)
  refine o_iload X6 hx (pc' := 29) (hb hby d15_27) rfl rfl ?_
  exact finI X6 hx hlk hret (hb hby d15_29) (by decide) (by decide) ⟨rfl, rfl, e6⟩
theorem ef_14_4 (m : MethodId)  : entryFrame m #[(.int (4 : Int32))] 2 = mkF m 0 #[.val (.int (4 : Int32)), .unset] [] := by first | (simp [entryFrame, mkF, argsToLocals, Value.category]; done) | rfl
set_option maxRecDepth 65536 in
set_option maxHeartbeats 40000000 in
theorem rmP14_4 (l : Launch) (Z : State) (a0 : Array Value) (hw : ∀ d ∈ tables_1, d.before a0 Z = true) (h0 : Heap) (n0 : Nat) (Z0 : n0 ≤ h0.size)   : Ctr l Z (⟨"java/lang/Integer", "numberOfTrailingZeros", "(I)I"⟩ : MethodName) jdk_33_method_48_code 2 (some .int) [] ({ frames := 0, cells := 0, slots := 0, locals := 0 } : Room) #[(.int (4 : Int32))] h0 (Pure ((.int (2 : Int32))) h0) := by
  refine ctr_mk pn_14 (own := "java/lang/Integer") (mn := "numberOfTrailingZeros") rfl rfl ?_
  intro p e s m below meth c T0 X0 hx hby hml hZ hown hnm hret hlk e0
  refine o_entry (ef_14_4 m ) ?_
  refine o_iloadN X0 hx (pc' := 1) (hb hby d14_0) rfl rfl ?_
  refine o_iconst X0 hx (pc' := 2) (v := (-1 : Int32)) (hb hby d14_1) rfl rfl ?_
  refine o_ixor X0 hx (pc' := 3) (hb hby d14_2) rfl ?_
  rw [show ((4 : Int32) ^^^ (-1 : Int32)) = (-5 : Int32) from by decide +kernel]
  refine o_iloadN X0 hx (pc' := 4) (hb hby d14_3) rfl rfl ?_
  refine o_iconst X0 hx (pc' := 5) (v := (1 : Int32)) (hb hby d14_4) rfl rfl ?_
  refine o_isub X0 hx (pc' := 6) (hb hby d14_5) rfl ?_
  rw [show ((4 : Int32) - (1 : Int32)) = (3 : Int32) from by decide +kernel]
  refine o_iand X0 hx (pc' := 7) (hb hby d14_6) rfl ?_
  rw [show ((-5 : Int32) &&& (3 : Int32)) = (3 : Int32) from by decide +kernel]
  refine o_istoreN X0 hx (pc' := 8) (Ls' := #[.val (.int (3 : Int32)), .unset]) (hb hby d14_7) rfl rfl ?_
  refine o_iloadN X0 hx (pc' := 9) (hb hby d14_8) rfl rfl ?_
  refine o_if_gt X0 hx (pc' := 12) (pt := 17) (hb hby d14_9) rfl (by decide) (by decide) (fun _ => ?_) (fun q => absurd (by decide) q)
  refine o_iconst X0 hx (pc' := 18) (v := (1 : Int32)) (hb hby d14_17) rfl rfl ?_
  refine o_istoreN X0 hx (pc' := 19) (Ls' := #[.val (.int (3 : Int32)), .val (.int (1 : Int32))]) (hb hby d14_18) rfl rfl ?_
  refine o_iloadN X0 hx (pc' := 20) (hb hby d14_19) rfl rfl ?_
  refine o_ldcw X0 hx hZ hown (hw _ (List.mem_of_getElem? (i := 158) rfl)) (pc' := 23) (hb hby d14_20) rfl ?_
  refine o_icmp_le X0 hx (pc' := 26) (pt := 34) (hb hby d14_23) rfl (by decide) (by decide) (fun _ => ?_) (fun q => absurd q (by decide))
  refine o_iloadN X0 hx (pc' := 35) (hb hby d14_34) rfl rfl ?_
  refine o_sipush X0 hx (pc' := 38) (v := (256 : Int32)) (hb hby d14_35) rfl rfl ?_
  refine o_icmp_le X0 hx (pc' := 41) (pt := 49) (hb hby d14_38) rfl (by decide) (by decide) (fun _ => ?_) (fun q => absurd q (by decide))
  refine o_iloadN X0 hx (pc' := 50) (hb hby d14_49) rfl rfl ?_
  refine o_bipush X0 hx (pc' := 52) (v := (16 : Int32)) (hb hby d14_50) rfl rfl ?_
  refine o_icmp_le X0 hx (pc' := 55) (pt := 62) (hb hby d14_52) rfl (by decide) (by decide) (fun _ => ?_) (fun q => absurd q (by decide))
  refine o_iloadN X0 hx (pc' := 63) (hb hby d14_62) rfl rfl ?_
  refine o_iconst X0 hx (pc' := 64) (v := (4 : Int32)) (hb hby d14_63) rfl rfl ?_
  refine o_icmp_le X0 hx (pc' := 67) (pt := 74) (hb hby d14_64) rfl (by decide) (by decide) (fun _ => ?_) (fun q => absurd q (by decide))
  refine o_iloadN X0 hx (pc' := 75) (hb hby d14_74) rfl rfl ?_
  refine o_iloadN X0 hx (pc' := 76) (hb hby d14_75) rfl rfl ?_
  refine o_iconst X0 hx (pc' := 77) (v := (1 : Int32)) (hb hby d14_76) rfl rfl ?_
  refine o_iushr X0 hx (pc' := 78) (hb hby d14_77) rfl ?_
  rw [show (((3 : Int32).toUInt32 >>> ((1 : Int32) &&& 31).toUInt32).toInt32) = (1 : Int32) from by decide +kernel]
  refine o_iadd X0 hx (pc' := 79) (hb hby d14_78) rfl ?_
  rw [show ((1 : Int32) + (1 : Int32)) = (2 : Int32) from by decide +kernel]
  exact finI X0 hx hlk hret (hb hby d14_79) (by decide) (by decide) ⟨rfl, rfl, e0⟩
theorem ef_13_4 (m : MethodId)  : entryFrame m #[(.long (4 : Int64))] 3 = mkF m 0 #[.val (.long (4 : Int64)), .second, .unset] [] := by first | (simp [entryFrame, mkF, argsToLocals, Value.category]; done) | rfl
set_option maxRecDepth 65536 in
set_option maxHeartbeats 40000000 in
theorem rmP13_4 (l : Launch) (Z : State) (a0 : Array Value) (hw : ∀ d ∈ tables_1, d.before a0 Z = true) (h0 : Heap) (n0 : Nat) (Z0 : n0 ≤ h0.size)   : Ctr l Z (⟨"java/lang/Long", "numberOfTrailingZeros", "(J)I"⟩ : MethodName) jdk_35_method_49_code 3 (some .int) [] ({ frames := 1, cells := 0, slots := 0, locals := 13 } : Room) #[(.long (4 : Int64))] h0 (Pure ((.int (2 : Int32))) h0) := by
  refine ctr_mk pn_13 (own := "java/lang/Long") (mn := "numberOfTrailingZeros") rfl rfl ?_
  intro p e s m below meth c T0 X0 hx hby hml hZ hown hnm hret hlk e0
  refine o_entry (ef_13_4 m ) ?_
  refine o_lloadN X0 hx (pc' := 1) (hb hby d13_0) rfl rfl ?_
  refine o_l2i X0 hx (pc' := 2) (hb hby d13_1) rfl ?_
  rw [show ((4 : Int64).toInt32) = (4 : Int32) from by decide +kernel]
  refine o_istoreN X0 hx (pc' := 3) (Ls' := #[.val (.long (4 : Int64)), .second, .val (.int (4 : Int32))]) (hb hby d13_2) rfl rfl ?_
  refine o_iloadN X0 hx (pc' := 4) (hb hby d13_3) rfl rfl ?_
  refine o_if_ne X0 hx (pc' := 7) (pt := 21) (hb hby d13_4) rfl (by decide) (by decide) (fun _ => ?_) (fun q => absurd q (by decide))
  refine o_iloadN X0 hx (pc' := 22) (hb hby d13_21) rfl rfl ?_
  refine o_callSP X0 hx hZ [(.int (4 : Int32))] (rmP14_4 l Z a0 hw h0 n0 Z0) hown (hw _ (List.mem_of_getElem? (i := 101) rfl)) (hw _ (List.mem_of_getElem? (i := 102) rfl)) (hw _ (List.mem_of_getElem? (i := 103) rfl)) (hw _ (List.mem_of_getElem? (i := 104) rfl)) (by decide) pd_0 e0 (by rw [hml]; rfl) rfl rfl rfl (hb hby d13_22) (pc' := 25) rfl 0 (Nat.le_of_eq rfl) (by decide) (by decide) rfl rfl (by decide) (by decide) ?_
  intro T1 X1 e1
  show Dn p e below _ (T1.setTop (mkF m 25 #[.val (.long (4 : Int64)), .second, .val (.int (4 : Int32))] [(.int (2 : Int32))]))
  exact finI X1 hx hlk hret (hb hby d13_25) (by decide) (by decide) ⟨rfl, rfl, e1⟩
set_option maxRecDepth 65536 in
set_option maxHeartbeats 40000000 in
theorem rmKS2 (l : Launch) (Z : State) (a0 : Array Value) (hw : ∀ d ∈ tables_1, d.before a0 Z = true) (h0 : Heap) (n0 : Nat) (Z0 : n0 ≤ h0.size) (a1 : Addr) (t : Nat) (hP : Pos Z h0 t a1 4) : Ctr l Z (⟨"com/example/jadoube/jadoube/Position", "kingSquare", "(I)I"⟩ : MethodName) prog_31_method_18_code 2 (some .int) [] ({ frames := 2, cells := 0, slots := 0, locals := 27 } : Room) #[(.ref a1), (.int (0 : Int32))] h0 (Pure (.int 2) h0) := by
  refine ctr_mk pn_18 (own := "com/example/jadoube/jadoube/Position") (mn := "kingSquare") rfl rfl ?_
  intro p e s m below meth c T0 X0 hx hby hml hZ hown hnm hret hlk e0
  refine o_entry (ef_18_a1_0 m a1) ?_
  have hPo := hP
  obtain ⟨bp, bc, kp, kc, lt_a, lt_bp, lt_bc, pE, pPi, pCo, pSi, pCa, pEn, pC9, pV1, pV2⟩ := hPo
  refine o_aloadN X0 hx (pc' := 1) (hb hby d18_0) rfl rfl rfl ?_
  refine o_getfield X0 hx hZ hown (hw _ (List.mem_of_getElem? (i := 14) rfl)) e0 pPi (hb hby d18_1) (pc' := 4) rfl ?_
  intro T1 X1 e1
  refine o_iconst X1 hx (pc' := 5) (v := (5 : Int32)) (hb hby d18_4) rfl rfl ?_
  refine o_laload X1 hx hZ e1 pV1 (by decide) (v := (.long (4 : Int64))) rfl (hb hby d18_5) (pc' := 6) rfl ?_
  refine o_aloadN X1 hx (pc' := 7) (hb hby d18_6) rfl rfl rfl ?_
  refine o_getfield X1 hx hZ hown (hw _ (List.mem_of_getElem? (i := 16) rfl)) e1 pCo (hb hby d18_7) (pc' := 10) rfl ?_
  intro T2 X2 e2
  refine o_iloadN X2 hx (pc' := 11) (hb hby d18_10) rfl rfl ?_
  refine o_laload X2 hx hZ e2 pV2 (by decide) (v := (.long (4 : Int64))) rfl (hb hby d18_11) (pc' := 12) rfl ?_
  refine o_land X2 hx (pc' := 13) (hb hby d18_12) rfl ?_
  rw [show ((4 : Int64) &&& (4 : Int64)) = (4 : Int64) from by decide +kernel]
  refine o_callSP X2 hx hZ [(.long (4 : Int64))] (rmP13_4 l Z a0 hw h0 n0 Z0) hown (hw _ (List.mem_of_getElem? (i := 129) rfl)) (hw _ (List.mem_of_getElem? (i := 99) rfl)) (hw _ (List.mem_of_getElem? (i := 53) rfl)) (hw _ (List.mem_of_getElem? (i := 100) rfl)) (by decide) pd_1 e2 (by rw [hml]; rfl) rfl rfl rfl (hb hby d18_13) (pc' := 16) rfl 0 (Nat.le_of_eq rfl) (by decide) (by decide) rfl rfl (by decide) (by decide) ?_
  intro T3 X3 e3
  show Dn p e below _ (T3.setTop (mkF m 16 #[.val (.ref a1), .val (.int (0 : Int32))] [(.int (2 : Int32))]))
  exact finI X3 hx hlk hret (hb hby d18_16) (by decide) (by decide) ⟨rfl, rfl, e3⟩
theorem ef_15_a1_2 (m : MethodId) (a1 : Addr) : entryFrame m #[(.ref a1), (.int (2 : Int32))] 5 = mkF m 0 #[.val (.ref a1), .val (.int (2 : Int32)), .unset, .unset, .unset] [] := by first | (simp [entryFrame, mkF, argsToLocals, Value.category]; done) | rfl
set_option maxRecDepth 65536 in
set_option maxHeartbeats 40000000 in
theorem rmKO2 (l : Launch) (Z : State) (a0 : Array Value) (hw : ∀ d ∈ tables_1, d.before a0 Z = true) (h0 : Heap) (n0 : Nat) (Z0 : n0 ≤ h0.size) (a1 : Addr) (t : Nat) (hP : Pos Z h0 t a1 4) : Ctr l Z (⟨"com/example/jadoube/jadoube/Position", "kindOn", "(I)I"⟩ : MethodName) prog_31_method_19_code 5 (some .int) [] ({ frames := 0, cells := 0, slots := 0, locals := 0 } : Room) #[(.ref a1), (.int (2 : Int32))] h0 (Pure (.int 5) h0) := by
  refine ctr_mk pn_15 (own := "com/example/jadoube/jadoube/Position") (mn := "kindOn") rfl rfl ?_
  intro p e s m below meth c T0 X0 hx hby hml hZ hown hnm hret hlk e0
  refine o_entry (ef_15_a1_2 m a1) ?_
  have hPo := hP
  obtain ⟨bp, bc, kp, kc, lt_a, lt_bp, lt_bc, pE, pPi, pCo, pSi, pCa, pEn, pC9, pV1, pV2⟩ := hPo
  refine o_lconst X0 hx (pc' := 1) (v := (1 : Int64)) (hb hby d15_0) rfl rfl ?_
  refine o_iloadN X0 hx (pc' := 2) (hb hby d15_1) rfl rfl ?_
  refine o_lshl X0 hx (pc' := 3) (hb hby d15_2) rfl ?_
  rw [show ((1 : Int64) <<< ((2 : Int32) &&& 0x3f).toInt64) = (4 : Int64) from by decide +kernel]
  refine o_lstoreN X0 hx (pc' := 4) (Ls' := #[.val (.ref a1), .val (.int (2 : Int32)), .val (.long (4 : Int64)), .second, .unset]) (hb hby d15_3) rfl rfl ?_
  refine o_iconst X0 hx (pc' := 5) (v := (0 : Int32)) (hb hby d15_4) rfl rfl ?_
  refine o_istore X0 hx (pc' := 7) (Ls' := #[.val (.ref a1), .val (.int (2 : Int32)), .val (.long (4 : Int64)), .second, .val (.int (0 : Int32))]) (hb hby d15_5) rfl rfl ?_
  refine o_iload X0 hx (pc' := 9) (hb hby d15_7) rfl rfl ?_
  refine o_iconst X0 hx (pc' := 10) (v := (5 : Int32)) (hb hby d15_9) rfl rfl ?_
  refine o_icmp_gt X0 hx (pc' := 13) (pt := 36) (hb hby d15_10) rfl (by decide) (by decide) (fun q => absurd q (by decide)) (fun _ => ?_)
  refine o_aloadN X0 hx (pc' := 14) (hb hby d15_13) rfl rfl rfl ?_
  refine o_getfield X0 hx hZ hown (hw _ (List.mem_of_getElem? (i := 14) rfl)) e0 pPi (hb hby d15_14) (pc' := 17) rfl ?_
  intro T1 X1 e1
  refine o_iload X1 hx (pc' := 19) (hb hby d15_17) rfl rfl ?_
  refine o_laload X1 hx hZ e1 pV1 (by decide) (v := (.long (0 : Int64))) rfl (hb hby d15_19) (pc' := 20) rfl ?_
  refine o_lloadN X1 hx (pc' := 21) (hb hby d15_20) rfl rfl ?_
  refine o_land X1 hx (pc' := 22) (hb hby d15_21) rfl ?_
  rw [show ((0 : Int64) &&& (4 : Int64)) = (0 : Int64) from by decide +kernel]
  refine o_lconst X1 hx (pc' := 23) (v := (0 : Int64)) (hb hby d15_22) rfl rfl ?_
  refine o_lcmp X1 hx (pc' := 24) (hb hby d15_23) rfl ?_
  refine o_lif_eq X1 hx (pc' := 27) (pt := 30) (hb hby d15_24) rfl (by decide) (by decide) (fun _ => ?_) (fun q => absurd (by decide) q)
  refine o_iinc X1 hx (pc' := 33) (Ls' := #[.val (.ref a1), .val (.int (2 : Int32)), .val (.long (4 : Int64)), .second, .val (.int (1 : Int32))]) (v := (1 : Int32)) (hb hby d15_30) rfl rfl rfl rfl ?_
  refine o_goto X1 hx (pc' := 7) (hb hby d15_33) (by decide) (by decide) ?_
  refine o_iload X1 hx (pc' := 9) (hb hby d15_7) rfl rfl ?_
  refine o_iconst X1 hx (pc' := 10) (v := (5 : Int32)) (hb hby d15_9) rfl rfl ?_
  refine o_icmp_gt X1 hx (pc' := 13) (pt := 36) (hb hby d15_10) rfl (by decide) (by decide) (fun q => absurd q (by decide)) (fun _ => ?_)
  refine o_aloadN X1 hx (pc' := 14) (hb hby d15_13) rfl rfl rfl ?_
  refine o_getfield X1 hx hZ hown (hw _ (List.mem_of_getElem? (i := 14) rfl)) e1 pPi (hb hby d15_14) (pc' := 17) rfl ?_
  intro T2 X2 e2
  refine o_iload X2 hx (pc' := 19) (hb hby d15_17) rfl rfl ?_
  refine o_laload X2 hx hZ e2 pV1 (by decide) (v := (.long (0 : Int64))) rfl (hb hby d15_19) (pc' := 20) rfl ?_
  refine o_lloadN X2 hx (pc' := 21) (hb hby d15_20) rfl rfl ?_
  refine o_land X2 hx (pc' := 22) (hb hby d15_21) rfl ?_
  rw [show ((0 : Int64) &&& (4 : Int64)) = (0 : Int64) from by decide +kernel]
  refine o_lconst X2 hx (pc' := 23) (v := (0 : Int64)) (hb hby d15_22) rfl rfl ?_
  refine o_lcmp X2 hx (pc' := 24) (hb hby d15_23) rfl ?_
  refine o_lif_eq X2 hx (pc' := 27) (pt := 30) (hb hby d15_24) rfl (by decide) (by decide) (fun _ => ?_) (fun q => absurd (by decide) q)
  refine o_iinc X2 hx (pc' := 33) (Ls' := #[.val (.ref a1), .val (.int (2 : Int32)), .val (.long (4 : Int64)), .second, .val (.int (2 : Int32))]) (v := (1 : Int32)) (hb hby d15_30) rfl rfl rfl rfl ?_
  refine o_goto X2 hx (pc' := 7) (hb hby d15_33) (by decide) (by decide) ?_
  refine o_iload X2 hx (pc' := 9) (hb hby d15_7) rfl rfl ?_
  refine o_iconst X2 hx (pc' := 10) (v := (5 : Int32)) (hb hby d15_9) rfl rfl ?_
  refine o_icmp_gt X2 hx (pc' := 13) (pt := 36) (hb hby d15_10) rfl (by decide) (by decide) (fun q => absurd q (by decide)) (fun _ => ?_)
  refine o_aloadN X2 hx (pc' := 14) (hb hby d15_13) rfl rfl rfl ?_
  refine o_getfield X2 hx hZ hown (hw _ (List.mem_of_getElem? (i := 14) rfl)) e2 pPi (hb hby d15_14) (pc' := 17) rfl ?_
  intro T3 X3 e3
  refine o_iload X3 hx (pc' := 19) (hb hby d15_17) rfl rfl ?_
  refine o_laload X3 hx hZ e3 pV1 (by decide) (v := (.long (0 : Int64))) rfl (hb hby d15_19) (pc' := 20) rfl ?_
  refine o_lloadN X3 hx (pc' := 21) (hb hby d15_20) rfl rfl ?_
  refine o_land X3 hx (pc' := 22) (hb hby d15_21) rfl ?_
  rw [show ((0 : Int64) &&& (4 : Int64)) = (0 : Int64) from by decide +kernel]
  refine o_lconst X3 hx (pc' := 23) (v := (0 : Int64)) (hb hby d15_22) rfl rfl ?_
  refine o_lcmp X3 hx (pc' := 24) (hb hby d15_23) rfl ?_
  refine o_lif_eq X3 hx (pc' := 27) (pt := 30) (hb hby d15_24) rfl (by decide) (by decide) (fun _ => ?_) (fun q => absurd (by decide) q)
  refine o_iinc X3 hx (pc' := 33) (Ls' := #[.val (.ref a1), .val (.int (2 : Int32)), .val (.long (4 : Int64)), .second, .val (.int (3 : Int32))]) (v := (1 : Int32)) (hb hby d15_30) rfl rfl rfl rfl ?_
  refine o_goto X3 hx (pc' := 7) (hb hby d15_33) (by decide) (by decide) ?_
  refine o_iload X3 hx (pc' := 9) (hb hby d15_7) rfl rfl ?_
  refine o_iconst X3 hx (pc' := 10) (v := (5 : Int32)) (hb hby d15_9) rfl rfl ?_
  refine o_icmp_gt X3 hx (pc' := 13) (pt := 36) (hb hby d15_10) rfl (by decide) (by decide) (fun q => absurd q (by decide)) (fun _ => ?_)
  refine o_aloadN X3 hx (pc' := 14) (hb hby d15_13) rfl rfl rfl ?_
  refine o_getfield X3 hx hZ hown (hw _ (List.mem_of_getElem? (i := 14) rfl)) e3 pPi (hb hby d15_14) (pc' := 17) rfl ?_
  intro T4 X4 e4
  refine o_iload X4 hx (pc' := 19) (hb hby d15_17) rfl rfl ?_
  refine o_laload X4 hx hZ e4 pV1 (by decide) (v := (.long (0 : Int64))) rfl (hb hby d15_19) (pc' := 20) rfl ?_
  refine o_lloadN X4 hx (pc' := 21) (hb hby d15_20) rfl rfl ?_
  refine o_land X4 hx (pc' := 22) (hb hby d15_21) rfl ?_
  rw [show ((0 : Int64) &&& (4 : Int64)) = (0 : Int64) from by decide +kernel]
  refine o_lconst X4 hx (pc' := 23) (v := (0 : Int64)) (hb hby d15_22) rfl rfl ?_
  refine o_lcmp X4 hx (pc' := 24) (hb hby d15_23) rfl ?_
  refine o_lif_eq X4 hx (pc' := 27) (pt := 30) (hb hby d15_24) rfl (by decide) (by decide) (fun _ => ?_) (fun q => absurd (by decide) q)
  refine o_iinc X4 hx (pc' := 33) (Ls' := #[.val (.ref a1), .val (.int (2 : Int32)), .val (.long (4 : Int64)), .second, .val (.int (4 : Int32))]) (v := (1 : Int32)) (hb hby d15_30) rfl rfl rfl rfl ?_
  refine o_goto X4 hx (pc' := 7) (hb hby d15_33) (by decide) (by decide) ?_
  refine o_iload X4 hx (pc' := 9) (hb hby d15_7) rfl rfl ?_
  refine o_iconst X4 hx (pc' := 10) (v := (5 : Int32)) (hb hby d15_9) rfl rfl ?_
  refine o_icmp_gt X4 hx (pc' := 13) (pt := 36) (hb hby d15_10) rfl (by decide) (by decide) (fun q => absurd q (by decide)) (fun _ => ?_)
  refine o_aloadN X4 hx (pc' := 14) (hb hby d15_13) rfl rfl rfl ?_
  refine o_getfield X4 hx hZ hown (hw _ (List.mem_of_getElem? (i := 14) rfl)) e4 pPi (hb hby d15_14) (pc' := 17) rfl ?_
  intro T5 X5 e5
  refine o_iload X5 hx (pc' := 19) (hb hby d15_17) rfl rfl ?_
  refine o_laload X5 hx hZ e5 pV1 (by decide) (v := (.long (0 : Int64))) rfl (hb hby d15_19) (pc' := 20) rfl ?_
  refine o_lloadN X5 hx (pc' := 21) (hb hby d15_20) rfl rfl ?_
  refine o_land X5 hx (pc' := 22) (hb hby d15_21) rfl ?_
  rw [show ((0 : Int64) &&& (4 : Int64)) = (0 : Int64) from by decide +kernel]
  refine o_lconst X5 hx (pc' := 23) (v := (0 : Int64)) (hb hby d15_22) rfl rfl ?_
  refine o_lcmp X5 hx (pc' := 24) (hb hby d15_23) rfl ?_
  refine o_lif_eq X5 hx (pc' := 27) (pt := 30) (hb hby d15_24) rfl (by decide) (by decide) (fun _ => ?_) (fun q => absurd (by decide) q)
  refine o_iinc X5 hx (pc' := 33) (Ls' := #[.val (.ref a1), .val (.int (2 : Int32)), .val (.long (4 : Int64)), .second, .val (.int (5 : Int32))]) (v := (1 : Int32)) (hb hby d15_30) rfl rfl rfl rfl ?_
  refine o_goto X5 hx (pc' := 7) (hb hby d15_33) (by decide) (by decide) ?_
  refine o_iload X5 hx (pc' := 9) (hb hby d15_7) rfl rfl ?_
  refine o_iconst X5 hx (pc' := 10) (v := (5 : Int32)) (hb hby d15_9) rfl rfl ?_
  refine o_icmp_gt X5 hx (pc' := 13) (pt := 36) (hb hby d15_10) rfl (by decide) (by decide) (fun q => absurd q (by decide)) (fun _ => ?_)
  refine o_aloadN X5 hx (pc' := 14) (hb hby d15_13) rfl rfl rfl ?_
  refine o_getfield X5 hx hZ hown (hw _ (List.mem_of_getElem? (i := 14) rfl)) e5 pPi (hb hby d15_14) (pc' := 17) rfl ?_
  intro T6 X6 e6
  refine o_iload X6 hx (pc' := 19) (hb hby d15_17) rfl rfl ?_
  refine o_laload X6 hx hZ e6 pV1 (by decide) (v := (.long (4 : Int64))) rfl (hb hby d15_19) (pc' := 20) rfl ?_
  refine o_lloadN X6 hx (pc' := 21) (hb hby d15_20) rfl rfl ?_
  refine o_land X6 hx (pc' := 22) (hb hby d15_21) rfl ?_
  rw [show ((4 : Int64) &&& (4 : Int64)) = (4 : Int64) from by decide +kernel]
  refine o_lconst X6 hx (pc' := 23) (v := (0 : Int64)) (hb hby d15_22) rfl rfl ?_
  refine o_lcmp X6 hx (pc' := 24) (hb hby d15_23) rfl ?_
  refine o_lif_eq X6 hx (pc' := 27) (pt := 30) (hb hby d15_24) rfl (by decide) (by decide) (fun q => absurd q (by decide)) (fun _ => ?_)
  refine o_iload X6 hx (pc' := 29) (hb hby d15_27) rfl rfl ?_
  exact finI X6 hx hlk hret (hb hby d15_29) (by decide) (by decide) ⟨rfl, rfl, e6⟩
theorem d14_67 : decode jdk_33_method_48_code 67 = .ok (.iinc 1 2, 3) := by decide +kernel
theorem d14_70 : decode jdk_33_method_48_code 70 = .ok (.iload_n 0, 1) := by decide +kernel
theorem d14_71 : decode jdk_33_method_48_code 71 = .ok (.iconst 2, 1) := by decide +kernel
theorem d14_72 : decode jdk_33_method_48_code 72 = .ok (.iushr, 1) := by decide +kernel
theorem d14_73 : decode jdk_33_method_48_code 73 = .ok (.istore_n 0, 1) := by decide +kernel
theorem ef_14_8 (m : MethodId)  : entryFrame m #[(.int (8 : Int32))] 2 = mkF m 0 #[.val (.int (8 : Int32)), .unset] [] := by first | (simp [entryFrame, mkF, argsToLocals, Value.category]; done) | rfl
set_option maxRecDepth 65536 in
set_option maxHeartbeats 40000000 in
theorem rmP14_8 (l : Launch) (Z : State) (a0 : Array Value) (hw : ∀ d ∈ tables_1, d.before a0 Z = true) (h0 : Heap) (n0 : Nat) (Z0 : n0 ≤ h0.size)   : Ctr l Z (⟨"java/lang/Integer", "numberOfTrailingZeros", "(I)I"⟩ : MethodName) jdk_33_method_48_code 2 (some .int) [] ({ frames := 0, cells := 0, slots := 0, locals := 0 } : Room) #[(.int (8 : Int32))] h0 (Pure ((.int (3 : Int32))) h0) := by
  refine ctr_mk pn_14 (own := "java/lang/Integer") (mn := "numberOfTrailingZeros") rfl rfl ?_
  intro p e s m below meth c T0 X0 hx hby hml hZ hown hnm hret hlk e0
  refine o_entry (ef_14_8 m ) ?_
  refine o_iloadN X0 hx (pc' := 1) (hb hby d14_0) rfl rfl ?_
  refine o_iconst X0 hx (pc' := 2) (v := (-1 : Int32)) (hb hby d14_1) rfl rfl ?_
  refine o_ixor X0 hx (pc' := 3) (hb hby d14_2) rfl ?_
  rw [show ((8 : Int32) ^^^ (-1 : Int32)) = (-9 : Int32) from by decide +kernel]
  refine o_iloadN X0 hx (pc' := 4) (hb hby d14_3) rfl rfl ?_
  refine o_iconst X0 hx (pc' := 5) (v := (1 : Int32)) (hb hby d14_4) rfl rfl ?_
  refine o_isub X0 hx (pc' := 6) (hb hby d14_5) rfl ?_
  rw [show ((8 : Int32) - (1 : Int32)) = (7 : Int32) from by decide +kernel]
  refine o_iand X0 hx (pc' := 7) (hb hby d14_6) rfl ?_
  rw [show ((-9 : Int32) &&& (7 : Int32)) = (7 : Int32) from by decide +kernel]
  refine o_istoreN X0 hx (pc' := 8) (Ls' := #[.val (.int (7 : Int32)), .unset]) (hb hby d14_7) rfl rfl ?_
  refine o_iloadN X0 hx (pc' := 9) (hb hby d14_8) rfl rfl ?_
  refine o_if_gt X0 hx (pc' := 12) (pt := 17) (hb hby d14_9) rfl (by decide) (by decide) (fun _ => ?_) (fun q => absurd (by decide) q)
  refine o_iconst X0 hx (pc' := 18) (v := (1 : Int32)) (hb hby d14_17) rfl rfl ?_
  refine o_istoreN X0 hx (pc' := 19) (Ls' := #[.val (.int (7 : Int32)), .val (.int (1 : Int32))]) (hb hby d14_18) rfl rfl ?_
  refine o_iloadN X0 hx (pc' := 20) (hb hby d14_19) rfl rfl ?_
  refine o_ldcw X0 hx hZ hown (hw _ (List.mem_of_getElem? (i := 158) rfl)) (pc' := 23) (hb hby d14_20) rfl ?_
  refine o_icmp_le X0 hx (pc' := 26) (pt := 34) (hb hby d14_23) rfl (by decide) (by decide) (fun _ => ?_) (fun q => absurd q (by decide))
  refine o_iloadN X0 hx (pc' := 35) (hb hby d14_34) rfl rfl ?_
  refine o_sipush X0 hx (pc' := 38) (v := (256 : Int32)) (hb hby d14_35) rfl rfl ?_
  refine o_icmp_le X0 hx (pc' := 41) (pt := 49) (hb hby d14_38) rfl (by decide) (by decide) (fun _ => ?_) (fun q => absurd q (by decide))
  refine o_iloadN X0 hx (pc' := 50) (hb hby d14_49) rfl rfl ?_
  refine o_bipush X0 hx (pc' := 52) (v := (16 : Int32)) (hb hby d14_50) rfl rfl ?_
  refine o_icmp_le X0 hx (pc' := 55) (pt := 62) (hb hby d14_52) rfl (by decide) (by decide) (fun _ => ?_) (fun q => absurd q (by decide))
  refine o_iloadN X0 hx (pc' := 63) (hb hby d14_62) rfl rfl ?_
  refine o_iconst X0 hx (pc' := 64) (v := (4 : Int32)) (hb hby d14_63) rfl rfl ?_
  refine o_icmp_le X0 hx (pc' := 67) (pt := 74) (hb hby d14_64) rfl (by decide) (by decide) (fun q => absurd (by decide) q) (fun _ => ?_)
  refine o_iinc X0 hx (pc' := 70) (Ls' := #[.val (.int (7 : Int32)), .val (.int (3 : Int32))]) (v := (2 : Int32)) (hb hby d14_67) rfl rfl rfl rfl ?_
  refine o_iloadN X0 hx (pc' := 71) (hb hby d14_70) rfl rfl ?_
  refine o_iconst X0 hx (pc' := 72) (v := (2 : Int32)) (hb hby d14_71) rfl rfl ?_
  refine o_iushr X0 hx (pc' := 73) (hb hby d14_72) rfl ?_
  rw [show (((7 : Int32).toUInt32 >>> ((2 : Int32) &&& 31).toUInt32).toInt32) = (1 : Int32) from by decide +kernel]
  refine o_istoreN X0 hx (pc' := 74) (Ls' := #[.val (.int (1 : Int32)), .val (.int (3 : Int32))]) (hb hby d14_73) rfl rfl ?_
  refine o_iloadN X0 hx (pc' := 75) (hb hby d14_74) rfl rfl ?_
  refine o_iloadN X0 hx (pc' := 76) (hb hby d14_75) rfl rfl ?_
  refine o_iconst X0 hx (pc' := 77) (v := (1 : Int32)) (hb hby d14_76) rfl rfl ?_
  refine o_iushr X0 hx (pc' := 78) (hb hby d14_77) rfl ?_
  rw [show (((1 : Int32).toUInt32 >>> ((1 : Int32) &&& 31).toUInt32).toInt32) = (0 : Int32) from by decide +kernel]
  refine o_iadd X0 hx (pc' := 79) (hb hby d14_78) rfl ?_
  rw [show ((3 : Int32) + (0 : Int32)) = (3 : Int32) from by decide +kernel]
  exact finI X0 hx hlk hret (hb hby d14_79) (by decide) (by decide) ⟨rfl, rfl, e0⟩
theorem ef_13_8 (m : MethodId)  : entryFrame m #[(.long (8 : Int64))] 3 = mkF m 0 #[.val (.long (8 : Int64)), .second, .unset] [] := by first | (simp [entryFrame, mkF, argsToLocals, Value.category]; done) | rfl
set_option maxRecDepth 65536 in
set_option maxHeartbeats 40000000 in
theorem rmP13_8 (l : Launch) (Z : State) (a0 : Array Value) (hw : ∀ d ∈ tables_1, d.before a0 Z = true) (h0 : Heap) (n0 : Nat) (Z0 : n0 ≤ h0.size)   : Ctr l Z (⟨"java/lang/Long", "numberOfTrailingZeros", "(J)I"⟩ : MethodName) jdk_35_method_49_code 3 (some .int) [] ({ frames := 1, cells := 0, slots := 0, locals := 13 } : Room) #[(.long (8 : Int64))] h0 (Pure ((.int (3 : Int32))) h0) := by
  refine ctr_mk pn_13 (own := "java/lang/Long") (mn := "numberOfTrailingZeros") rfl rfl ?_
  intro p e s m below meth c T0 X0 hx hby hml hZ hown hnm hret hlk e0
  refine o_entry (ef_13_8 m ) ?_
  refine o_lloadN X0 hx (pc' := 1) (hb hby d13_0) rfl rfl ?_
  refine o_l2i X0 hx (pc' := 2) (hb hby d13_1) rfl ?_
  rw [show ((8 : Int64).toInt32) = (8 : Int32) from by decide +kernel]
  refine o_istoreN X0 hx (pc' := 3) (Ls' := #[.val (.long (8 : Int64)), .second, .val (.int (8 : Int32))]) (hb hby d13_2) rfl rfl ?_
  refine o_iloadN X0 hx (pc' := 4) (hb hby d13_3) rfl rfl ?_
  refine o_if_ne X0 hx (pc' := 7) (pt := 21) (hb hby d13_4) rfl (by decide) (by decide) (fun _ => ?_) (fun q => absurd q (by decide))
  refine o_iloadN X0 hx (pc' := 22) (hb hby d13_21) rfl rfl ?_
  refine o_callSP X0 hx hZ [(.int (8 : Int32))] (rmP14_8 l Z a0 hw h0 n0 Z0) hown (hw _ (List.mem_of_getElem? (i := 101) rfl)) (hw _ (List.mem_of_getElem? (i := 102) rfl)) (hw _ (List.mem_of_getElem? (i := 103) rfl)) (hw _ (List.mem_of_getElem? (i := 104) rfl)) (by decide) pd_0 e0 (by rw [hml]; rfl) rfl rfl rfl (hb hby d13_22) (pc' := 25) rfl 0 (Nat.le_of_eq rfl) (by decide) (by decide) rfl rfl (by decide) (by decide) ?_
  intro T1 X1 e1
  show Dn p e below _ (T1.setTop (mkF m 25 #[.val (.long (8 : Int64)), .second, .val (.int (8 : Int32))] [(.int (3 : Int32))]))
  exact finI X1 hx hlk hret (hb hby d13_25) (by decide) (by decide) ⟨rfl, rfl, e1⟩
set_option maxRecDepth 65536 in
set_option maxHeartbeats 40000000 in
theorem rmKS3 (l : Launch) (Z : State) (a0 : Array Value) (hw : ∀ d ∈ tables_1, d.before a0 Z = true) (h0 : Heap) (n0 : Nat) (Z0 : n0 ≤ h0.size) (a1 : Addr) (t : Nat) (hP : Pos Z h0 t a1 8) : Ctr l Z (⟨"com/example/jadoube/jadoube/Position", "kingSquare", "(I)I"⟩ : MethodName) prog_31_method_18_code 2 (some .int) [] ({ frames := 2, cells := 0, slots := 0, locals := 27 } : Room) #[(.ref a1), (.int (0 : Int32))] h0 (Pure (.int 3) h0) := by
  refine ctr_mk pn_18 (own := "com/example/jadoube/jadoube/Position") (mn := "kingSquare") rfl rfl ?_
  intro p e s m below meth c T0 X0 hx hby hml hZ hown hnm hret hlk e0
  refine o_entry (ef_18_a1_0 m a1) ?_
  have hPo := hP
  obtain ⟨bp, bc, kp, kc, lt_a, lt_bp, lt_bc, pE, pPi, pCo, pSi, pCa, pEn, pC9, pV1, pV2⟩ := hPo
  refine o_aloadN X0 hx (pc' := 1) (hb hby d18_0) rfl rfl rfl ?_
  refine o_getfield X0 hx hZ hown (hw _ (List.mem_of_getElem? (i := 14) rfl)) e0 pPi (hb hby d18_1) (pc' := 4) rfl ?_
  intro T1 X1 e1
  refine o_iconst X1 hx (pc' := 5) (v := (5 : Int32)) (hb hby d18_4) rfl rfl ?_
  refine o_laload X1 hx hZ e1 pV1 (by decide) (v := (.long (8 : Int64))) rfl (hb hby d18_5) (pc' := 6) rfl ?_
  refine o_aloadN X1 hx (pc' := 7) (hb hby d18_6) rfl rfl rfl ?_
  refine o_getfield X1 hx hZ hown (hw _ (List.mem_of_getElem? (i := 16) rfl)) e1 pCo (hb hby d18_7) (pc' := 10) rfl ?_
  intro T2 X2 e2
  refine o_iloadN X2 hx (pc' := 11) (hb hby d18_10) rfl rfl ?_
  refine o_laload X2 hx hZ e2 pV2 (by decide) (v := (.long (8 : Int64))) rfl (hb hby d18_11) (pc' := 12) rfl ?_
  refine o_land X2 hx (pc' := 13) (hb hby d18_12) rfl ?_
  rw [show ((8 : Int64) &&& (8 : Int64)) = (8 : Int64) from by decide +kernel]
  refine o_callSP X2 hx hZ [(.long (8 : Int64))] (rmP13_8 l Z a0 hw h0 n0 Z0) hown (hw _ (List.mem_of_getElem? (i := 129) rfl)) (hw _ (List.mem_of_getElem? (i := 99) rfl)) (hw _ (List.mem_of_getElem? (i := 53) rfl)) (hw _ (List.mem_of_getElem? (i := 100) rfl)) (by decide) pd_1 e2 (by rw [hml]; rfl) rfl rfl rfl (hb hby d18_13) (pc' := 16) rfl 0 (Nat.le_of_eq rfl) (by decide) (by decide) rfl rfl (by decide) (by decide) ?_
  intro T3 X3 e3
  show Dn p e below _ (T3.setTop (mkF m 16 #[.val (.ref a1), .val (.int (0 : Int32))] [(.int (3 : Int32))]))
  exact finI X3 hx hlk hret (hb hby d18_16) (by decide) (by decide) ⟨rfl, rfl, e3⟩
theorem ef_15_a1_3 (m : MethodId) (a1 : Addr) : entryFrame m #[(.ref a1), (.int (3 : Int32))] 5 = mkF m 0 #[.val (.ref a1), .val (.int (3 : Int32)), .unset, .unset, .unset] [] := by first | (simp [entryFrame, mkF, argsToLocals, Value.category]; done) | rfl
set_option maxRecDepth 65536 in
set_option maxHeartbeats 40000000 in
theorem rmKO3 (l : Launch) (Z : State) (a0 : Array Value) (hw : ∀ d ∈ tables_1, d.before a0 Z = true) (h0 : Heap) (n0 : Nat) (Z0 : n0 ≤ h0.size) (a1 : Addr) (t : Nat) (hP : Pos Z h0 t a1 8) : Ctr l Z (⟨"com/example/jadoube/jadoube/Position", "kindOn", "(I)I"⟩ : MethodName) prog_31_method_19_code 5 (some .int) [] ({ frames := 0, cells := 0, slots := 0, locals := 0 } : Room) #[(.ref a1), (.int (3 : Int32))] h0 (Pure (.int 5) h0) := by
  refine ctr_mk pn_15 (own := "com/example/jadoube/jadoube/Position") (mn := "kindOn") rfl rfl ?_
  intro p e s m below meth c T0 X0 hx hby hml hZ hown hnm hret hlk e0
  refine o_entry (ef_15_a1_3 m a1) ?_
  have hPo := hP
  obtain ⟨bp, bc, kp, kc, lt_a, lt_bp, lt_bc, pE, pPi, pCo, pSi, pCa, pEn, pC9, pV1, pV2⟩ := hPo
  refine o_lconst X0 hx (pc' := 1) (v := (1 : Int64)) (hb hby d15_0) rfl rfl ?_
  refine o_iloadN X0 hx (pc' := 2) (hb hby d15_1) rfl rfl ?_
  refine o_lshl X0 hx (pc' := 3) (hb hby d15_2) rfl ?_
  rw [show ((1 : Int64) <<< ((3 : Int32) &&& 0x3f).toInt64) = (8 : Int64) from by decide +kernel]
  refine o_lstoreN X0 hx (pc' := 4) (Ls' := #[.val (.ref a1), .val (.int (3 : Int32)), .val (.long (8 : Int64)), .second, .unset]) (hb hby d15_3) rfl rfl ?_
  refine o_iconst X0 hx (pc' := 5) (v := (0 : Int32)) (hb hby d15_4) rfl rfl ?_
  refine o_istore X0 hx (pc' := 7) (Ls' := #[.val (.ref a1), .val (.int (3 : Int32)), .val (.long (8 : Int64)), .second, .val (.int (0 : Int32))]) (hb hby d15_5) rfl rfl ?_
  refine o_iload X0 hx (pc' := 9) (hb hby d15_7) rfl rfl ?_
  refine o_iconst X0 hx (pc' := 10) (v := (5 : Int32)) (hb hby d15_9) rfl rfl ?_
  refine o_icmp_gt X0 hx (pc' := 13) (pt := 36) (hb hby d15_10) rfl (by decide) (by decide) (fun q => absurd q (by decide)) (fun _ => ?_)
  refine o_aloadN X0 hx (pc' := 14) (hb hby d15_13) rfl rfl rfl ?_
  refine o_getfield X0 hx hZ hown (hw _ (List.mem_of_getElem? (i := 14) rfl)) e0 pPi (hb hby d15_14) (pc' := 17) rfl ?_
  intro T1 X1 e1
  refine o_iload X1 hx (pc' := 19) (hb hby d15_17) rfl rfl ?_
  refine o_laload X1 hx hZ e1 pV1 (by decide) (v := (.long (0 : Int64))) rfl (hb hby d15_19) (pc' := 20) rfl ?_
  refine o_lloadN X1 hx (pc' := 21) (hb hby d15_20) rfl rfl ?_
  refine o_land X1 hx (pc' := 22) (hb hby d15_21) rfl ?_
  rw [show ((0 : Int64) &&& (8 : Int64)) = (0 : Int64) from by decide +kernel]
  refine o_lconst X1 hx (pc' := 23) (v := (0 : Int64)) (hb hby d15_22) rfl rfl ?_
  refine o_lcmp X1 hx (pc' := 24) (hb hby d15_23) rfl ?_
  refine o_lif_eq X1 hx (pc' := 27) (pt := 30) (hb hby d15_24) rfl (by decide) (by decide) (fun _ => ?_) (fun q => absurd (by decide) q)
  refine o_iinc X1 hx (pc' := 33) (Ls' := #[.val (.ref a1), .val (.int (3 : Int32)), .val (.long (8 : Int64)), .second, .val (.int (1 : Int32))]) (v := (1 : Int32)) (hb hby d15_30) rfl rfl rfl rfl ?_
  refine o_goto X1 hx (pc' := 7) (hb hby d15_33) (by decide) (by decide) ?_
  refine o_iload X1 hx (pc' := 9) (hb hby d15_7) rfl rfl ?_
  refine o_iconst X1 hx (pc' := 10) (v := (5 : Int32)) (hb hby d15_9) rfl rfl ?_
  refine o_icmp_gt X1 hx (pc' := 13) (pt := 36) (hb hby d15_10) rfl (by decide) (by decide) (fun q => absurd q (by decide)) (fun _ => ?_)
  refine o_aloadN X1 hx (pc' := 14) (hb hby d15_13) rfl rfl rfl ?_
  refine o_getfield X1 hx hZ hown (hw _ (List.mem_of_getElem? (i := 14) rfl)) e1 pPi (hb hby d15_14) (pc' := 17) rfl ?_
  intro T2 X2 e2
  refine o_iload X2 hx (pc' := 19) (hb hby d15_17) rfl rfl ?_
  refine o_laload X2 hx hZ e2 pV1 (by decide) (v := (.long (0 : Int64))) rfl (hb hby d15_19) (pc' := 20) rfl ?_
  refine o_lloadN X2 hx (pc' := 21) (hb hby d15_20) rfl rfl ?_
  refine o_land X2 hx (pc' := 22) (hb hby d15_21) rfl ?_
  rw [show ((0 : Int64) &&& (8 : Int64)) = (0 : Int64) from by decide +kernel]
  refine o_lconst X2 hx (pc' := 23) (v := (0 : Int64)) (hb hby d15_22) rfl rfl ?_
  refine o_lcmp X2 hx (pc' := 24) (hb hby d15_23) rfl ?_
  refine o_lif_eq X2 hx (pc' := 27) (pt := 30) (hb hby d15_24) rfl (by decide) (by decide) (fun _ => ?_) (fun q => absurd (by decide) q)
  refine o_iinc X2 hx (pc' := 33) (Ls' := #[.val (.ref a1), .val (.int (3 : Int32)), .val (.long (8 : Int64)), .second, .val (.int (2 : Int32))]) (v := (1 : Int32)) (hb hby d15_30) rfl rfl rfl rfl ?_
  refine o_goto X2 hx (pc' := 7) (hb hby d15_33) (by decide) (by decide) ?_
  refine o_iload X2 hx (pc' := 9) (hb hby d15_7) rfl rfl ?_
  refine o_iconst X2 hx (pc' := 10) (v := (5 : Int32)) (hb hby d15_9) rfl rfl ?_
  refine o_icmp_gt X2 hx (pc' := 13) (pt := 36) (hb hby d15_10) rfl (by decide) (by decide) (fun q => absurd q (by decide)) (fun _ => ?_)
  refine o_aloadN X2 hx (pc' := 14) (hb hby d15_13) rfl rfl rfl ?_
  refine o_getfield X2 hx hZ hown (hw _ (List.mem_of_getElem? (i := 14) rfl)) e2 pPi (hb hby d15_14) (pc' := 17) rfl ?_
  intro T3 X3 e3
  refine o_iload X3 hx (pc' := 19) (hb hby d15_17) rfl rfl ?_
  refine o_laload X3 hx hZ e3 pV1 (by decide) (v := (.long (0 : Int64))) rfl (hb hby d15_19) (pc' := 20) rfl ?_
  refine o_lloadN X3 hx (pc' := 21) (hb hby d15_20) rfl rfl ?_
  refine o_land X3 hx (pc' := 22) (hb hby d15_21) rfl ?_
  rw [show ((0 : Int64) &&& (8 : Int64)) = (0 : Int64) from by decide +kernel]
  refine o_lconst X3 hx (pc' := 23) (v := (0 : Int64)) (hb hby d15_22) rfl rfl ?_
  refine o_lcmp X3 hx (pc' := 24) (hb hby d15_23) rfl ?_
  refine o_lif_eq X3 hx (pc' := 27) (pt := 30) (hb hby d15_24) rfl (by decide) (by decide) (fun _ => ?_) (fun q => absurd (by decide) q)
  refine o_iinc X3 hx (pc' := 33) (Ls' := #[.val (.ref a1), .val (.int (3 : Int32)), .val (.long (8 : Int64)), .second, .val (.int (3 : Int32))]) (v := (1 : Int32)) (hb hby d15_30) rfl rfl rfl rfl ?_
  refine o_goto X3 hx (pc' := 7) (hb hby d15_33) (by decide) (by decide) ?_
  refine o_iload X3 hx (pc' := 9) (hb hby d15_7) rfl rfl ?_
  refine o_iconst X3 hx (pc' := 10) (v := (5 : Int32)) (hb hby d15_9) rfl rfl ?_
  refine o_icmp_gt X3 hx (pc' := 13) (pt := 36) (hb hby d15_10) rfl (by decide) (by decide) (fun q => absurd q (by decide)) (fun _ => ?_)
  refine o_aloadN X3 hx (pc' := 14) (hb hby d15_13) rfl rfl rfl ?_
  refine o_getfield X3 hx hZ hown (hw _ (List.mem_of_getElem? (i := 14) rfl)) e3 pPi (hb hby d15_14) (pc' := 17) rfl ?_
  intro T4 X4 e4
  refine o_iload X4 hx (pc' := 19) (hb hby d15_17) rfl rfl ?_
  refine o_laload X4 hx hZ e4 pV1 (by decide) (v := (.long (0 : Int64))) rfl (hb hby d15_19) (pc' := 20) rfl ?_
  refine o_lloadN X4 hx (pc' := 21) (hb hby d15_20) rfl rfl ?_
  refine o_land X4 hx (pc' := 22) (hb hby d15_21) rfl ?_
  rw [show ((0 : Int64) &&& (8 : Int64)) = (0 : Int64) from by decide +kernel]
  refine o_lconst X4 hx (pc' := 23) (v := (0 : Int64)) (hb hby d15_22) rfl rfl ?_
  refine o_lcmp X4 hx (pc' := 24) (hb hby d15_23) rfl ?_
  refine o_lif_eq X4 hx (pc' := 27) (pt := 30) (hb hby d15_24) rfl (by decide) (by decide) (fun _ => ?_) (fun q => absurd (by decide) q)
  refine o_iinc X4 hx (pc' := 33) (Ls' := #[.val (.ref a1), .val (.int (3 : Int32)), .val (.long (8 : Int64)), .second, .val (.int (4 : Int32))]) (v := (1 : Int32)) (hb hby d15_30) rfl rfl rfl rfl ?_
  refine o_goto X4 hx (pc' := 7) (hb hby d15_33) (by decide) (by decide) ?_
  refine o_iload X4 hx (pc' := 9) (hb hby d15_7) rfl rfl ?_
  refine o_iconst X4 hx (pc' := 10) (v := (5 : Int32)) (hb hby d15_9) rfl rfl ?_
  refine o_icmp_gt X4 hx (pc' := 13) (pt := 36) (hb hby d15_10) rfl (by decide) (by decide) (fun q => absurd q (by decide)) (fun _ => ?_)
  refine o_aloadN X4 hx (pc' := 14) (hb hby d15_13) rfl rfl rfl ?_
  refine o_getfield X4 hx hZ hown (hw _ (List.mem_of_getElem? (i := 14) rfl)) e4 pPi (hb hby d15_14) (pc' := 17) rfl ?_
  intro T5 X5 e5
  refine o_iload X5 hx (pc' := 19) (hb hby d15_17) rfl rfl ?_
  refine o_laload X5 hx hZ e5 pV1 (by decide) (v := (.long (0 : Int64))) rfl (hb hby d15_19) (pc' := 20) rfl ?_
  refine o_lloadN X5 hx (pc' := 21) (hb hby d15_20) rfl rfl ?_
  refine o_land X5 hx (pc' := 22) (hb hby d15_21) rfl ?_
  rw [show ((0 : Int64) &&& (8 : Int64)) = (0 : Int64) from by decide +kernel]
  refine o_lconst X5 hx (pc' := 23) (v := (0 : Int64)) (hb hby d15_22) rfl rfl ?_
  refine o_lcmp X5 hx (pc' := 24) (hb hby d15_23) rfl ?_
  refine o_lif_eq X5 hx (pc' := 27) (pt := 30) (hb hby d15_24) rfl (by decide) (by decide) (fun _ => ?_) (fun q => absurd (by decide) q)
  refine o_iinc X5 hx (pc' := 33) (Ls' := #[.val (.ref a1), .val (.int (3 : Int32)), .val (.long (8 : Int64)), .second, .val (.int (5 : Int32))]) (v := (1 : Int32)) (hb hby d15_30) rfl rfl rfl rfl ?_
  refine o_goto X5 hx (pc' := 7) (hb hby d15_33) (by decide) (by decide) ?_
  refine o_iload X5 hx (pc' := 9) (hb hby d15_7) rfl rfl ?_
  refine o_iconst X5 hx (pc' := 10) (v := (5 : Int32)) (hb hby d15_9) rfl rfl ?_
  refine o_icmp_gt X5 hx (pc' := 13) (pt := 36) (hb hby d15_10) rfl (by decide) (by decide) (fun q => absurd q (by decide)) (fun _ => ?_)
  refine o_aloadN X5 hx (pc' := 14) (hb hby d15_13) rfl rfl rfl ?_
  refine o_getfield X5 hx hZ hown (hw _ (List.mem_of_getElem? (i := 14) rfl)) e5 pPi (hb hby d15_14) (pc' := 17) rfl ?_
  intro T6 X6 e6
  refine o_iload X6 hx (pc' := 19) (hb hby d15_17) rfl rfl ?_
  refine o_laload X6 hx hZ e6 pV1 (by decide) (v := (.long (8 : Int64))) rfl (hb hby d15_19) (pc' := 20) rfl ?_
  refine o_lloadN X6 hx (pc' := 21) (hb hby d15_20) rfl rfl ?_
  refine o_land X6 hx (pc' := 22) (hb hby d15_21) rfl ?_
  rw [show ((8 : Int64) &&& (8 : Int64)) = (8 : Int64) from by decide +kernel]
  refine o_lconst X6 hx (pc' := 23) (v := (0 : Int64)) (hb hby d15_22) rfl rfl ?_
  refine o_lcmp X6 hx (pc' := 24) (hb hby d15_23) rfl ?_
  refine o_lif_eq X6 hx (pc' := 27) (pt := 30) (hb hby d15_24) rfl (by decide) (by decide) (fun q => absurd q (by decide)) (fun _ => ?_)
  refine o_iload X6 hx (pc' := 29) (hb hby d15_27) rfl rfl ?_
  exact finI X6 hx hlk hret (hb hby d15_29) (by decide) (by decide) ⟨rfl, rfl, e6⟩
theorem pd_2 : parseMethodDescriptor "()I" = some ⟨[], some .int⟩ := by decide +kernel
theorem d19_0 : decode prog_22_method_14_code 0 = .ok (.aload_n 1, 1) := by decide +kernel
theorem d19_1 : decode prog_22_method_14_code 1 = .ok (.invokevirtual 150, 3) := by decide +kernel
theorem d19_4 : decode prog_22_method_14_code 4 = .ok (.istore 6, 2) := by decide +kernel
theorem d19_6 : decode prog_22_method_14_code 6 = .ok (.iload 6, 2) := by decide +kernel
theorem d19_8 : decode prog_22_method_14_code 8 = .ok (.iconst (-1), 1) := by decide +kernel
theorem d19_9 : decode prog_22_method_14_code 9 = .ok (.if_icmp .ne 4, 3) := by decide +kernel
theorem d19_12 : decode prog_22_method_14_code 12 = .ok (.return_, 1) := by decide +kernel
theorem pn_19 : plainFor (⟨"com/example/jadoube/jadoube/MoveGenerator", "addEnPassant", "(Lcom/example/jadoube/jadoube/Position;IIJ)V"⟩ : MethodName) = true := plainFor_of_name (by show plainName "com/example/jadoube/jadoube/MoveGenerator" = true; first | (simp [plainName, overriddenIn]; done) | decide +kernel)
theorem ef_19 (m : MethodId) (a1 : Addr) (a2 : Addr) (p3 : Int32) (p4 : Int32) (q5 : Int64) : entryFrame m #[(.ref a1), (.ref a2), (.int p3), (.int p4), (.long q5)] 14 = mkF m 0 #[.val (.ref a1), .val (.ref a2), .val (.int p3), .val (.int p4), .val (.long q5), .second, .unset, .unset, .unset, .unset, .unset, .unset, .unset, .unset] [] := by first | (simp [entryFrame, mkF, argsToLocals, Value.category]; done) | rfl
set_option maxRecDepth 65536 in
set_option maxHeartbeats 40000000 in
theorem rm19 (l : Launch) (Z : State) (a0 : Array Value) (hw : ∀ d ∈ tables_1, d.before a0 Z = true) (h0 : Heap) (n0 : Nat) (Z0 : n0 ≤ h0.size) (a1 : Addr) (a2 : Addr) (p3 : Int32) (p4 : Int32) (q5 : Int64) (t : Nat) (B : Int64) (hP : Pos Z h0 t a2 B) : Ctr l Z (⟨"com/example/jadoube/jadoube/MoveGenerator", "addEnPassant", "(Lcom/example/jadoube/jadoube/Position;IIJ)V"⟩ : MethodName) prog_22_method_14_code 14 none [] ({ frames := 1, cells := 0, slots := 0, locals := 12 } : Room) #[(.ref a1), (.ref a2), (.int p3), (.int p4), (.long q5)] h0 (fun v h L => v = none ∧ L = [] ∧ h = h0) := by
  refine ctr_mk pn_19 (own := "com/example/jadoube/jadoube/MoveGenerator") (mn := "addEnPassant") rfl rfl ?_
  intro p e s m below meth c T0 X0 hx hby hml hZ hown hnm hret hlk e0
  refine o_entry (ef_19 m a1 a2 p3 p4 q5) ?_
  have hPo := hP
  obtain ⟨bp, bc, kp, kc, lt_a, lt_bp, lt_bc, pE, pPi, pCo, pSi, pCa, pEn, pC9, pV1, pV2⟩ := hPo
  refine o_aloadN X0 hx (pc' := 1) (hb hby d19_0) rfl rfl rfl ?_
  refine o_callVP X0 hx hZ a2 [] (rm20 l Z a0 hw h0 n0 Z0 a2 pEn) hown (hw _ (List.mem_of_getElem? (i := 135) rfl)) (hw _ (List.mem_of_getElem? (i := 136) rfl)) (hw _ (List.mem_of_getElem? (i := 138) rfl)) (hw _ (List.mem_of_getElem? (i := 137) rfl)) (hw _ (List.mem_of_getElem? (i := 7) rfl)) (hw _ (List.mem_of_getElem? (i := 139) rfl)) (by decide) pE pd_2 e0 (by rw [hml]; rfl) rfl rfl rfl (hb hby d19_1) (pc' := 4) rfl 0 (Nat.le_of_eq rfl) (by decide) (by decide) rfl rfl (by decide) (by decide) ?_
  intro T1 X1 e1
  show Dn p e below _ (T1.setTop (mkF m 4 #[.val (.ref a1), .val (.ref a2), .val (.int p3), .val (.int p4), .val (.long q5), .second, .unset, .unset, .unset, .unset, .unset, .unset, .unset, .unset] [(.int (-1 : Int32))]))
  refine o_istore X1 hx (pc' := 6) (Ls' := #[.val (.ref a1), .val (.ref a2), .val (.int p3), .val (.int p4), .val (.long q5), .second, .val (.int (-1 : Int32)), .unset, .unset, .unset, .unset, .unset, .unset, .unset]) (hb hby d19_4) rfl rfl ?_
  refine o_iload X1 hx (pc' := 8) (hb hby d19_6) rfl rfl ?_
  refine o_iconst X1 hx (pc' := 9) (v := (-1 : Int32)) (hb hby d19_8) rfl rfl ?_
  refine o_icmp_ne X1 hx (pc' := 12) (pt := 13) (hb hby d19_9) rfl (by decide) (by decide) (fun q => absurd (by decide) q) (fun _ => ?_)
  exact finV X1 hx hlk hret (hb hby d19_12) (by decide) (by decide) ⟨rfl, rfl, e1⟩
theorem pd_3 : parseMethodDescriptor "(I)J" = some ⟨[.int], some .long⟩ := by decide +kernel
theorem pd_4 : parseMethodDescriptor "(Lcom/example/jadoube/jadoube/Position;IIJ)V" = some ⟨[(.object "com/example/jadoube/jadoube/Position"), .int, .int, .long], none⟩ := by decide +kernel
theorem d16_0 : decode prog_22_method_4_code 0 = .ok (.aload_n 1, 1) := by decide +kernel
theorem d16_1 : decode prog_22_method_4_code 1 = .ok (.invokevirtual 23, 3) := by decide +kernel
theorem d16_4 : decode prog_22_method_4_code 4 = .ok (.istore_n 2, 1) := by decide +kernel
theorem d16_5 : decode prog_22_method_4_code 5 = .ok (.aload_n 0, 1) := by decide +kernel
theorem d16_6 : decode prog_22_method_4_code 6 = .ok (.aconst_null, 1) := by decide +kernel
theorem d16_7 : decode prog_22_method_4_code 7 = .ok (.putfield 9, 3) := by decide +kernel
theorem d16_10 : decode prog_22_method_4_code 10 = .ok (.aload_n 0, 1) := by decide +kernel
theorem d16_11 : decode prog_22_method_4_code 11 = .ok (.iconst 0, 1) := by decide +kernel
theorem d16_12 : decode prog_22_method_4_code 12 = .ok (.putfield 15, 3) := by decide +kernel
theorem d16_15 : decode prog_22_method_4_code 15 = .ok (.aload_n 0, 1) := by decide +kernel
theorem d16_16 : decode prog_22_method_4_code 16 = .ok (.aload_n 1, 1) := by decide +kernel
theorem d16_17 : decode prog_22_method_4_code 17 = .ok (.iload_n 2, 1) := by decide +kernel
theorem d16_18 : decode prog_22_method_4_code 18 = .ok (.aload_n 1, 1) := by decide +kernel
theorem d16_19 : decode prog_22_method_4_code 19 = .ok (.iload_n 2, 1) := by decide +kernel
theorem d16_20 : decode prog_22_method_4_code 20 = .ok (.invokevirtual 27, 3) := by decide +kernel
theorem d16_23 : decode prog_22_method_4_code 23 = .ok (.aload_n 1, 1) := by decide +kernel
theorem d16_24 : decode prog_22_method_4_code 24 = .ok (.iload_n 2, 1) := by decide +kernel
theorem d16_25 : decode prog_22_method_4_code 25 = .ok (.invokevirtual 31, 3) := by decide +kernel
theorem d16_28 : decode prog_22_method_4_code 28 = .ok (.aload_n 1, 1) := by decide +kernel
theorem d16_29 : decode prog_22_method_4_code 29 = .ok (.iload_n 2, 1) := by decide +kernel
theorem d16_30 : decode prog_22_method_4_code 30 = .ok (.iconst 1, 1) := by decide +kernel
theorem d16_31 : decode prog_22_method_4_code 31 = .ok (.ixor, 1) := by decide +kernel
theorem d16_32 : decode prog_22_method_4_code 32 = .ok (.invokevirtual 31, 3) := by decide +kernel
theorem d16_35 : decode prog_22_method_4_code 35 = .ok (.lor, 1) := by decide +kernel
theorem d16_36 : decode prog_22_method_4_code 36 = .ok (.invokevirtual 35, 3) := by decide +kernel
theorem d16_39 : decode prog_22_method_4_code 39 = .ok (.aload_n 0, 1) := by decide +kernel
theorem d16_40 : decode prog_22_method_4_code 40 = .ok (.getfield 15, 3) := by decide +kernel
theorem d16_43 : decode prog_22_method_4_code 43 = .ok (.ifCond .le 7, 3) := by decide +kernel
theorem d16_50 : decode prog_22_method_4_code 50 = .ok (.iconst 0, 1) := by decide +kernel
theorem d16_51 : decode prog_22_method_4_code 51 = .ok (.ireturn, 1) := by decide +kernel
theorem pn_16 : plainFor (⟨"com/example/jadoube/jadoube/MoveGenerator", "canCaptureEnPassant", "(Lcom/example/jadoube/jadoube/Position;)Z"⟩ : MethodName) = true := plainFor_of_name (by show plainName "com/example/jadoube/jadoube/MoveGenerator" = true; first | (simp [plainName, overriddenIn]; done) | decide +kernel)
theorem ef_16 (m : MethodId) (a1 : Addr) (a2 : Addr) : entryFrame m #[(.ref a1), (.ref a2)] 3 = mkF m 0 #[.val (.ref a1), .val (.ref a2), .unset] [] := by first | (simp [entryFrame, mkF, argsToLocals, Value.category]; done) | rfl
set_option maxRecDepth 65536 in
set_option maxHeartbeats 40000000 in
theorem rmCC0 (l : Launch) (Z : State) (a0 : Array Value) (hw : ∀ d ∈ tables_1, d.before a0 Z = true) (h0 : Heap) (n0 : Nat) (Z0 : n0 ≤ h0.size) (a1 : Addr) (a2 : Addr) (t : Nat) (u : Value) (w : Int32) (hP : Pos Z h0 t a2 1) (hE : Exa Z h0 a1 "com/example/jadoube/jadoube/MoveGenerator") (hM : Fld Z h0 a1 "com/example/jadoube/jadoube/MoveGenerator" "moves" "[I" u) (hS : Fld Z h0 a1 "com/example/jadoube/jadoube/MoveGenerator" "size" "I" (.int w)) (ta : t ≤ a1) (ga : n0 ≤ a1) : Ctr l Z (⟨"com/example/jadoube/jadoube/MoveGenerator", "canCaptureEnPassant", "(Lcom/example/jadoube/jadoube/Position;)Z"⟩ : MethodName) prog_22_method_4_code 3 (some .boolean) [] ({ frames := 3, cells := 0, slots := 0, locals := 43 } : Room) #[(.ref a1), (.ref a2)] h0 (fun v h L => v = some (.int 0) ∧ Fr n0 L ∧ Keep h0 h [a1] ∧ Fld Z h a1 "com/example/jadoube/jadoube/MoveGenerator" "moves" "[I" .null ∧ Fld Z h a1 "com/example/jadoube/jadoube/MoveGenerator" "size" "I" (.int 0)) := by
  refine ctr_mk pn_16 (own := "com/example/jadoube/jadoube/MoveGenerator") (mn := "canCaptureEnPassant") rfl rfl ?_
  intro p e s m below meth c T0 X0 hx hby hml hZ hown hnm hret hlk e0
  refine o_entry (ef_16 m a1 a2) ?_
  have g_a1 := ga
  have NN := Fr.nil n0
  have ZZ := Z0
  have KK := Keep.refl h0 [a1]
  have hPo := hP
  obtain ⟨bp, bc, kp, kc, lt_a, lt_bp, lt_bc, pE, pPi, pCo, pSi, pCa, pEn, pC9, pV1, pV2⟩ := hPo
  refine o_aloadN X0 hx (pc' := 1) (hb hby d16_0) rfl rfl rfl ?_
  refine o_callVP X0 hx hZ a2 [] (rm17 l Z a0 hw h0 n0 ZZ a2 pSi) hown (hw _ (List.mem_of_getElem? (i := 115) rfl)) (hw _ (List.mem_of_getElem? (i := 116) rfl)) (hw _ (List.mem_of_getElem? (i := 118) rfl)) (hw _ (List.mem_of_getElem? (i := 117) rfl)) (hw _ (List.mem_of_getElem? (i := 7) rfl)) (hw _ (List.mem_of_getElem? (i := 119) rfl)) (by decide) pE pd_2 e0 (by rw [hml]; rfl) rfl rfl rfl (hb hby d16_1) (pc' := 4) rfl 0 (Nat.le_of_eq rfl) (by decide) (by decide) rfl rfl (by decide) (by decide) ?_
  intro T1 X1 e1
  show Dn p e below _ (T1.setTop (mkF m 4 #[.val (.ref a1), .val (.ref a2), .unset] [(.int (0 : Int32))]))
  refine o_istoreN X1 hx (pc' := 5) (Ls' := #[.val (.ref a1), .val (.ref a2), .val (.int (0 : Int32))]) (hb hby d16_4) rfl rfl ?_
  refine o_aloadN X1 hx (pc' := 6) (hb hby d16_5) rfl rfl rfl ?_
  refine o_aconstNull X1 hx (pc' := 7) (hb hby d16_6) rfl ?_
  refine o_putfield X1 hx hZ hown (hw _ (List.mem_of_getElem? (i := 120) rfl)) e1 hM hE (Or.inl (hw _ (List.mem_of_getElem? (i := 121) rfl))) (hw _ (List.mem_of_getElem? (i := 38) rfl)) (ty := (.array .int)) (v' := .null) (by decide) rfl rfl (hb hby d16_7) (pc' := 10) rfl ?_
  intro T2 h2 X2 e2 W2 F2 E2
  have NN := Fr.snoc X2 NN g_a1
  have KK := KK.wr W2 (Or.inl (List.mem_of_getElem? (i := 0) rfl))
  have ZZ := Nat.le_trans ZZ (Keep.of_wr W2).1
  have hS := hS.other W2 (Or.inr (slot_ne (Or.inl (hw _ (List.mem_of_getElem? (i := 123) rfl))) (Or.inl (hw _ (List.mem_of_getElem? (i := 121) rfl))) (by decide) (t := .int) (t' := (.array .int)) (by decide) (by decide)))
  have hM := F2
  have hE := E2
  have hP := hP.keep (ws := [a1]) (Keep.of_wr W2) (by intro x hx; simp only [List.mem_cons, List.not_mem_nil, or_false] at hx; subst hx; exact ta)
  refine o_aloadN X2 hx (pc' := 11) (hb hby d16_10) rfl rfl rfl ?_
  refine o_iconst X2 hx (pc' := 12) (v := (0 : Int32)) (hb hby d16_11) rfl rfl ?_
  refine o_putfield X2 hx hZ hown (hw _ (List.mem_of_getElem? (i := 122) rfl)) e2 hS hE (Or.inl (hw _ (List.mem_of_getElem? (i := 123) rfl))) (hw _ (List.mem_of_getElem? (i := 38) rfl)) (ty := .int) (v' := (.int (0 : Int32))) (by decide) rfl rfl (hb hby d16_12) (pc' := 15) rfl ?_
  intro T3 h3 X3 e3 W3 F3 E3
  have NN := Fr.snoc X3 NN g_a1
  have KK := KK.wr W3 (Or.inl (List.mem_of_getElem? (i := 0) rfl))
  have ZZ := Nat.le_trans ZZ (Keep.of_wr W3).1
  have hM := hM.other W3 (Or.inr (slot_ne (Or.inl (hw _ (List.mem_of_getElem? (i := 121) rfl))) (Or.inl (hw _ (List.mem_of_getElem? (i := 123) rfl))) (by decide) (t := (.array .int)) (t' := .int) (by decide) (by decide)))
  have hS := F3
  have hE := E3
  have hP := hP.keep (ws := [a1]) (Keep.of_wr W3) (by intro x hx; simp only [List.mem_cons, List.not_mem_nil, or_false] at hx; subst hx; exact ta)
  have hPo := hP
  obtain ⟨bp, bc, kp, kc, lt_a, lt_bp, lt_bc, pE, pPi, pCo, pSi, pCa, pEn, pC9, pV1, pV2⟩ := hPo
  refine o_aloadN X3 hx (pc' := 16) (hb hby d16_15) rfl rfl rfl ?_
  refine o_aloadN X3 hx (pc' := 17) (hb hby d16_16) rfl rfl rfl ?_
  refine o_iloadN X3 hx (pc' := 18) (hb hby d16_17) rfl rfl ?_
  refine o_aloadN X3 hx (pc' := 19) (hb hby d16_18) rfl rfl rfl ?_
  refine o_iloadN X3 hx (pc' := 20) (hb hby d16_19) rfl rfl ?_
  refine o_callVP X3 hx hZ a2 [(.int (0 : Int32))] (rmKS0 l Z a0 hw h3 n0 ZZ a2 t hP) hown (hw _ (List.mem_of_getElem? (i := 124) rfl)) (hw _ (List.mem_of_getElem? (i := 125) rfl)) (hw _ (List.mem_of_getElem? (i := 127) rfl)) (hw _ (List.mem_of_getElem? (i := 126) rfl)) (hw _ (List.mem_of_getElem? (i := 7) rfl)) (hw _ (List.mem_of_getElem? (i := 128) rfl)) (by decide) pE pd_0 e3 (by rw [hml]; rfl) rfl rfl rfl (hb hby d16_20) (pc' := 23) rfl 3 (Nat.le_of_eq rfl) (by decide) (by decide) rfl rfl (by decide) (by decide) ?_
  intro T4 X4 e4
  show Dn p e below _ (T4.setTop (mkF m 23 #[.val (.ref a1), .val (.ref a2), .val (.int (0 : Int32))] [(.int (0 : Int32)), (.int (0 : Int32)), (.ref a2), (.ref a1)]))
  refine o_aloadN X4 hx (pc' := 24) (hb hby d16_23) rfl rfl rfl ?_
  refine o_iloadN X4 hx (pc' := 25) (hb hby d16_24) rfl rfl ?_
  refine o_callVP X4 hx hZ a2 [(.int (0 : Int32))] (rm6 l Z a0 hw h3 n0 ZZ a2 (0 : Int32) bc kc _ (1 : Int64) pCo pV2 (by decide) rfl) hown (hw _ (List.mem_of_getElem? (i := 130) rfl)) (hw _ (List.mem_of_getElem? (i := 47) rfl)) (hw _ (List.mem_of_getElem? (i := 49) rfl)) (hw _ (List.mem_of_getElem? (i := 48) rfl)) (hw _ (List.mem_of_getElem? (i := 7) rfl)) (hw _ (List.mem_of_getElem? (i := 50) rfl)) (by decide) pE pd_3 e4 (by rw [hml]; rfl) rfl rfl rfl (hb hby d16_25) (pc' := 28) rfl 4 (Nat.le_of_eq rfl) (by decide) (by decide) rfl rfl (by decide) (by decide) ?_
  intro T5 X5 e5
  show Dn p e below _ (T5.setTop (mkF m 28 #[.val (.ref a1), .val (.ref a2), .val (.int (0 : Int32))] [(.long (1 : Int64)), (.int (0 : Int32)), (.int (0 : Int32)), (.ref a2), (.ref a1)]))
  refine o_aloadN X5 hx (pc' := 29) (hb hby d16_28) rfl rfl rfl ?_
  refine o_iloadN X5 hx (pc' := 30) (hb hby d16_29) rfl rfl ?_
  refine o_iconst X5 hx (pc' := 31) (v := (1 : Int32)) (hb hby d16_30) rfl rfl ?_
  refine o_ixor X5 hx (pc' := 32) (hb hby d16_31) rfl ?_
  rw [show ((0 : Int32) ^^^ (1 : Int32)) = (1 : Int32) from by decide +kernel]
  refine o_callVP X5 hx hZ a2 [(.int (1 : Int32))] (rm6 l Z a0 hw h3 n0 ZZ a2 (1 : Int32) bc kc _ (0 : Int64) pCo pV2 (by decide) rfl) hown (hw _ (List.mem_of_getElem? (i := 130) rfl)) (hw _ (List.mem_of_getElem? (i := 47) rfl)) (hw _ (List.mem_of_getElem? (i := 49) rfl)) (hw _ (List.mem_of_getElem? (i := 48) rfl)) (hw _ (List.mem_of_getElem? (i := 7) rfl)) (hw _ (List.mem_of_getElem? (i := 50) rfl)) (by decide) pE pd_3 e5 (by rw [hml]; rfl) rfl rfl rfl (hb hby d16_32) (pc' := 35) rfl 6 (Nat.le_of_eq rfl) (by decide) (by decide) rfl rfl (by decide) (by decide) ?_
  intro T6 X6 e6
  show Dn p e below _ (T6.setTop (mkF m 35 #[.val (.ref a1), .val (.ref a2), .val (.int (0 : Int32))] [(.long (0 : Int64)), (.long (1 : Int64)), (.int (0 : Int32)), (.int (0 : Int32)), (.ref a2), (.ref a1)]))
  refine o_lor X6 hx (pc' := 36) (hb hby d16_35) rfl ?_
  rw [show ((1 : Int64) ||| (0 : Int64)) = (1 : Int64) from by decide +kernel]
  refine o_callP X6 hx hZ a1 [(.ref a2), (.int (0 : Int32)), (.int (0 : Int32)), (.long (1 : Int64))] (rm19 l Z a0 hw h3 n0 ZZ a1 a2 (0 : Int32) (0 : Int32) (1 : Int64) t _ hP) hown (hw _ (List.mem_of_getElem? (i := 131) rfl)) (hw _ (List.mem_of_getElem? (i := 38) rfl)) (hw _ (List.mem_of_getElem? (i := 133) rfl)) (hw _ (List.mem_of_getElem? (i := 132) rfl)) (hw _ (List.mem_of_getElem? (i := 39) rfl)) (hw _ (List.mem_of_getElem? (i := 134) rfl)) (by decide) hE pd_4 e6 (by rw [hml]; rfl) rfl rfl rfl (hb hby d16_36) (pc' := 39) rfl 0 (Nat.le_of_eq rfl) (by decide) (by decide) (by decide) (by decide) ?_
  intro T7 v7 L7 X7 hQ7
  obtain ⟨rfl, rfl, hh7⟩ := hQ7
  rw [List.append_nil] at X7
  have e7 := hh7
  show Dn p e below _ (T7.setTop (mkF m 39 #[.val (.ref a1), .val (.ref a2), .val (.int (0 : Int32))] []))
  refine o_aloadN X7 hx (pc' := 40) (hb hby d16_39) rfl rfl rfl ?_
  refine o_getfield X7 hx hZ hown (hw _ (List.mem_of_getElem? (i := 122) rfl)) e7 hS (hb hby d16_40) (pc' := 43) rfl ?_
  intro T8 X8 e8
  refine o_if_le X8 hx (pc' := 46) (pt := 50) (hb hby d16_43) rfl (by decide) (by decide) (fun _ => ?_) (fun q => absurd q (by decide))
  refine o_iconst X8 hx (pc' := 51) (v := (0 : Int32)) (hb hby d16_50) rfl rfl ?_
  exact finN X8 hx hlk (t := .boolean) hret (by simp) (hb hby d16_51) (by decide) (by decide) ⟨rfl, NN, by rw [e8]; exact KK, by rw [e8]; exact hM, by rw [e8]; exact hS⟩
set_option maxRecDepth 65536 in
set_option maxHeartbeats 40000000 in
theorem rmCC1 (l : Launch) (Z : State) (a0 : Array Value) (hw : ∀ d ∈ tables_1, d.before a0 Z = true) (h0 : Heap) (n0 : Nat) (Z0 : n0 ≤ h0.size) (a1 : Addr) (a2 : Addr) (t : Nat) (u : Value) (w : Int32) (hP : Pos Z h0 t a2 2) (hE : Exa Z h0 a1 "com/example/jadoube/jadoube/MoveGenerator") (hM : Fld Z h0 a1 "com/example/jadoube/jadoube/MoveGenerator" "moves" "[I" u) (hS : Fld Z h0 a1 "com/example/jadoube/jadoube/MoveGenerator" "size" "I" (.int w)) (ta : t ≤ a1) (ga : n0 ≤ a1) : Ctr l Z (⟨"com/example/jadoube/jadoube/MoveGenerator", "canCaptureEnPassant", "(Lcom/example/jadoube/jadoube/Position;)Z"⟩ : MethodName) prog_22_method_4_code 3 (some .boolean) [] ({ frames := 3, cells := 0, slots := 0, locals := 43 } : Room) #[(.ref a1), (.ref a2)] h0 (fun v h L => v = some (.int 0) ∧ Fr n0 L ∧ Keep h0 h [a1] ∧ Fld Z h a1 "com/example/jadoube/jadoube/MoveGenerator" "moves" "[I" .null ∧ Fld Z h a1 "com/example/jadoube/jadoube/MoveGenerator" "size" "I" (.int 0)) := by
  refine ctr_mk pn_16 (own := "com/example/jadoube/jadoube/MoveGenerator") (mn := "canCaptureEnPassant") rfl rfl ?_
  intro p e s m below meth c T0 X0 hx hby hml hZ hown hnm hret hlk e0
  refine o_entry (ef_16 m a1 a2) ?_
  have g_a1 := ga
  have NN := Fr.nil n0
  have ZZ := Z0
  have KK := Keep.refl h0 [a1]
  have hPo := hP
  obtain ⟨bp, bc, kp, kc, lt_a, lt_bp, lt_bc, pE, pPi, pCo, pSi, pCa, pEn, pC9, pV1, pV2⟩ := hPo
  refine o_aloadN X0 hx (pc' := 1) (hb hby d16_0) rfl rfl rfl ?_
  refine o_callVP X0 hx hZ a2 [] (rm17 l Z a0 hw h0 n0 ZZ a2 pSi) hown (hw _ (List.mem_of_getElem? (i := 115) rfl)) (hw _ (List.mem_of_getElem? (i := 116) rfl)) (hw _ (List.mem_of_getElem? (i := 118) rfl)) (hw _ (List.mem_of_getElem? (i := 117) rfl)) (hw _ (List.mem_of_getElem? (i := 7) rfl)) (hw _ (List.mem_of_getElem? (i := 119) rfl)) (by decide) pE pd_2 e0 (by rw [hml]; rfl) rfl rfl rfl (hb hby d16_1) (pc' := 4) rfl 0 (Nat.le_of_eq rfl) (by decide) (by decide) rfl rfl (by decide) (by decide) ?_
  intro T1 X1 e1
  show Dn p e below _ (T1.setTop (mkF m 4 #[.val (.ref a1), .val (.ref a2), .unset] [(.int (0 : Int32))]))
  refine o_istoreN X1 hx (pc' := 5) (Ls' := #[.val (.ref a1), .val (.ref a2), .val (.int (0 : Int32))]) (hb hby d16_4) rfl rfl ?_
  refine o_aloadN X1 hx (pc' := 6) (hb hby d16_5) rfl rfl rfl ?_
  refine o_aconstNull X1 hx (pc' := 7) (hb hby d16_6) rfl ?_
  refine o_putfield X1 hx hZ hown (hw _ (List.mem_of_getElem? (i := 120) rfl)) e1 hM hE (Or.inl (hw _ (List.mem_of_getElem? (i := 121) rfl))) (hw _ (List.mem_of_getElem? (i := 38) rfl)) (ty := (.array .int)) (v' := .null) (by decide) rfl rfl (hb hby d16_7) (pc' := 10) rfl ?_
  intro T2 h2 X2 e2 W2 F2 E2
  have NN := Fr.snoc X2 NN g_a1
  have KK := KK.wr W2 (Or.inl (List.mem_of_getElem? (i := 0) rfl))
  have ZZ := Nat.le_trans ZZ (Keep.of_wr W2).1
  have hS := hS.other W2 (Or.inr (slot_ne (Or.inl (hw _ (List.mem_of_getElem? (i := 123) rfl))) (Or.inl (hw _ (List.mem_of_getElem? (i := 121) rfl))) (by decide) (t := .int) (t' := (.array .int)) (by decide) (by decide)))
  have hM := F2
  have hE := E2
  have hP := hP.keep (ws := [a1]) (Keep.of_wr W2) (by intro x hx; simp only [List.mem_cons, List.not_mem_nil, or_false] at hx; subst hx; exact ta)
  refine o_aloadN X2 hx (pc' := 11) (hb hby d16_10) rfl rfl rfl ?_
  refine o_iconst X2 hx (pc' := 12) (v := (0 : Int32)) (hb hby d16_11) rfl rfl ?_
  refine o_putfield X2 hx hZ hown (hw _ (List.mem_of_getElem? (i := 122) rfl)) e2 hS hE (Or.inl (hw _ (List.mem_of_getElem? (i := 123) rfl))) (hw _ (List.mem_of_getElem? (i := 38) rfl)) (ty := .int) (v' := (.int (0 : Int32))) (by decide) rfl rfl (hb hby d16_12) (pc' := 15) rfl ?_
  intro T3 h3 X3 e3 W3 F3 E3
  have NN := Fr.snoc X3 NN g_a1
  have KK := KK.wr W3 (Or.inl (List.mem_of_getElem? (i := 0) rfl))
  have ZZ := Nat.le_trans ZZ (Keep.of_wr W3).1
  have hM := hM.other W3 (Or.inr (slot_ne (Or.inl (hw _ (List.mem_of_getElem? (i := 121) rfl))) (Or.inl (hw _ (List.mem_of_getElem? (i := 123) rfl))) (by decide) (t := (.array .int)) (t' := .int) (by decide) (by decide)))
  have hS := F3
  have hE := E3
  have hP := hP.keep (ws := [a1]) (Keep.of_wr W3) (by intro x hx; simp only [List.mem_cons, List.not_mem_nil, or_false] at hx; subst hx; exact ta)
  have hPo := hP
  obtain ⟨bp, bc, kp, kc, lt_a, lt_bp, lt_bc, pE, pPi, pCo, pSi, pCa, pEn, pC9, pV1, pV2⟩ := hPo
  refine o_aloadN X3 hx (pc' := 16) (hb hby d16_15) rfl rfl rfl ?_
  refine o_aloadN X3 hx (pc' := 17) (hb hby d16_16) rfl rfl rfl ?_
  refine o_iloadN X3 hx (pc' := 18) (hb hby d16_17) rfl rfl ?_
  refine o_aloadN X3 hx (pc' := 19) (hb hby d16_18) rfl rfl rfl ?_
  refine o_iloadN X3 hx (pc' := 20) (hb hby d16_19) rfl rfl ?_
  refine o_callVP X3 hx hZ a2 [(.int (0 : Int32))] (rmKS1 l Z a0 hw h3 n0 ZZ a2 t hP) hown (hw _ (List.mem_of_getElem? (i := 124) rfl)) (hw _ (List.mem_of_getElem? (i := 125) rfl)) (hw _ (List.mem_of_getElem? (i := 127) rfl)) (hw _ (List.mem_of_getElem? (i := 126) rfl)) (hw _ (List.mem_of_getElem? (i := 7) rfl)) (hw _ (List.mem_of_getElem? (i := 128) rfl)) (by decide) pE pd_0 e3 (by rw [hml]; rfl) rfl rfl rfl (hb hby d16_20) (pc' := 23) rfl 3 (Nat.le_of_eq rfl) (by decide) (by decide) rfl rfl (by decide) (by decide) ?_
  intro T4 X4 e4
  show Dn p e below _ (T4.setTop (mkF m 23 #[.val (.ref a1), .val (.ref a2), .val (.int (0 : Int32))] [(.int (1 : Int32)), (.int (0 : Int32)), (.ref a2), (.ref a1)]))
  refine o_aloadN X4 hx (pc' := 24) (hb hby d16_23) rfl rfl rfl ?_
  refine o_iloadN X4 hx (pc' := 25) (hb hby d16_24) rfl rfl ?_
  refine o_callVP X4 hx hZ a2 [(.int (0 : Int32))] (rm6 l Z a0 hw h3 n0 ZZ a2 (0 : Int32) bc kc _ (2 : Int64) pCo pV2 (by decide) rfl) hown (hw _ (List.mem_of_getElem? (i := 130) rfl)) (hw _ (List.mem_of_getElem? (i := 47) rfl)) (hw _ (List.mem_of_getElem? (i := 49) rfl)) (hw _ (List.mem_of_getElem? (i := 48) rfl)) (hw _ (List.mem_of_getElem? (i := 7) rfl)) (hw _ (List.mem_of_getElem? (i := 50) rfl)) (by decide) pE pd_3 e4 (by rw [hml]; rfl) rfl rfl rfl (hb hby d16_25) (pc' := 28) rfl 4 (Nat.le_of_eq rfl) (by decide) (by decide) rfl rfl (by decide) (by decide) ?_
  intro T5 X5 e5
  show Dn p e below _ (T5.setTop (mkF m 28 #[.val (.ref a1), .val (.ref a2), .val (.int (0 : Int32))] [(.long (2 : Int64)), (.int (1 : Int32)), (.int (0 : Int32)), (.ref a2), (.ref a1)]))
  refine o_aloadN X5 hx (pc' := 29) (hb hby d16_28) rfl rfl rfl ?_
  refine o_iloadN X5 hx (pc' := 30) (hb hby d16_29) rfl rfl ?_
  refine o_iconst X5 hx (pc' := 31) (v := (1 : Int32)) (hb hby d16_30) rfl rfl ?_
  refine o_ixor X5 hx (pc' := 32) (hb hby d16_31) rfl ?_
  rw [show ((0 : Int32) ^^^ (1 : Int32)) = (1 : Int32) from by decide +kernel]
  refine o_callVP X5 hx hZ a2 [(.int (1 : Int32))] (rm6 l Z a0 hw h3 n0 ZZ a2 (1 : Int32) bc kc _ (0 : Int64) pCo pV2 (by decide) rfl) hown (hw _ (List.mem_of_getElem? (i := 130) rfl)) (hw _ (List.mem_of_getElem? (i := 47) rfl)) (hw _ (List.mem_of_getElem? (i := 49) rfl)) (hw _ (List.mem_of_getElem? (i := 48) rfl)) (hw _ (List.mem_of_getElem? (i := 7) rfl)) (hw _ (List.mem_of_getElem? (i := 50) rfl)) (by decide) pE pd_3 e5 (by rw [hml]; rfl) rfl rfl rfl (hb hby d16_32) (pc' := 35) rfl 6 (Nat.le_of_eq rfl) (by decide) (by decide) rfl rfl (by decide) (by decide) ?_
  intro T6 X6 e6
  show Dn p e below _ (T6.setTop (mkF m 35 #[.val (.ref a1), .val (.ref a2), .val (.int (0 : Int32))] [(.long (0 : Int64)), (.long (2 : Int64)), (.int (1 : Int32)), (.int (0 : Int32)), (.ref a2), (.ref a1)]))
  refine o_lor X6 hx (pc' := 36) (hb hby d16_35) rfl ?_
  rw [show ((2 : Int64) ||| (0 : Int64)) = (2 : Int64) from by decide +kernel]
  refine o_callP X6 hx hZ a1 [(.ref a2), (.int (0 : Int32)), (.int (1 : Int32)), (.long (2 : Int64))] (rm19 l Z a0 hw h3 n0 ZZ a1 a2 (0 : Int32) (1 : Int32) (2 : Int64) t _ hP) hown (hw _ (List.mem_of_getElem? (i := 131) rfl)) (hw _ (List.mem_of_getElem? (i := 38) rfl)) (hw _ (List.mem_of_getElem? (i := 133) rfl)) (hw _ (List.mem_of_getElem? (i := 132) rfl)) (hw _ (List.mem_of_getElem? (i := 39) rfl)) (hw _ (List.mem_of_getElem? (i := 134) rfl)) (by decide) hE pd_4 e6 (by rw [hml]; rfl) rfl rfl rfl (hb hby d16_36) (pc' := 39) rfl 0 (Nat.le_of_eq rfl) (by decide) (by decide) (by decide) (by decide) ?_
  intro T7 v7 L7 X7 hQ7
  obtain ⟨rfl, rfl, hh7⟩ := hQ7
  rw [List.append_nil] at X7
  have e7 := hh7
  show Dn p e below _ (T7.setTop (mkF m 39 #[.val (.ref a1), .val (.ref a2), .val (.int (0 : Int32))] []))
  refine o_aloadN X7 hx (pc' := 40) (hb hby d16_39) rfl rfl rfl ?_
  refine o_getfield X7 hx hZ hown (hw _ (List.mem_of_getElem? (i := 122) rfl)) e7 hS (hb hby d16_40) (pc' := 43) rfl ?_
  intro T8 X8 e8
  refine o_if_le X8 hx (pc' := 46) (pt := 50) (hb hby d16_43) rfl (by decide) (by decide) (fun _ => ?_) (fun q => absurd q (by decide))
  refine o_iconst X8 hx (pc' := 51) (v := (0 : Int32)) (hb hby d16_50) rfl rfl ?_
  exact finN X8 hx hlk (t := .boolean) hret (by simp) (hb hby d16_51) (by decide) (by decide) ⟨rfl, NN, by rw [e8]; exact KK, by rw [e8]; exact hM, by rw [e8]; exact hS⟩
set_option maxRecDepth 65536 in
set_option maxHeartbeats 40000000 in
theorem rmCC2 (l : Launch) (Z : State) (a0 : Array Value) (hw : ∀ d ∈ tables_1, d.before a0 Z = true) (h0 : Heap) (n0 : Nat) (Z0 : n0 ≤ h0.size) (a1 : Addr) (a2 : Addr) (t : Nat) (u : Value) (w : Int32) (hP : Pos Z h0 t a2 4) (hE : Exa Z h0 a1 "com/example/jadoube/jadoube/MoveGenerator") (hM : Fld Z h0 a1 "com/example/jadoube/jadoube/MoveGenerator" "moves" "[I" u) (hS : Fld Z h0 a1 "com/example/jadoube/jadoube/MoveGenerator" "size" "I" (.int w)) (ta : t ≤ a1) (ga : n0 ≤ a1) : Ctr l Z (⟨"com/example/jadoube/jadoube/MoveGenerator", "canCaptureEnPassant", "(Lcom/example/jadoube/jadoube/Position;)Z"⟩ : MethodName) prog_22_method_4_code 3 (some .boolean) [] ({ frames := 3, cells := 0, slots := 0, locals := 43 } : Room) #[(.ref a1), (.ref a2)] h0 (fun v h L => v = some (.int 0) ∧ Fr n0 L ∧ Keep h0 h [a1] ∧ Fld Z h a1 "com/example/jadoube/jadoube/MoveGenerator" "moves" "[I" .null ∧ Fld Z h a1 "com/example/jadoube/jadoube/MoveGenerator" "size" "I" (.int 0)) := by
  refine ctr_mk pn_16 (own := "com/example/jadoube/jadoube/MoveGenerator") (mn := "canCaptureEnPassant") rfl rfl ?_
  intro p e s m below meth c T0 X0 hx hby hml hZ hown hnm hret hlk e0
  refine o_entry (ef_16 m a1 a2) ?_
  have g_a1 := ga
  have NN := Fr.nil n0
  have ZZ := Z0
  have KK := Keep.refl h0 [a1]
  have hPo := hP
  obtain ⟨bp, bc, kp, kc, lt_a, lt_bp, lt_bc, pE, pPi, pCo, pSi, pCa, pEn, pC9, pV1, pV2⟩ := hPo
  refine o_aloadN X0 hx (pc' := 1) (hb hby d16_0) rfl rfl rfl ?_
  refine o_callVP X0 hx hZ a2 [] (rm17 l Z a0 hw h0 n0 ZZ a2 pSi) hown (hw _ (List.mem_of_getElem? (i := 115) rfl)) (hw _ (List.mem_of_getElem? (i := 116) rfl)) (hw _ (List.mem_of_getElem? (i := 118) rfl)) (hw _ (List.mem_of_getElem? (i := 117) rfl)) (hw _ (List.mem_of_getElem? (i := 7) rfl)) (hw _ (List.mem_of_getElem? (i := 119) rfl)) (by decide) pE pd_2 e0 (by rw [hml]; rfl) rfl rfl rfl (hb hby d16_1) (pc' := 4) rfl 0 (Nat.le_of_eq rfl) (by decide) (by decide) rfl rfl (by decide) (by decide) ?_
  intro T1 X1 e1
  show Dn p e below _ (T1.setTop (mkF m 4 #[.val (.ref a1), .val (.ref a2), .unset] [(.int (0 : Int32))]))
  refine o_istoreN X1 hx (pc' := 5) (Ls' := #[.val (.ref a1), .val (.ref a2), .val (.int (0 : Int32))]) (hb hby d16_4) rfl rfl ?_
  refine o_aloadN X1 hx (pc' := 6) (hb hby d16_5) rfl rfl rfl ?_
  refine o_aconstNull X1 hx (pc' := 7) (hb hby d16_6) rfl ?_
  refine o_putfield X1 hx hZ hown (hw _ (List.mem_of_getElem? (i := 120) rfl)) e1 hM hE (Or.inl (hw _ (List.mem_of_getElem? (i := 121) rfl))) (hw _ (List.mem_of_getElem? (i := 38) rfl)) (ty := (.array .int)) (v' := .null) (by decide) rfl rfl (hb hby d16_7) (pc' := 10) rfl ?_
  intro T2 h2 X2 e2 W2 F2 E2
  have NN := Fr.snoc X2 NN g_a1
  have KK := KK.wr W2 (Or.inl (List.mem_of_getElem? (i := 0) rfl))
  have ZZ := Nat.le_trans ZZ (Keep.of_wr W2).1
  have hS := hS.other W2 (Or.inr (slot_ne (Or.inl (hw _ (List.mem_of_getElem? (i := 123) rfl))) (Or.inl (hw _ (List.mem_of_getElem? (i := 121) rfl))) (by decide) (t := .int) (t' := (.array .int)) (by decide) (by decide)))
  have hM := F2
  have hE := E2
  have hP := hP.keep (ws := [a1]) (Keep.of_wr W2) (by intro x hx; simp only [List.mem_cons, List.not_mem_nil, or_false] at hx; subst hx; exact ta)
  refine o_aloadN X2 hx (pc' := 11) (hb hby d16_10) rfl rfl rfl ?_
  refine o_iconst X2 hx (pc' := 12) (v := (0 : Int32)) (hb hby d16_11) rfl rfl ?_
  refine o_putfield X2 hx hZ hown (hw _ (List.mem_of_getElem? (i := 122) rfl)) e2 hS hE (Or.inl (hw _ (List.mem_of_getElem? (i := 123) rfl))) (hw _ (List.mem_of_getElem? (i := 38) rfl)) (ty := .int) (v' := (.int (0 : Int32))) (by decide) rfl rfl (hb hby d16_12) (pc' := 15) rfl ?_
  intro T3 h3 X3 e3 W3 F3 E3
  have NN := Fr.snoc X3 NN g_a1
  have KK := KK.wr W3 (Or.inl (List.mem_of_getElem? (i := 0) rfl))
  have ZZ := Nat.le_trans ZZ (Keep.of_wr W3).1
  have hM := hM.other W3 (Or.inr (slot_ne (Or.inl (hw _ (List.mem_of_getElem? (i := 121) rfl))) (Or.inl (hw _ (List.mem_of_getElem? (i := 123) rfl))) (by decide) (t := (.array .int)) (t' := .int) (by decide) (by decide)))
  have hS := F3
  have hE := E3
  have hP := hP.keep (ws := [a1]) (Keep.of_wr W3) (by intro x hx; simp only [List.mem_cons, List.not_mem_nil, or_false] at hx; subst hx; exact ta)
  have hPo := hP
  obtain ⟨bp, bc, kp, kc, lt_a, lt_bp, lt_bc, pE, pPi, pCo, pSi, pCa, pEn, pC9, pV1, pV2⟩ := hPo
  refine o_aloadN X3 hx (pc' := 16) (hb hby d16_15) rfl rfl rfl ?_
  refine o_aloadN X3 hx (pc' := 17) (hb hby d16_16) rfl rfl rfl ?_
  refine o_iloadN X3 hx (pc' := 18) (hb hby d16_17) rfl rfl ?_
  refine o_aloadN X3 hx (pc' := 19) (hb hby d16_18) rfl rfl rfl ?_
  refine o_iloadN X3 hx (pc' := 20) (hb hby d16_19) rfl rfl ?_
  refine o_callVP X3 hx hZ a2 [(.int (0 : Int32))] (rmKS2 l Z a0 hw h3 n0 ZZ a2 t hP) hown (hw _ (List.mem_of_getElem? (i := 124) rfl)) (hw _ (List.mem_of_getElem? (i := 125) rfl)) (hw _ (List.mem_of_getElem? (i := 127) rfl)) (hw _ (List.mem_of_getElem? (i := 126) rfl)) (hw _ (List.mem_of_getElem? (i := 7) rfl)) (hw _ (List.mem_of_getElem? (i := 128) rfl)) (by decide) pE pd_0 e3 (by rw [hml]; rfl) rfl rfl rfl (hb hby d16_20) (pc' := 23) rfl 3 (Nat.le_of_eq rfl) (by decide) (by decide) rfl rfl (by decide) (by decide) ?_
  intro T4 X4 e4
  show Dn p e below _ (T4.setTop (mkF m 23 #[.val (.ref a1), .val (.ref a2), .val (.int (0 : Int32))] [(.int (2 : Int32)), (.int (0 : Int32)), (.ref a2), (.ref a1)]))
  refine o_aloadN X4 hx (pc' := 24) (hb hby d16_23) rfl rfl rfl ?_
  refine o_iloadN X4 hx (pc' := 25) (hb hby d16_24) rfl rfl ?_
  refine o_callVP X4 hx hZ a2 [(.int (0 : Int32))] (rm6 l Z a0 hw h3 n0 ZZ a2 (0 : Int32) bc kc _ (4 : Int64) pCo pV2 (by decide) rfl) hown (hw _ (List.mem_of_getElem? (i := 130) rfl)) (hw _ (List.mem_of_getElem? (i := 47) rfl)) (hw _ (List.mem_of_getElem? (i := 49) rfl)) (hw _ (List.mem_of_getElem? (i := 48) rfl)) (hw _ (List.mem_of_getElem? (i := 7) rfl)) (hw _ (List.mem_of_getElem? (i := 50) rfl)) (by decide) pE pd_3 e4 (by rw [hml]; rfl) rfl rfl rfl (hb hby d16_25) (pc' := 28) rfl 4 (Nat.le_of_eq rfl) (by decide) (by decide) rfl rfl (by decide) (by decide) ?_
  intro T5 X5 e5
  show Dn p e below _ (T5.setTop (mkF m 28 #[.val (.ref a1), .val (.ref a2), .val (.int (0 : Int32))] [(.long (4 : Int64)), (.int (2 : Int32)), (.int (0 : Int32)), (.ref a2), (.ref a1)]))
  refine o_aloadN X5 hx (pc' := 29) (hb hby d16_28) rfl rfl rfl ?_
  refine o_iloadN X5 hx (pc' := 30) (hb hby d16_29) rfl rfl ?_
  refine o_iconst X5 hx (pc' := 31) (v := (1 : Int32)) (hb hby d16_30) rfl rfl ?_
  refine o_ixor X5 hx (pc' := 32) (hb hby d16_31) rfl ?_
  rw [show ((0 : Int32) ^^^ (1 : Int32)) = (1 : Int32) from by decide +kernel]
  refine o_callVP X5 hx hZ a2 [(.int (1 : Int32))] (rm6 l Z a0 hw h3 n0 ZZ a2 (1 : Int32) bc kc _ (0 : Int64) pCo pV2 (by decide) rfl) hown (hw _ (List.mem_of_getElem? (i := 130) rfl)) (hw _ (List.mem_of_getElem? (i := 47) rfl)) (hw _ (List.mem_of_getElem? (i := 49) rfl)) (hw _ (List.mem_of_getElem? (i := 48) rfl)) (hw _ (List.mem_of_getElem? (i := 7) rfl)) (hw _ (List.mem_of_getElem? (i := 50) rfl)) (by decide) pE pd_3 e5 (by rw [hml]; rfl) rfl rfl rfl (hb hby d16_32) (pc' := 35) rfl 6 (Nat.le_of_eq rfl) (by decide) (by decide) rfl rfl (by decide) (by decide) ?_
  intro T6 X6 e6
  show Dn p e below _ (T6.setTop (mkF m 35 #[.val (.ref a1), .val (.ref a2), .val (.int (0 : Int32))] [(.long (0 : Int64)), (.long (4 : Int64)), (.int (2 : Int32)), (.int (0 : Int32)), (.ref a2), (.ref a1)]))
  refine o_lor X6 hx (pc' := 36) (hb hby d16_35) rfl ?_
  rw [show ((4 : Int64) ||| (0 : Int64)) = (4 : Int64) from by decide +kernel]
  refine o_callP X6 hx hZ a1 [(.ref a2), (.int (0 : Int32)), (.int (2 : Int32)), (.long (4 : Int64))] (rm19 l Z a0 hw h3 n0 ZZ a1 a2 (0 : Int32) (2 : Int32) (4 : Int64) t _ hP) hown (hw _ (List.mem_of_getElem? (i := 131) rfl)) (hw _ (List.mem_of_getElem? (i := 38) rfl)) (hw _ (List.mem_of_getElem? (i := 133) rfl)) (hw _ (List.mem_of_getElem? (i := 132) rfl)) (hw _ (List.mem_of_getElem? (i := 39) rfl)) (hw _ (List.mem_of_getElem? (i := 134) rfl)) (by decide) hE pd_4 e6 (by rw [hml]; rfl) rfl rfl rfl (hb hby d16_36) (pc' := 39) rfl 0 (Nat.le_of_eq rfl) (by decide) (by decide) (by decide) (by decide) ?_
  intro T7 v7 L7 X7 hQ7
  obtain ⟨rfl, rfl, hh7⟩ := hQ7
  rw [List.append_nil] at X7
  have e7 := hh7
  show Dn p e below _ (T7.setTop (mkF m 39 #[.val (.ref a1), .val (.ref a2), .val (.int (0 : Int32))] []))
  refine o_aloadN X7 hx (pc' := 40) (hb hby d16_39) rfl rfl rfl ?_
  refine o_getfield X7 hx hZ hown (hw _ (List.mem_of_getElem? (i := 122) rfl)) e7 hS (hb hby d16_40) (pc' := 43) rfl ?_
  intro T8 X8 e8
  refine o_if_le X8 hx (pc' := 46) (pt := 50) (hb hby d16_43) rfl (by decide) (by decide) (fun _ => ?_) (fun q => absurd q (by decide))
  refine o_iconst X8 hx (pc' := 51) (v := (0 : Int32)) (hb hby d16_50) rfl rfl ?_
  exact finN X8 hx hlk (t := .boolean) hret (by simp) (hb hby d16_51) (by decide) (by decide) ⟨rfl, NN, by rw [e8]; exact KK, by rw [e8]; exact hM, by rw [e8]; exact hS⟩
set_option maxRecDepth 65536 in
set_option maxHeartbeats 40000000 in
theorem rmCC3 (l : Launch) (Z : State) (a0 : Array Value) (hw : ∀ d ∈ tables_1, d.before a0 Z = true) (h0 : Heap) (n0 : Nat) (Z0 : n0 ≤ h0.size) (a1 : Addr) (a2 : Addr) (t : Nat) (u : Value) (w : Int32) (hP : Pos Z h0 t a2 8) (hE : Exa Z h0 a1 "com/example/jadoube/jadoube/MoveGenerator") (hM : Fld Z h0 a1 "com/example/jadoube/jadoube/MoveGenerator" "moves" "[I" u) (hS : Fld Z h0 a1 "com/example/jadoube/jadoube/MoveGenerator" "size" "I" (.int w)) (ta : t ≤ a1) (ga : n0 ≤ a1) : Ctr l Z (⟨"com/example/jadoube/jadoube/MoveGenerator", "canCaptureEnPassant", "(Lcom/example/jadoube/jadoube/Position;)Z"⟩ : MethodName) prog_22_method_4_code 3 (some .boolean) [] ({ frames := 3, cells := 0, slots := 0, locals := 43 } : Room) #[(.ref a1), (.ref a2)] h0 (fun v h L => v = some (.int 0) ∧ Fr n0 L ∧ Keep h0 h [a1] ∧ Fld Z h a1 "com/example/jadoube/jadoube/MoveGenerator" "moves" "[I" .null ∧ Fld Z h a1 "com/example/jadoube/jadoube/MoveGenerator" "size" "I" (.int 0)) := by
  refine ctr_mk pn_16 (own := "com/example/jadoube/jadoube/MoveGenerator") (mn := "canCaptureEnPassant") rfl rfl ?_
  intro p e s m below meth c T0 X0 hx hby hml hZ hown hnm hret hlk e0
  refine o_entry (ef_16 m a1 a2) ?_
  have g_a1 := ga
  have NN := Fr.nil n0
  have ZZ := Z0
  have KK := Keep.refl h0 [a1]
  have hPo := hP
  obtain ⟨bp, bc, kp, kc, lt_a, lt_bp, lt_bc, pE, pPi, pCo, pSi, pCa, pEn, pC9, pV1, pV2⟩ := hPo
  refine o_aloadN X0 hx (pc' := 1) (hb hby d16_0) rfl rfl rfl ?_
  refine o_callVP X0 hx hZ a2 [] (rm17 l Z a0 hw h0 n0 ZZ a2 pSi) hown (hw _ (List.mem_of_getElem? (i := 115) rfl)) (hw _ (List.mem_of_getElem? (i := 116) rfl)) (hw _ (List.mem_of_getElem? (i := 118) rfl)) (hw _ (List.mem_of_getElem? (i := 117) rfl)) (hw _ (List.mem_of_getElem? (i := 7) rfl)) (hw _ (List.mem_of_getElem? (i := 119) rfl)) (by decide) pE pd_2 e0 (by rw [hml]; rfl) rfl rfl rfl (hb hby d16_1) (pc' := 4) rfl 0 (Nat.le_of_eq rfl) (by decide) (by decide) rfl rfl (by decide) (by decide) ?_
  intro T1 X1 e1
  show Dn p e below _ (T1.setTop (mkF m 4 #[.val (.ref a1), .val (.ref a2), .unset] [(.int (0 : Int32))]))
  refine o_istoreN X1 hx (pc' := 5) (Ls' := #[.val (.ref a1), .val (.ref a2), .val (.int (0 : Int32))]) (hb hby d16_4) rfl rfl ?_
  refine o_aloadN X1 hx (pc' := 6) (hb hby d16_5) rfl rfl rfl ?_
  refine o_aconstNull X1 hx (pc' := 7) (hb hby d16_6) rfl ?_
  refine o_putfield X1 hx hZ hown (hw _ (List.mem_of_getElem? (i := 120) rfl)) e1 hM hE (Or.inl (hw _ (List.mem_of_getElem? (i := 121) rfl))) (hw _ (List.mem_of_getElem? (i := 38) rfl)) (ty := (.array .int)) (v' := .null) (by decide) rfl rfl (hb hby d16_7) (pc' := 10) rfl ?_
  intro T2 h2 X2 e2 W2 F2 E2
  have NN := Fr.snoc X2 NN g_a1
  have KK := KK.wr W2 (Or.inl (List.mem_of_getElem? (i := 0) rfl))
  have ZZ := Nat.le_trans ZZ (Keep.of_wr W2).1
  have hS := hS.other W2 (Or.inr (slot_ne (Or.inl (hw _ (List.mem_of_getElem? (i := 123) rfl))) (Or.inl (hw _ (List.mem_of_getElem? (i := 121) rfl))) (by decide) (t := .int) (t' := (.array .int)) (by decide) (by decide)))
  have hM := F2
  have hE := E2
  have hP := hP.keep (ws := [a1]) (Keep.of_wr W2) (by intro x hx; simp only [List.mem_cons, List.not_mem_nil, or_false] at hx; subst hx; exact ta)
  refine o_aloadN X2 hx (pc' := 11) (hb hby d16_10) rfl rfl rfl ?_
  refine o_iconst X2 hx (pc' := 12) (v := (0 : Int32)) (hb hby d16_11) rfl rfl ?_
  refine o_putfield X2 hx hZ hown (hw _ (List.mem_of_getElem? (i := 122) rfl)) e2 hS hE (Or.inl (hw _ (List.mem_of_getElem? (i := 123) rfl))) (hw _ (List.mem_of_getElem? (i := 38) rfl)) (ty := .int) (v' := (.int (0 : Int32))) (by decide) rfl rfl (hb hby d16_12) (pc' := 15) rfl ?_
  intro T3 h3 X3 e3 W3 F3 E3
  have NN := Fr.snoc X3 NN g_a1
  have KK := KK.wr W3 (Or.inl (List.mem_of_getElem? (i := 0) rfl))
  have ZZ := Nat.le_trans ZZ (Keep.of_wr W3).1
  have hM := hM.other W3 (Or.inr (slot_ne (Or.inl (hw _ (List.mem_of_getElem? (i := 121) rfl))) (Or.inl (hw _ (List.mem_of_getElem? (i := 123) rfl))) (by decide) (t := (.array .int)) (t' := .int) (by decide) (by decide)))
  have hS := F3
  have hE := E3
  have hP := hP.keep (ws := [a1]) (Keep.of_wr W3) (by intro x hx; simp only [List.mem_cons, List.not_mem_nil, or_false] at hx; subst hx; exact ta)
  have hPo := hP
  obtain ⟨bp, bc, kp, kc, lt_a, lt_bp, lt_bc, pE, pPi, pCo, pSi, pCa, pEn, pC9, pV1, pV2⟩ := hPo
  refine o_aloadN X3 hx (pc' := 16) (hb hby d16_15) rfl rfl rfl ?_
  refine o_aloadN X3 hx (pc' := 17) (hb hby d16_16) rfl rfl rfl ?_
  refine o_iloadN X3 hx (pc' := 18) (hb hby d16_17) rfl rfl ?_
  refine o_aloadN X3 hx (pc' := 19) (hb hby d16_18) rfl rfl rfl ?_
  refine o_iloadN X3 hx (pc' := 20) (hb hby d16_19) rfl rfl ?_
  refine o_callVP X3 hx hZ a2 [(.int (0 : Int32))] (rmKS3 l Z a0 hw h3 n0 ZZ a2 t hP) hown (hw _ (List.mem_of_getElem? (i := 124) rfl)) (hw _ (List.mem_of_getElem? (i := 125) rfl)) (hw _ (List.mem_of_getElem? (i := 127) rfl)) (hw _ (List.mem_of_getElem? (i := 126) rfl)) (hw _ (List.mem_of_getElem? (i := 7) rfl)) (hw _ (List.mem_of_getElem? (i := 128) rfl)) (by decide) pE pd_0 e3 (by rw [hml]; rfl) rfl rfl rfl (hb hby d16_20) (pc' := 23) rfl 3 (Nat.le_of_eq rfl) (by decide) (by decide) rfl rfl (by decide) (by decide) ?_
  intro T4 X4 e4
  show Dn p e below _ (T4.setTop (mkF m 23 #[.val (.ref a1), .val (.ref a2), .val (.int (0 : Int32))] [(.int (3 : Int32)), (.int (0 : Int32)), (.ref a2), (.ref a1)]))
  refine o_aloadN X4 hx (pc' := 24) (hb hby d16_23) rfl rfl rfl ?_
  refine o_iloadN X4 hx (pc' := 25) (hb hby d16_24) rfl rfl ?_
  refine o_callVP X4 hx hZ a2 [(.int (0 : Int32))] (rm6 l Z a0 hw h3 n0 ZZ a2 (0 : Int32) bc kc _ (8 : Int64) pCo pV2 (by decide) rfl) hown (hw _ (List.mem_of_getElem? (i := 130) rfl)) (hw _ (List.mem_of_getElem? (i := 47) rfl)) (hw _ (List.mem_of_getElem? (i := 49) rfl)) (hw _ (List.mem_of_getElem? (i := 48) rfl)) (hw _ (List.mem_of_getElem? (i := 7) rfl)) (hw _ (List.mem_of_getElem? (i := 50) rfl)) (by decide) pE pd_3 e4 (by rw [hml]; rfl) rfl rfl rfl (hb hby d16_25) (pc' := 28) rfl 4 (Nat.le_of_eq rfl) (by decide) (by decide) rfl rfl (by decide) (by decide) ?_
  intro T5 X5 e5
  show Dn p e below _ (T5.setTop (mkF m 28 #[.val (.ref a1), .val (.ref a2), .val (.int (0 : Int32))] [(.long (8 : Int64)), (.int (3 : Int32)), (.int (0 : Int32)), (.ref a2), (.ref a1)]))
  refine o_aloadN X5 hx (pc' := 29) (hb hby d16_28) rfl rfl rfl ?_
  refine o_iloadN X5 hx (pc' := 30) (hb hby d16_29) rfl rfl ?_
  refine o_iconst X5 hx (pc' := 31) (v := (1 : Int32)) (hb hby d16_30) rfl rfl ?_
  refine o_ixor X5 hx (pc' := 32) (hb hby d16_31) rfl ?_
  rw [show ((0 : Int32) ^^^ (1 : Int32)) = (1 : Int32) from by decide +kernel]
  refine o_callVP X5 hx hZ a2 [(.int (1 : Int32))] (rm6 l Z a0 hw h3 n0 ZZ a2 (1 : Int32) bc kc _ (0 : Int64) pCo pV2 (by decide) rfl) hown (hw _ (List.mem_of_getElem? (i := 130) rfl)) (hw _ (List.mem_of_getElem? (i := 47) rfl)) (hw _ (List.mem_of_getElem? (i := 49) rfl)) (hw _ (List.mem_of_getElem? (i := 48) rfl)) (hw _ (List.mem_of_getElem? (i := 7) rfl)) (hw _ (List.mem_of_getElem? (i := 50) rfl)) (by decide) pE pd_3 e5 (by rw [hml]; rfl) rfl rfl rfl (hb hby d16_32) (pc' := 35) rfl 6 (Nat.le_of_eq rfl) (by decide) (by decide) rfl rfl (by decide) (by decide) ?_
  intro T6 X6 e6
  show Dn p e below _ (T6.setTop (mkF m 35 #[.val (.ref a1), .val (.ref a2), .val (.int (0 : Int32))] [(.long (0 : Int64)), (.long (8 : Int64)), (.int (3 : Int32)), (.int (0 : Int32)), (.ref a2), (.ref a1)]))
  refine o_lor X6 hx (pc' := 36) (hb hby d16_35) rfl ?_
  rw [show ((8 : Int64) ||| (0 : Int64)) = (8 : Int64) from by decide +kernel]
  refine o_callP X6 hx hZ a1 [(.ref a2), (.int (0 : Int32)), (.int (3 : Int32)), (.long (8 : Int64))] (rm19 l Z a0 hw h3 n0 ZZ a1 a2 (0 : Int32) (3 : Int32) (8 : Int64) t _ hP) hown (hw _ (List.mem_of_getElem? (i := 131) rfl)) (hw _ (List.mem_of_getElem? (i := 38) rfl)) (hw _ (List.mem_of_getElem? (i := 133) rfl)) (hw _ (List.mem_of_getElem? (i := 132) rfl)) (hw _ (List.mem_of_getElem? (i := 39) rfl)) (hw _ (List.mem_of_getElem? (i := 134) rfl)) (by decide) hE pd_4 e6 (by rw [hml]; rfl) rfl rfl rfl (hb hby d16_36) (pc' := 39) rfl 0 (Nat.le_of_eq rfl) (by decide) (by decide) (by decide) (by decide) ?_
  intro T7 v7 L7 X7 hQ7
  obtain ⟨rfl, rfl, hh7⟩ := hQ7
  rw [List.append_nil] at X7
  have e7 := hh7
  show Dn p e below _ (T7.setTop (mkF m 39 #[.val (.ref a1), .val (.ref a2), .val (.int (0 : Int32))] []))
  refine o_aloadN X7 hx (pc' := 40) (hb hby d16_39) rfl rfl rfl ?_
  refine o_getfield X7 hx hZ hown (hw _ (List.mem_of_getElem? (i := 122) rfl)) e7 hS (hb hby d16_40) (pc' := 43) rfl ?_
  intro T8 X8 e8
  refine o_if_le X8 hx (pc' := 46) (pt := 50) (hb hby d16_43) rfl (by decide) (by decide) (fun _ => ?_) (fun q => absurd q (by decide))
  refine o_iconst X8 hx (pc' := 51) (v := (0 : Int32)) (hb hby d16_50) rfl rfl ?_
  exact finN X8 hx hlk (t := .boolean) hret (by simp) (hb hby d16_51) (by decide) (by decide) ⟨rfl, NN, by rw [e8]; exact KK, by rw [e8]; exact hM, by rw [e8]; exact hS⟩
theorem d12_0 : decode jdk_65_method_101_code 0 = .ok (.iconst 0, 1) := by decide +kernel
theorem d12_1 : decode jdk_65_method_101_code 1 = .ok (.istore_n 3, 1) := by decide +kernel
theorem d12_2 : decode jdk_65_method_101_code 2 = .ok (.aload_n 0, 1) := by decide +kernel
theorem d12_3 : decode jdk_65_method_101_code 3 = .ok (.arraylength, 1) := by decide +kernel
theorem d12_4 : decode jdk_65_method_101_code 4 = .ok (.istore 4, 2) := by decide +kernel
theorem d12_6 : decode jdk_65_method_101_code 6 = .ok (.iload_n 3, 1) := by decide +kernel
theorem d12_7 : decode jdk_65_method_101_code 7 = .ok (.iload 4, 2) := by decide +kernel
theorem d12_9 : decode jdk_65_method_101_code 9 = .ok (.if_icmp .ge 13, 3) := by decide +kernel
theorem d12_12 : decode jdk_65_method_101_code 12 = .ok (.aload_n 0, 1) := by decide +kernel
theorem d12_13 : decode jdk_65_method_101_code 13 = .ok (.iload_n 3, 1) := by decide +kernel
theorem d12_14 : decode jdk_65_method_101_code 14 = .ok (.lload_n 1, 1) := by decide +kernel
theorem d12_15 : decode jdk_65_method_101_code 15 = .ok (.lastore, 1) := by decide +kernel
theorem d12_16 : decode jdk_65_method_101_code 16 = .ok (.iinc 3 1, 3) := by decide +kernel
theorem d12_19 : decode jdk_65_method_101_code 19 = .ok (.goto (-13), 3) := by decide +kernel
theorem d12_22 : decode jdk_65_method_101_code 22 = .ok (.return_, 1) := by decide +kernel
theorem pn_12 : plainFor (⟨"java/util/Arrays", "fill", "([JJ)V"⟩ : MethodName) = true := plainFor_of_name (by show plainName "java/util/Arrays" = true; first | (simp [plainName, overriddenIn]; done) | decide +kernel)
theorem ef_12_a1_0 (m : MethodId) (a1 : Addr) : entryFrame m #[(.ref a1), (.long (0 : Int64))] 5 = mkF m 0 #[.val (.ref a1), .val (.long (0 : Int64)), .second, .unset, .unset] [] := by first | (simp [entryFrame, mkF, argsToLocals, Value.category]; done) | rfl
set_option maxRecDepth 65536 in
set_option maxHeartbeats 40000000 in
theorem rm12 (l : Launch) (Z : State) (a0 : Array Value) (hw : ∀ d ∈ tables_1, d.before a0 Z = true) (h0 : Heap) (n0 : Nat) (Z0 : n0 ≤ h0.size) (a1 : Addr) (k : ClassId) (x y : Int64) (hV : Arv Z h0 a1 k .long 2 [.long x, .long y] (.long 0)) (ga : n0 ≤ a1) : Ctr l Z (⟨"java/util/Arrays", "fill", "([JJ)V"⟩ : MethodName) jdk_65_method_101_code 5 none [] ({ frames := 0, cells := 0, slots := 0, locals := 0 } : Room) #[(.ref a1), (.long (0 : Int64))] h0 (fun v h L => v = none ∧ Fr n0 L ∧ Keep h0 h [a1] ∧ Arv Z h a1 k .long 2 [.long 0, .long 0] (.long 0)) := by
  refine ctr_mk pn_12 (own := "java/util/Arrays") (mn := "fill") rfl rfl ?_
  intro p e s m below meth c T0 X0 hx hby hml hZ hown hnm hret hlk e0
  refine o_entry (ef_12_a1_0 m a1) ?_
  have g_a1 := ga
  have NN := Fr.nil n0
  have ZZ := Z0
  have KK := Keep.refl h0 [a1]
  refine o_iconst X0 hx (pc' := 1) (v := (0 : Int32)) (hb hby d12_0) rfl rfl ?_
  refine o_istoreN X0 hx (pc' := 2) (Ls' := #[.val (.ref a1), .val (.long (0 : Int64)), .second, .val (.int (0 : Int32)), .unset]) (hb hby d12_1) rfl rfl ?_
  refine o_aloadN X0 hx (pc' := 3) (hb hby d12_2) rfl rfl rfl ?_
  refine o_arraylength X0 hx hZ e0 hV (hb hby d12_3) (pc' := 4) rfl ?_
  refine o_istore X0 hx (pc' := 6) (Ls' := #[.val (.ref a1), .val (.long (0 : Int64)), .second, .val (.int (0 : Int32)), .val (.int (2 : Int32))]) (hb hby d12_4) rfl rfl ?_
  refine o_iloadN X0 hx (pc' := 7) (hb hby d12_6) rfl rfl ?_
  refine o_iload X0 hx (pc' := 9) (hb hby d12_7) rfl rfl ?_
  refine o_icmp_ge X0 hx (pc' := 12) (pt := 22) (hb hby d12_9) rfl (by decide) (by decide) (fun q => absurd (by decide) q) (fun _ => ?_)
  refine o_aloadN X0 hx (pc' := 13) (hb hby d12_12) rfl rfl rfl ?_
  refine o_iloadN X0 hx (pc' := 14) (hb hby d12_13) rfl rfl ?_
  refine o_lloadN X0 hx (pc' := 15) (hb hby d12_14) rfl rfl ?_
  refine o_lastore X0 hx hZ e0 hV (by decide) 0 rfl (Nat.le_of_ble_eq_true rfl) (hb hby d12_15) (pc' := 16) rfl ?_
  intro T1 h1 X1 e1 W1 V1
  have NN := Fr.snoc X1 NN g_a1
  have KK := KK.wr W1 (Or.inl (List.mem_of_getElem? (i := 0) rfl))
  have ZZ := Nat.le_trans ZZ (Keep.of_wr W1).1
  have hV := V1
  refine o_iinc X1 hx (pc' := 19) (Ls' := #[.val (.ref a1), .val (.long (0 : Int64)), .second, .val (.int (1 : Int32)), .val (.int (2 : Int32))]) (v := (1 : Int32)) (hb hby d12_16) rfl rfl rfl rfl ?_
  refine o_goto X1 hx (pc' := 6) (hb hby d12_19) (by decide) (by decide) ?_
  refine o_iloadN X1 hx (pc' := 7) (hb hby d12_6) rfl rfl ?_
  refine o_iload X1 hx (pc' := 9) (hb hby d12_7) rfl rfl ?_
  refine o_icmp_ge X1 hx (pc' := 12) (pt := 22) (hb hby d12_9) rfl (by decide) (by decide) (fun q => absurd (by decide) q) (fun _ => ?_)
  refine o_aloadN X1 hx (pc' := 13) (hb hby d12_12) rfl rfl rfl ?_
  refine o_iloadN X1 hx (pc' := 14) (hb hby d12_13) rfl rfl ?_
  refine o_lloadN X1 hx (pc' := 15) (hb hby d12_14) rfl rfl ?_
  refine o_lastore X1 hx hZ e1 hV (by decide) 1 rfl (Nat.le_of_ble_eq_true rfl) (hb hby d12_15) (pc' := 16) rfl ?_
  intro T2 h2 X2 e2 W2 V2
  have NN := Fr.snoc X2 NN g_a1
  have KK := KK.wr W2 (Or.inl (List.mem_of_getElem? (i := 0) rfl))
  have ZZ := Nat.le_trans ZZ (Keep.of_wr W2).1
  have hV := V2
  refine o_iinc X2 hx (pc' := 19) (Ls' := #[.val (.ref a1), .val (.long (0 : Int64)), .second, .val (.int (2 : Int32)), .val (.int (2 : Int32))]) (v := (1 : Int32)) (hb hby d12_16) rfl rfl rfl rfl ?_
  refine o_goto X2 hx (pc' := 6) (hb hby d12_19) (by decide) (by decide) ?_
  refine o_iloadN X2 hx (pc' := 7) (hb hby d12_6) rfl rfl ?_
  refine o_iload X2 hx (pc' := 9) (hb hby d12_7) rfl rfl ?_
  refine o_icmp_ge X2 hx (pc' := 12) (pt := 22) (hb hby d12_9) rfl (by decide) (by decide) (fun _ => ?_) (fun q => absurd q (by decide))
  exact finV X2 hx hlk hret (hb hby d12_22) (by decide) (by decide) ⟨rfl, NN, by rw [e2]; exact KK, by rw [e2]; exact hV⟩
theorem d22_0 : decode prog_33_method_8_code 0 = .ok (.lconst 0, 1) := by decide +kernel
theorem d22_1 : decode prog_33_method_8_code 1 = .ok (.lstore_n 3, 1) := by decide +kernel
theorem d22_2 : decode prog_33_method_8_code 2 = .ok (.iload_n 2, 1) := by decide +kernel
theorem d22_3 : decode prog_33_method_8_code 3 = .ok (.istore 5, 2) := by decide +kernel
theorem d22_5 : decode prog_33_method_8_code 5 = .ok (.iload 5, 2) := by decide +kernel
theorem d22_7 : decode prog_33_method_8_code 7 = .ok (.iload_n 2, 1) := by decide +kernel
theorem d22_8 : decode prog_33_method_8_code 8 = .ok (.aload_n 0, 1) := by decide +kernel
theorem d22_9 : decode prog_33_method_8_code 9 = .ok (.getfield 28, 3) := by decide +kernel
theorem d22_12 : decode prog_33_method_8_code 12 = .ok (.iadd, 1) := by decide +kernel
theorem d22_13 : decode prog_33_method_8_code 13 = .ok (.if_icmp .ge 20, 3) := by decide +kernel
theorem d22_16 : decode prog_33_method_8_code 16 = .ok (.lload_n 3, 1) := by decide +kernel
theorem d22_17 : decode prog_33_method_8_code 17 = .ok (.aload_n 1, 1) := by decide +kernel
theorem d22_18 : decode prog_33_method_8_code 18 = .ok (.iload 5, 2) := by decide +kernel
theorem d22_20 : decode prog_33_method_8_code 20 = .ok (.laload, 1) := by decide +kernel
theorem d22_21 : decode prog_33_method_8_code 21 = .ok (.lxor, 1) := by decide +kernel
theorem d22_22 : decode prog_33_method_8_code 22 = .ok (.ldc2_w 137, 3) := by decide +kernel
theorem d22_25 : decode prog_33_method_8_code 25 = .ok (.lmul, 1) := by decide +kernel
theorem d22_26 : decode prog_33_method_8_code 26 = .ok (.lstore_n 3, 1) := by decide +kernel
theorem d22_27 : decode prog_33_method_8_code 27 = .ok (.iinc 5 1, 3) := by decide +kernel
theorem d22_30 : decode prog_33_method_8_code 30 = .ok (.goto (-25), 3) := by decide +kernel
theorem d22_33 : decode prog_33_method_8_code 33 = .ok (.lload_n 3, 1) := by decide +kernel
theorem d22_34 : decode prog_33_method_8_code 34 = .ok (.lload_n 3, 1) := by decide +kernel
theorem d22_35 : decode prog_33_method_8_code 35 = .ok (.bipush 33, 2) := by decide +kernel
theorem d22_37 : decode prog_33_method_8_code 37 = .ok (.lushr, 1) := by decide +kernel
theorem d22_38 : decode prog_33_method_8_code 38 = .ok (.lxor, 1) := by decide +kernel
theorem d22_39 : decode prog_33_method_8_code 39 = .ok (.ldc2_w 139, 3) := by decide +kernel
theorem d22_42 : decode prog_33_method_8_code 42 = .ok (.lmul, 1) := by decide +kernel
theorem d22_43 : decode prog_33_method_8_code 43 = .ok (.lstore_n 3, 1) := by decide +kernel
theorem d22_44 : decode prog_33_method_8_code 44 = .ok (.lload_n 3, 1) := by decide +kernel
theorem d22_45 : decode prog_33_method_8_code 45 = .ok (.lload_n 3, 1) := by decide +kernel
theorem d22_46 : decode prog_33_method_8_code 46 = .ok (.bipush 33, 2) := by decide +kernel
theorem d22_48 : decode prog_33_method_8_code 48 = .ok (.lushr, 1) := by decide +kernel
theorem d22_49 : decode prog_33_method_8_code 49 = .ok (.lxor, 1) := by decide +kernel
theorem d22_50 : decode prog_33_method_8_code 50 = .ok (.l2i, 1) := by decide +kernel
theorem d22_51 : decode prog_33_method_8_code 51 = .ok (.ireturn, 1) := by decide +kernel
theorem pn_22 : plainFor (⟨"com/example/jadoube/jadoube/PositionTable", "hash", "([JI)I"⟩ : MethodName) = true := plainFor_of_name (by show plainName "com/example/jadoube/jadoube/PositionTable" = true; first | (simp [plainName, overriddenIn]; done) | decide +kernel)
theorem ef_22_a1_a2_0 (m : MethodId) (a1 : Addr) (a2 : Addr) : entryFrame m #[(.ref a1), (.ref a2), (.int (0 : Int32))] 6 = mkF m 0 #[.val (.ref a1), .val (.ref a2), .val (.int (0 : Int32)), .unset, .unset, .unset] [] := by first | (simp [entryFrame, mkF, argsToLocals, Value.category]; done) | rfl
set_option maxRecDepth 65536 in
set_option maxHeartbeats 40000000 in
theorem rmH0 (l : Launch) (Z : State) (a0 : Array Value) (hw : ∀ d ∈ tables_1, d.before a0 Z = true) (h0 : Heap) (n0 : Nat) (Z0 : n0 ≤ h0.size) (a1 : Addr) (a2 : Addr) (ks : ClassId) (hW : Fld Z h0 a1 "com/example/jadoube/jadoube/PositionTable" "width" "I" (.int 2)) (hV : Arv Z h0 a2 ks .long 2 [.long 1, .long 5] (.long 0)) : Ctr l Z (⟨"com/example/jadoube/jadoube/PositionTable", "hash", "([JI)I"⟩ : MethodName) prog_33_method_8_code 6 (some .int) [] ({ frames := 0, cells := 0, slots := 0, locals := 0 } : Room) #[(.ref a1), (.ref a2), (.int (0 : Int32))] h0 (Pure (.int (671119229)) h0) := by
  refine ctr_mk pn_22 (own := "com/example/jadoube/jadoube/PositionTable") (mn := "hash") rfl rfl ?_
  intro p e s m below meth c T0 X0 hx hby hml hZ hown hnm hret hlk e0
  refine o_entry (ef_22_a1_a2_0 m a1 a2) ?_
  refine o_lconst X0 hx (pc' := 1) (v := (0 : Int64)) (hb hby d22_0) rfl rfl ?_
  refine o_lstoreN X0 hx (pc' := 2) (Ls' := #[.val (.ref a1), .val (.ref a2), .val (.int (0 : Int32)), .val (.long (0 : Int64)), .second, .unset]) (hb hby d22_1) rfl rfl ?_
  refine o_iloadN X0 hx (pc' := 3) (hb hby d22_2) rfl rfl ?_
  refine o_istore X0 hx (pc' := 5) (Ls' := #[.val (.ref a1), .val (.ref a2), .val (.int (0 : Int32)), .val (.long (0 : Int64)), .second, .val (.int (0 : Int32))]) (hb hby d22_3) rfl rfl ?_
  refine o_iload X0 hx (pc' := 7) (hb hby d22_5) rfl rfl ?_
  refine o_iloadN X0 hx (pc' := 8) (hb hby d22_7) rfl rfl ?_
  refine o_aloadN X0 hx (pc' := 9) (hb hby d22_8) rfl rfl rfl ?_
  refine o_getfield X0 hx hZ hown (hw _ (List.mem_of_getElem? (i := 58) rfl)) e0 hW (hb hby d22_9) (pc' := 12) rfl ?_
  intro T1 X1 e1
  refine o_iadd X1 hx (pc' := 13) (hb hby d22_12) rfl ?_
  rw [show ((0 : Int32) + (2 : Int32)) = (2 : Int32) from by decide +kernel]
  refine o_icmp_ge X1 hx (pc' := 16) (pt := 33) (hb hby d22_13) rfl (by decide) (by decide) (fun q => absurd (by decide) q) (fun _ => ?_)
  refine o_lloadN X1 hx (pc' := 17) (hb hby d22_16) rfl rfl ?_
  refine o_aloadN X1 hx (pc' := 18) (hb hby d22_17) rfl rfl rfl ?_
  refine o_iload X1 hx (pc' := 20) (hb hby d22_18) rfl rfl ?_
  refine o_laload X1 hx hZ e1 hV (by decide) (v := (.long (1 : Int64))) rfl (hb hby d22_20) (pc' := 21) rfl ?_
  refine o_lxor X1 hx (pc' := 22) (hb hby d22_21) rfl ?_
  rw [show ((0 : Int64) ^^^ (1 : Int64)) = (1 : Int64) from by decide +kernel]
  refine o_ldc2 X1 hx hZ hown (hw _ (List.mem_of_getElem? (i := 150) rfl)) (pc' := 25) (hb hby d22_22) rfl ?_
  refine o_lmul X1 hx (pc' := 26) (hb hby d22_25) rfl ?_
  rw [show ((1 : Int64) * (-7046029254386353131 : Int64)) = (-7046029254386353131 : Int64) from by decide +kernel]
  refine o_lstoreN X1 hx (pc' := 27) (Ls' := #[.val (.ref a1), .val (.ref a2), .val (.int (0 : Int32)), .val (.long (-7046029254386353131 : Int64)), .second, .val (.int (0 : Int32))]) (hb hby d22_26) rfl rfl ?_
  refine o_iinc X1 hx (pc' := 30) (Ls' := #[.val (.ref a1), .val (.ref a2), .val (.int (0 : Int32)), .val (.long (-7046029254386353131 : Int64)), .second, .val (.int (1 : Int32))]) (v := (1 : Int32)) (hb hby d22_27) rfl rfl rfl rfl ?_
  refine o_goto X1 hx (pc' := 5) (hb hby d22_30) (by decide) (by decide) ?_
  refine o_iload X1 hx (pc' := 7) (hb hby d22_5) rfl rfl ?_
  refine o_iloadN X1 hx (pc' := 8) (hb hby d22_7) rfl rfl ?_
  refine o_aloadN X1 hx (pc' := 9) (hb hby d22_8) rfl rfl rfl ?_
  refine o_getfield X1 hx hZ hown (hw _ (List.mem_of_getElem? (i := 58) rfl)) e1 hW (hb hby d22_9) (pc' := 12) rfl ?_
  intro T2 X2 e2
  refine o_iadd X2 hx (pc' := 13) (hb hby d22_12) rfl ?_
  rw [show ((0 : Int32) + (2 : Int32)) = (2 : Int32) from by decide +kernel]
  refine o_icmp_ge X2 hx (pc' := 16) (pt := 33) (hb hby d22_13) rfl (by decide) (by decide) (fun q => absurd (by decide) q) (fun _ => ?_)
  refine o_lloadN X2 hx (pc' := 17) (hb hby d22_16) rfl rfl ?_
  refine o_aloadN X2 hx (pc' := 18) (hb hby d22_17) rfl rfl rfl ?_
  refine o_iload X2 hx (pc' := 20) (hb hby d22_18) rfl rfl ?_
  refine o_laload X2 hx hZ e2 hV (by decide) (v := (.long (5 : Int64))) rfl (hb hby d22_20) (pc' := 21) rfl ?_
  refine o_lxor X2 hx (pc' := 22) (hb hby d22_21) rfl ?_
  rw [show ((-7046029254386353131 : Int64) ^^^ (5 : Int64)) = (-7046029254386353136 : Int64) from by decide +kernel]
  refine o_ldc2 X2 hx hZ hown (hw _ (List.mem_of_getElem? (i := 150) rfl)) (pc' := 25) (hb hby d22_22) rfl ?_
  refine o_lmul X2 hx (pc' := 26) (hb hby d22_25) rfl ?_
  rw [show ((-7046029254386353136 : Int64) * (-7046029254386353131 : Int64)) = (-4022052552809648816 : Int64) from by decide +kernel]
  refine o_lstoreN X2 hx (pc' := 27) (Ls' := #[.val (.ref a1), .val (.ref a2), .val (.int (0 : Int32)), .val (.long (-4022052552809648816 : Int64)), .second, .val (.int (1 : Int32))]) (hb hby d22_26) rfl rfl ?_
  refine o_iinc X2 hx (pc' := 30) (Ls' := #[.val (.ref a1), .val (.ref a2), .val (.int (0 : Int32)), .val (.long (-4022052552809648816 : Int64)), .second, .val (.int (2 : Int32))]) (v := (1 : Int32)) (hb hby d22_27) rfl rfl rfl rfl ?_
  refine o_goto X2 hx (pc' := 5) (hb hby d22_30) (by decide) (by decide) ?_
  refine o_iload X2 hx (pc' := 7) (hb hby d22_5) rfl rfl ?_
  refine o_iloadN X2 hx (pc' := 8) (hb hby d22_7) rfl rfl ?_
  refine o_aloadN X2 hx (pc' := 9) (hb hby d22_8) rfl rfl rfl ?_
  refine o_getfield X2 hx hZ hown (hw _ (List.mem_of_getElem? (i := 58) rfl)) e2 hW (hb hby d22_9) (pc' := 12) rfl ?_
  intro T3 X3 e3
  refine o_iadd X3 hx (pc' := 13) (hb hby d22_12) rfl ?_
  rw [show ((0 : Int32) + (2 : Int32)) = (2 : Int32) from by decide +kernel]
  refine o_icmp_ge X3 hx (pc' := 16) (pt := 33) (hb hby d22_13) rfl (by decide) (by decide) (fun _ => ?_) (fun q => absurd q (by decide))
  refine o_lloadN X3 hx (pc' := 34) (hb hby d22_33) rfl rfl ?_
  refine o_lloadN X3 hx (pc' := 35) (hb hby d22_34) rfl rfl ?_
  refine o_bipush X3 hx (pc' := 37) (v := (33 : Int32)) (hb hby d22_35) rfl rfl ?_
  refine o_lushr X3 hx (pc' := 38) (hb hby d22_37) rfl ?_
  rw [show (((-4022052552809648816 : Int64).toUInt64 >>> ((33 : Int32) &&& 0x3f).toInt64.toUInt64).toInt64) = (1679255105 : Int64) from by decide +kernel]
  refine o_lxor X3 hx (pc' := 39) (hb hby d22_38) rfl ?_
  rw [show ((-4022052552809648816 : Int64) ^^^ (1679255105 : Int64)) = (-4022052553280419055 : Int64) from by decide +kernel]
  refine o_ldc2 X3 hx hZ hown (hw _ (List.mem_of_getElem? (i := 151) rfl)) (pc' := 42) (hb hby d22_39) rfl ?_
  refine o_lmul X3 hx (pc' := 43) (hb hby d22_42) rfl ?_
  rw [show ((-4022052553280419055 : Int64) * (-49064778989728563 : Int64)) = (-5175832509135083363 : Int64) from by decide +kernel]
  refine o_lstoreN X3 hx (pc' := 44) (Ls' := #[.val (.ref a1), .val (.ref a2), .val (.int (0 : Int32)), .val (.long (-5175832509135083363 : Int64)), .second, .val (.int (2 : Int32))]) (hb hby d22_43) rfl rfl ?_
  refine o_lloadN X3 hx (pc' := 45) (hb hby d22_44) rfl rfl ?_
  refine o_lloadN X3 hx (pc' := 46) (hb hby d22_45) rfl rfl ?_
  refine o_bipush X3 hx (pc' := 48) (v := (33 : Int32)) (hb hby d22_46) rfl rfl ?_
  refine o_lushr X3 hx (pc' := 49) (hb hby d22_48) rfl ?_
  rw [show (((-5175832509135083363 : Int64).toUInt64 >>> ((33 : Int32) &&& 0x3f).toInt64.toUInt64).toInt64) = (1544937440 : Int64) from by decide +kernel]
  refine o_lxor X3 hx (pc' := 50) (hb hby d22_49) rfl ?_
  rw [show ((-5175832509135083363 : Int64) ^^^ (1544937440 : Int64)) = (-5175832510411540611 : Int64) from by decide +kernel]
  refine o_l2i X3 hx (pc' := 51) (hb hby d22_50) rfl ?_
  rw [show ((-5175832510411540611 : Int64).toInt32) = (671119229 : Int32) from by decide +kernel]
  exact finI X3 hx hlk hret (hb hby d22_51) (by decide) (by decide) ⟨rfl, rfl, e3⟩
set_option maxRecDepth 65536 in
set_option maxHeartbeats 40000000 in
theorem rmH1 (l : Launch) (Z : State) (a0 : Array Value) (hw : ∀ d ∈ tables_1, d.before a0 Z = true) (h0 : Heap) (n0 : Nat) (Z0 : n0 ≤ h0.size) (a1 : Addr) (a2 : Addr) (ks : ClassId) (hW : Fld Z h0 a1 "com/example/jadoube/jadoube/PositionTable" "width" "I" (.int 2)) (hV : Arv Z h0 a2 ks .long 2 [.long 2, .long 5] (.long 0)) : Ctr l Z (⟨"com/example/jadoube/jadoube/PositionTable", "hash", "([JI)I"⟩ : MethodName) prog_33_method_8_code 6 (some .int) [] ({ frames := 0, cells := 0, slots := 0, locals := 0 } : Room) #[(.ref a1), (.ref a2), (.int (0 : Int32))] h0 (Pure (.int (502617018)) h0) := by
  refine ctr_mk pn_22 (own := "com/example/jadoube/jadoube/PositionTable") (mn := "hash") rfl rfl ?_
  intro p e s m below meth c T0 X0 hx hby hml hZ hown hnm hret hlk e0
  refine o_entry (ef_22_a1_a2_0 m a1 a2) ?_
  refine o_lconst X0 hx (pc' := 1) (v := (0 : Int64)) (hb hby d22_0) rfl rfl ?_
  refine o_lstoreN X0 hx (pc' := 2) (Ls' := #[.val (.ref a1), .val (.ref a2), .val (.int (0 : Int32)), .val (.long (0 : Int64)), .second, .unset]) (hb hby d22_1) rfl rfl ?_
  refine o_iloadN X0 hx (pc' := 3) (hb hby d22_2) rfl rfl ?_
  refine o_istore X0 hx (pc' := 5) (Ls' := #[.val (.ref a1), .val (.ref a2), .val (.int (0 : Int32)), .val (.long (0 : Int64)), .second, .val (.int (0 : Int32))]) (hb hby d22_3) rfl rfl ?_
  refine o_iload X0 hx (pc' := 7) (hb hby d22_5) rfl rfl ?_
  refine o_iloadN X0 hx (pc' := 8) (hb hby d22_7) rfl rfl ?_
  refine o_aloadN X0 hx (pc' := 9) (hb hby d22_8) rfl rfl rfl ?_
  refine o_getfield X0 hx hZ hown (hw _ (List.mem_of_getElem? (i := 58) rfl)) e0 hW (hb hby d22_9) (pc' := 12) rfl ?_
  intro T1 X1 e1
  refine o_iadd X1 hx (pc' := 13) (hb hby d22_12) rfl ?_
  rw [show ((0 : Int32) + (2 : Int32)) = (2 : Int32) from by decide +kernel]
  refine o_icmp_ge X1 hx (pc' := 16) (pt := 33) (hb hby d22_13) rfl (by decide) (by decide) (fun q => absurd (by decide) q) (fun _ => ?_)
  refine o_lloadN X1 hx (pc' := 17) (hb hby d22_16) rfl rfl ?_
  refine o_aloadN X1 hx (pc' := 18) (hb hby d22_17) rfl rfl rfl ?_
  refine o_iload X1 hx (pc' := 20) (hb hby d22_18) rfl rfl ?_
  refine o_laload X1 hx hZ e1 hV (by decide) (v := (.long (2 : Int64))) rfl (hb hby d22_20) (pc' := 21) rfl ?_
  refine o_lxor X1 hx (pc' := 22) (hb hby d22_21) rfl ?_
  rw [show ((0 : Int64) ^^^ (2 : Int64)) = (2 : Int64) from by decide +kernel]
  refine o_ldc2 X1 hx hZ hown (hw _ (List.mem_of_getElem? (i := 150) rfl)) (pc' := 25) (hb hby d22_22) rfl ?_
  refine o_lmul X1 hx (pc' := 26) (hb hby d22_25) rfl ?_
  rw [show ((2 : Int64) * (-7046029254386353131 : Int64)) = (4354685564936845354 : Int64) from by decide +kernel]
  refine o_lstoreN X1 hx (pc' := 27) (Ls' := #[.val (.ref a1), .val (.ref a2), .val (.int (0 : Int32)), .val (.long (4354685564936845354 : Int64)), .second, .val (.int (0 : Int32))]) (hb hby d22_26) rfl rfl ?_
  refine o_iinc X1 hx (pc' := 30) (Ls' := #[.val (.ref a1), .val (.ref a2), .val (.int (0 : Int32)), .val (.long (4354685564936845354 : Int64)), .second, .val (.int (1 : Int32))]) (v := (1 : Int32)) (hb hby d22_27) rfl rfl rfl rfl ?_
  refine o_goto X1 hx (pc' := 5) (hb hby d22_30) (by decide) (by decide) ?_
  refine o_iload X1 hx (pc' := 7) (hb hby d22_5) rfl rfl ?_
  refine o_iloadN X1 hx (pc' := 8) (hb hby d22_7) rfl rfl ?_
  refine o_aloadN X1 hx (pc' := 9) (hb hby d22_8) rfl rfl rfl ?_
  refine o_getfield X1 hx hZ hown (hw _ (List.mem_of_getElem? (i := 58) rfl)) e1 hW (hb hby d22_9) (pc' := 12) rfl ?_
  intro T2 X2 e2
  refine o_iadd X2 hx (pc' := 13) (hb hby d22_12) rfl ?_
  rw [show ((0 : Int32) + (2 : Int32)) = (2 : Int32) from by decide +kernel]
  refine o_icmp_ge X2 hx (pc' := 16) (pt := 33) (hb hby d22_13) rfl (by decide) (by decide) (fun q => absurd (by decide) q) (fun _ => ?_)
  refine o_lloadN X2 hx (pc' := 17) (hb hby d22_16) rfl rfl ?_
  refine o_aloadN X2 hx (pc' := 18) (hb hby d22_17) rfl rfl rfl ?_
  refine o_iload X2 hx (pc' := 20) (hb hby d22_18) rfl rfl ?_
  refine o_laload X2 hx hZ e2 hV (by decide) (v := (.long (5 : Int64))) rfl (hb hby d22_20) (pc' := 21) rfl ?_
  refine o_lxor X2 hx (pc' := 22) (hb hby d22_21) rfl ?_
  rw [show ((4354685564936845354 : Int64) ^^^ (5 : Int64)) = (4354685564936845359 : Int64) from by decide +kernel]
  refine o_ldc2 X2 hx hZ hown (hw _ (List.mem_of_getElem? (i := 150) rfl)) (pc' := 25) (hb hby d22_22) rfl ?_
  refine o_lmul X2 hx (pc' := 26) (hb hby d22_25) rfl ?_
  rw [show ((4354685564936845359 : Int64) * (-7046029254386353131 : Int64)) = (-3054079479157284901 : Int64) from by decide +kernel]
  refine o_lstoreN X2 hx (pc' := 27) (Ls' := #[.val (.ref a1), .val (.ref a2), .val (.int (0 : Int32)), .val (.long (-3054079479157284901 : Int64)), .second, .val (.int (1 : Int32))]) (hb hby d22_26) rfl rfl ?_
  refine o_iinc X2 hx (pc' := 30) (Ls' := #[.val (.ref a1), .val (.ref a2), .val (.int (0 : Int32)), .val (.long (-3054079479157284901 : Int64)), .second, .val (.int (2 : Int32))]) (v := (1 : Int32)) (hb hby d22_27) rfl rfl rfl rfl ?_
  refine o_goto X2 hx (pc' := 5) (hb hby d22_30) (by decide) (by decide) ?_
  refine o_iload X2 hx (pc' := 7) (hb hby d22_5) rfl rfl ?_
  refine o_iloadN X2 hx (pc' := 8) (hb hby d22_7) rfl rfl ?_
  refine o_aloadN X2 hx (pc' := 9) (hb hby d22_8) rfl rfl rfl ?_
  refine o_getfield X2 hx hZ hown (hw _ (List.mem_of_getElem? (i := 58) rfl)) e2 hW (hb hby d22_9) (pc' := 12) rfl ?_
  intro T3 X3 e3
  refine o_iadd X3 hx (pc' := 13) (hb hby d22_12) rfl ?_
  rw [show ((0 : Int32) + (2 : Int32)) = (2 : Int32) from by decide +kernel]
  refine o_icmp_ge X3 hx (pc' := 16) (pt := 33) (hb hby d22_13) rfl (by decide) (by decide) (fun _ => ?_) (fun q => absurd q (by decide))
  refine o_lloadN X3 hx (pc' := 34) (hb hby d22_33) rfl rfl ?_
  refine o_lloadN X3 hx (pc' := 35) (hb hby d22_34) rfl rfl ?_
  refine o_bipush X3 hx (pc' := 37) (v := (33 : Int32)) (hb hby d22_35) rfl rfl ?_
  refine o_lushr X3 hx (pc' := 38) (hb hby d22_37) rfl ?_
  rw [show (((-3054079479157284901 : Int64).toUInt64 >>> ((33 : Int32) &&& 0x3f).toInt64.toUInt64).toInt64) = (1791942002 : Int64) from by decide +kernel]
  refine o_lxor X3 hx (pc' := 39) (hb hby d22_38) rfl ?_
  rw [show ((-3054079479157284901 : Int64) ^^^ (1791942002 : Int64)) = (-3054079477634317655 : Int64) from by decide +kernel]
  refine o_ldc2 X3 hx hZ hown (hw _ (List.mem_of_getElem? (i := 151) rfl)) (pc' := 42) (hb hby d22_39) rfl ?_
  refine o_lmul X3 hx (pc' := 43) (hb hby d22_42) rfl ?_
  rw [show ((-3054079477634317655 : Int64) * (-49064778989728563 : Int64)) = (4941079765940194645 : Int64) from by decide +kernel]
  refine o_lstoreN X3 hx (pc' := 44) (Ls' := #[.val (.ref a1), .val (.ref a2), .val (.int (0 : Int32)), .val (.long (4941079765940194645 : Int64)), .second, .val (.int (2 : Int32))]) (hb hby d22_43) rfl rfl ?_
  refine o_lloadN X3 hx (pc' := 45) (hb hby d22_44) rfl rfl ?_
  refine o_lloadN X3 hx (pc' := 46) (hb hby d22_45) rfl rfl ?_
  refine o_bipush X3 hx (pc' := 48) (v := (33 : Int32)) (hb hby d22_46) rfl rfl ?_
  refine o_lushr X3 hx (pc' := 49) (hb hby d22_48) rfl ?_
  rw [show (((4941079765940194645 : Int64).toUInt64 >>> ((33 : Int32) &&& 0x3f).toInt64.toUInt64).toInt64) = (575217391 : Int64) from by decide +kernel]
  refine o_lxor X3 hx (pc' := 50) (hb hby d22_49) rfl ?_
  rw [show ((4941079765940194645 : Int64) ^^^ (575217391 : Int64)) = (4941079765373506490 : Int64) from by decide +kernel]
  refine o_l2i X3 hx (pc' := 51) (hb hby d22_50) rfl ?_
  rw [show ((4941079765373506490 : Int64).toInt32) = (502617018 : Int32) from by decide +kernel]
  exact finI X3 hx hlk hret (hb hby d22_51) (by decide) (by decide) ⟨rfl, rfl, e3⟩
set_option maxRecDepth 65536 in
set_option maxHeartbeats 40000000 in
theorem rmH2 (l : Launch) (Z : State) (a0 : Array Value) (hw : ∀ d ∈ tables_1, d.before a0 Z = true) (h0 : Heap) (n0 : Nat) (Z0 : n0 ≤ h0.size) (a1 : Addr) (a2 : Addr) (ks : ClassId) (hW : Fld Z h0 a1 "com/example/jadoube/jadoube/PositionTable" "width" "I" (.int 2)) (hV : Arv Z h0 a2 ks .long 2 [.long 4, .long 5] (.long 0)) : Ctr l Z (⟨"com/example/jadoube/jadoube/PositionTable", "hash", "([JI)I"⟩ : MethodName) prog_33_method_8_code 6 (some .int) [] ({ frames := 0, cells := 0, slots := 0, locals := 0 } : Room) #[(.ref a1), (.ref a2), (.int (0 : Int32))] h0 (Pure (.int (39773301)) h0) := by
  refine ctr_mk pn_22 (own := "com/example/jadoube/jadoube/PositionTable") (mn := "hash") rfl rfl ?_
  intro p e s m below meth c T0 X0 hx hby hml hZ hown hnm hret hlk e0
  refine o_entry (ef_22_a1_a2_0 m a1 a2) ?_
  refine o_lconst X0 hx (pc' := 1) (v := (0 : Int64)) (hb hby d22_0) rfl rfl ?_
  refine o_lstoreN X0 hx (pc' := 2) (Ls' := #[.val (.ref a1), .val (.ref a2), .val (.int (0 : Int32)), .val (.long (0 : Int64)), .second, .unset]) (hb hby d22_1) rfl rfl ?_
  refine o_iloadN X0 hx (pc' := 3) (hb hby d22_2) rfl rfl ?_
  refine o_istore X0 hx (pc' := 5) (Ls' := #[.val (.ref a1), .val (.ref a2), .val (.int (0 : Int32)), .val (.long (0 : Int64)), .second, .val (.int (0 : Int32))]) (hb hby d22_3) rfl rfl ?_
  refine o_iload X0 hx (pc' := 7) (hb hby d22_5) rfl rfl ?_
  refine o_iloadN X0 hx (pc' := 8) (hb hby d22_7) rfl rfl ?_
  refine o_aloadN X0 hx (pc' := 9) (hb hby d22_8) rfl rfl rfl ?_
  refine o_getfield X0 hx hZ hown (hw _ (List.mem_of_getElem? (i := 58) rfl)) e0 hW (hb hby d22_9) (pc' := 12) rfl ?_
  intro T1 X1 e1
  refine o_iadd X1 hx (pc' := 13) (hb hby d22_12) rfl ?_
  rw [show ((0 : Int32) + (2 : Int32)) = (2 : Int32) from by decide +kernel]
  refine o_icmp_ge X1 hx (pc' := 16) (pt := 33) (hb hby d22_13) rfl (by decide) (by decide) (fun q => absurd (by decide) q) (fun _ => ?_)
  refine o_lloadN X1 hx (pc' := 17) (hb hby d22_16) rfl rfl ?_
  refine o_aloadN X1 hx (pc' := 18) (hb hby d22_17) rfl rfl rfl ?_
  refine o_iload X1 hx (pc' := 20) (hb hby d22_18) rfl rfl ?_
  refine o_laload X1 hx hZ e1 hV (by decide) (v := (.long (4 : Int64))) rfl (hb hby d22_20) (pc' := 21) rfl ?_
  refine o_lxor X1 hx (pc' := 22) (hb hby d22_21) rfl ?_
  rw [show ((0 : Int64) ^^^ (4 : Int64)) = (4 : Int64) from by decide +kernel]
  refine o_ldc2 X1 hx hZ hown (hw _ (List.mem_of_getElem? (i := 150) rfl)) (pc' := 25) (hb hby d22_22) rfl ?_
  refine o_lmul X1 hx (pc' := 26) (hb hby d22_25) rfl ?_
  rw [show ((4 : Int64) * (-7046029254386353131 : Int64)) = (8709371129873690708 : Int64) from by decide +kernel]
  refine o_lstoreN X1 hx (pc' := 27) (Ls' := #[.val (.ref a1), .val (.ref a2), .val (.int (0 : Int32)), .val (.long (8709371129873690708 : Int64)), .second, .val (.int (0 : Int32))]) (hb hby d22_26) rfl rfl ?_
  refine o_iinc X1 hx (pc' := 30) (Ls' := #[.val (.ref a1), .val (.ref a2), .val (.int (0 : Int32)), .val (.long (8709371129873690708 : Int64)), .second, .val (.int (1 : Int32))]) (v := (1 : Int32)) (hb hby d22_27) rfl rfl rfl rfl ?_
  refine o_goto X1 hx (pc' := 5) (hb hby d22_30) (by decide) (by decide) ?_
  refine o_iload X1 hx (pc' := 7) (hb hby d22_5) rfl rfl ?_
  refine o_iloadN X1 hx (pc' := 8) (hb hby d22_7) rfl rfl ?_
  refine o_aloadN X1 hx (pc' := 9) (hb hby d22_8) rfl rfl rfl ?_
  refine o_getfield X1 hx hZ hown (hw _ (List.mem_of_getElem? (i := 58) rfl)) e1 hW (hb hby d22_9) (pc' := 12) rfl ?_
  intro T2 X2 e2
  refine o_iadd X2 hx (pc' := 13) (hb hby d22_12) rfl ?_
  rw [show ((0 : Int32) + (2 : Int32)) = (2 : Int32) from by decide +kernel]
  refine o_icmp_ge X2 hx (pc' := 16) (pt := 33) (hb hby d22_13) rfl (by decide) (by decide) (fun q => absurd (by decide) q) (fun _ => ?_)
  refine o_lloadN X2 hx (pc' := 17) (hb hby d22_16) rfl rfl ?_
  refine o_aloadN X2 hx (pc' := 18) (hb hby d22_17) rfl rfl rfl ?_
  refine o_iload X2 hx (pc' := 20) (hb hby d22_18) rfl rfl ?_
  refine o_laload X2 hx hZ e2 hV (by decide) (v := (.long (5 : Int64))) rfl (hb hby d22_20) (pc' := 21) rfl ?_
  refine o_lxor X2 hx (pc' := 22) (hb hby d22_21) rfl ?_
  rw [show ((8709371129873690708 : Int64) ^^^ (5 : Int64)) = (8709371129873690705 : Int64) from by decide +kernel]
  refine o_ldc2 X2 hx hZ hown (hw _ (List.mem_of_getElem? (i := 150) rfl)) (pc' := 25) (hb hby d22_22) rfl ?_
  refine o_lmul X2 hx (pc' := 26) (hb hby d22_25) rfl ?_
  rw [show ((8709371129873690705 : Int64) * (-7046029254386353131 : Int64)) = (-6743499019839737179 : Int64) from by decide +kernel]
  refine o_lstoreN X2 hx (pc' := 27) (Ls' := #[.val (.ref a1), .val (.ref a2), .val (.int (0 : Int32)), .val (.long (-6743499019839737179 : Int64)), .second, .val (.int (1 : Int32))]) (hb hby d22_26) rfl rfl ?_
  refine o_iinc X2 hx (pc' := 30) (Ls' := #[.val (.ref a1), .val (.ref a2), .val (.int (0 : Int32)), .val (.long (-6743499019839737179 : Int64)), .second, .val (.int (2 : Int32))]) (v := (1 : Int32)) (hb hby d22_27) rfl rfl rfl rfl ?_
  refine o_goto X2 hx (pc' := 5) (hb hby d22_30) (by decide) (by decide) ?_
  refine o_iload X2 hx (pc' := 7) (hb hby d22_5) rfl rfl ?_
  refine o_iloadN X2 hx (pc' := 8) (hb hby d22_7) rfl rfl ?_
  refine o_aloadN X2 hx (pc' := 9) (hb hby d22_8) rfl rfl rfl ?_
  refine o_getfield X2 hx hZ hown (hw _ (List.mem_of_getElem? (i := 58) rfl)) e2 hW (hb hby d22_9) (pc' := 12) rfl ?_
  intro T3 X3 e3
  refine o_iadd X3 hx (pc' := 13) (hb hby d22_12) rfl ?_
  rw [show ((0 : Int32) + (2 : Int32)) = (2 : Int32) from by decide +kernel]
  refine o_icmp_ge X3 hx (pc' := 16) (pt := 33) (hb hby d22_13) rfl (by decide) (by decide) (fun _ => ?_) (fun q => absurd q (by decide))
  refine o_lloadN X3 hx (pc' := 34) (hb hby d22_33) rfl rfl ?_
  refine o_lloadN X3 hx (pc' := 35) (hb hby d22_34) rfl rfl ?_
  refine o_bipush X3 hx (pc' := 37) (v := (33 : Int32)) (hb hby d22_35) rfl rfl ?_
  refine o_lushr X3 hx (pc' := 38) (hb hby d22_37) rfl ?_
  rw [show (((-6743499019839737179 : Int64).toUInt64 >>> ((33 : Int32) &&& 0x3f).toInt64.toUInt64).toInt64) = (1362437039 : Int64) from by decide +kernel]
  refine o_lxor X3 hx (pc' := 39) (hb hby d22_38) rfl ?_
  rw [show ((-6743499019839737179 : Int64) ^^^ (1362437039 : Int64)) = (-6743499019047874294 : Int64) from by decide +kernel]
  refine o_ldc2 X3 hx hZ hown (hw _ (List.mem_of_getElem? (i := 151) rfl)) (pc' := 42) (hb hby d22_39) rfl ?_
  refine o_lmul X3 hx (pc' := 43) (hb hby d22_42) rfl ?_
  rw [show ((-6743499019047874294 : Int64) * (-49064778989728563 : Int64)) = (-7142582636908716798 : Int64) from by decide +kernel]
  refine o_lstoreN X3 hx (pc' := 44) (Ls' := #[.val (.ref a1), .val (.ref a2), .val (.int (0 : Int32)), .val (.long (-7142582636908716798 : Int64)), .second, .val (.int (2 : Int32))]) (hb hby d22_43) rfl rfl ?_
  refine o_lloadN X3 hx (pc' := 45) (hb hby d22_44) rfl rfl ?_
  refine o_lloadN X3 hx (pc' := 46) (hb hby d22_45) rfl rfl ?_
  refine o_bipush X3 hx (pc' := 48) (v := (33 : Int32)) (hb hby d22_46) rfl rfl ?_
  refine o_lushr X3 hx (pc' := 49) (hb hby d22_48) rfl ?_
  rw [show (((-7142582636908716798 : Int64).toUInt64 >>> ((33 : Int32) &&& 0x3f).toInt64.toUInt64).toInt64) = (1315977591 : Int64) from by decide +kernel]
  refine o_lxor X3 hx (pc' := 50) (hb hby d22_49) rfl ?_
  rw [show ((-7142582636908716798 : Int64) ^^^ (1315977591 : Int64)) = (-7142582638147083147 : Int64) from by decide +kernel]
  refine o_l2i X3 hx (pc' := 51) (hb hby d22_50) rfl ?_
  rw [show ((-7142582638147083147 : Int64).toInt32) = (39773301 : Int32) from by decide +kernel]
  exact finI X3 hx hlk hret (hb hby d22_51) (by decide) (by decide) ⟨rfl, rfl, e3⟩
set_option maxRecDepth 65536 in
set_option maxHeartbeats 40000000 in
theorem rmH3 (l : Launch) (Z : State) (a0 : Array Value) (hw : ∀ d ∈ tables_1, d.before a0 Z = true) (h0 : Heap) (n0 : Nat) (Z0 : n0 ≤ h0.size) (a1 : Addr) (a2 : Addr) (ks : ClassId) (hW : Fld Z h0 a1 "com/example/jadoube/jadoube/PositionTable" "width" "I" (.int 2)) (hV : Arv Z h0 a2 ks .long 2 [.long 8, .long 5] (.long 0)) : Ctr l Z (⟨"com/example/jadoube/jadoube/PositionTable", "hash", "([JI)I"⟩ : MethodName) prog_33_method_8_code 6 (some .int) [] ({ frames := 0, cells := 0, slots := 0, locals := 0 } : Room) #[(.ref a1), (.ref a2), (.int (0 : Int32))] h0 (Pure (.int (-664672017)) h0) := by
  refine ctr_mk pn_22 (own := "com/example/jadoube/jadoube/PositionTable") (mn := "hash") rfl rfl ?_
  intro p e s m below meth c T0 X0 hx hby hml hZ hown hnm hret hlk e0
  refine o_entry (ef_22_a1_a2_0 m a1 a2) ?_
  refine o_lconst X0 hx (pc' := 1) (v := (0 : Int64)) (hb hby d22_0) rfl rfl ?_
  refine o_lstoreN X0 hx (pc' := 2) (Ls' := #[.val (.ref a1), .val (.ref a2), .val (.int (0 : Int32)), .val (.long (0 : Int64)), .second, .unset]) (hb hby d22_1) rfl rfl ?_
  refine o_iloadN X0 hx (pc' := 3) (hb hby d22_2) rfl rfl ?_
  refine o_istore X0 hx (pc' := 5) (Ls' := #[.val (.ref a1), .val (.ref a2), .val (.int (0 : Int32)), .val (.long (0 : Int64)), .second, .val (.int (0 : Int32))]) (hb hby d22_3) rfl rfl ?_
  refine o_iload X0 hx (pc' := 7) (hb hby d22_5) rfl rfl ?_
  refine o_iloadN X0 hx (pc' := 8) (hb hby d22_7) rfl rfl ?_
  refine o_aloadN X0 hx (pc' := 9) (hb hby d22_8) rfl rfl rfl ?_
  refine o_getfield X0 hx hZ hown (hw _ (List.mem_of_getElem? (i := 58) rfl)) e0 hW (hb hby d22_9) (pc' := 12) rfl ?_
  intro T1 X1 e1
  refine o_iadd X1 hx (pc' := 13) (hb hby d22_12) rfl ?_
  rw [show ((0 : Int32) + (2 : Int32)) = (2 : Int32) from by decide +kernel]
  refine o_icmp_ge X1 hx (pc' := 16) (pt := 33) (hb hby d22_13) rfl (by decide) (by decide) (fun q => absurd (by decide) q) (fun _ => ?_)
  refine o_lloadN X1 hx (pc' := 17) (hb hby d22_16) rfl rfl ?_
  refine o_aloadN X1 hx (pc' := 18) (hb hby d22_17) rfl rfl rfl ?_
  refine o_iload X1 hx (pc' := 20) (hb hby d22_18) rfl rfl ?_
  refine o_laload X1 hx hZ e1 hV (by decide) (v := (.long (8 : Int64))) rfl (hb hby d22_20) (pc' := 21) rfl ?_
  refine o_lxor X1 hx (pc' := 22) (hb hby d22_21) rfl ?_
  rw [show ((0 : Int64) ^^^ (8 : Int64)) = (8 : Int64) from by decide +kernel]
  refine o_ldc2 X1 hx hZ hown (hw _ (List.mem_of_getElem? (i := 150) rfl)) (pc' := 25) (hb hby d22_22) rfl ?_
  refine o_lmul X1 hx (pc' := 26) (hb hby d22_25) rfl ?_
  rw [show ((8 : Int64) * (-7046029254386353131 : Int64)) = (-1028001813962170200 : Int64) from by decide +kernel]
  refine o_lstoreN X1 hx (pc' := 27) (Ls' := #[.val (.ref a1), .val (.ref a2), .val (.int (0 : Int32)), .val (.long (-1028001813962170200 : Int64)), .second, .val (.int (0 : Int32))]) (hb hby d22_26) rfl rfl ?_
  refine o_iinc X1 hx (pc' := 30) (Ls' := #[.val (.ref a1), .val (.ref a2), .val (.int (0 : Int32)), .val (.long (-1028001813962170200 : Int64)), .second, .val (.int (1 : Int32))]) (v := (1 : Int32)) (hb hby d22_27) rfl rfl rfl rfl ?_
  refine o_goto X1 hx (pc' := 5) (hb hby d22_30) (by decide) (by decide) ?_
  refine o_iload X1 hx (pc' := 7) (hb hby d22_5) rfl rfl ?_
  refine o_iloadN X1 hx (pc' := 8) (hb hby d22_7) rfl rfl ?_
  refine o_aloadN X1 hx (pc' := 9) (hb hby d22_8) rfl rfl rfl ?_
  refine o_getfield X1 hx hZ hown (hw _ (List.mem_of_getElem? (i := 58) rfl)) e1 hW (hb hby d22_9) (pc' := 12) rfl ?_
  intro T2 X2 e2
  refine o_iadd X2 hx (pc' := 13) (hb hby d22_12) rfl ?_
  rw [show ((0 : Int32) + (2 : Int32)) = (2 : Int32) from by decide +kernel]
  refine o_icmp_ge X2 hx (pc' := 16) (pt := 33) (hb hby d22_13) rfl (by decide) (by decide) (fun q => absurd (by decide) q) (fun _ => ?_)
  refine o_lloadN X2 hx (pc' := 17) (hb hby d22_16) rfl rfl ?_
  refine o_aloadN X2 hx (pc' := 18) (hb hby d22_17) rfl rfl rfl ?_
  refine o_iload X2 hx (pc' := 20) (hb hby d22_18) rfl rfl ?_
  refine o_laload X2 hx hZ e2 hV (by decide) (v := (.long (5 : Int64))) rfl (hb hby d22_20) (pc' := 21) rfl ?_
  refine o_lxor X2 hx (pc' := 22) (hb hby d22_21) rfl ?_
  rw [show ((-1028001813962170200 : Int64) ^^^ (5 : Int64)) = (-1028001813962170195 : Int64) from by decide +kernel]
  refine o_ldc2 X2 hx hZ hown (hw _ (List.mem_of_getElem? (i := 150) rfl)) (pc' := 25) (hb hby d22_22) rfl ?_
  refine o_lmul X2 hx (pc' := 26) (hb hby d22_25) rfl ?_
  rw [show ((-1028001813962170195 : Int64) * (-7046029254386353131 : Int64)) = (1240400530618399281 : Int64) from by decide +kernel]
  refine o_lstoreN X2 hx (pc' := 27) (Ls' := #[.val (.ref a1), .val (.ref a2), .val (.int (0 : Int32)), .val (.long (1240400530618399281 : Int64)), .second, .val (.int (1 : Int32))]) (hb hby d22_26) rfl rfl ?_
  refine o_iinc X2 hx (pc' := 30) (Ls' := #[.val (.ref a1), .val (.ref a2), .val (.int (0 : Int32)), .val (.long (1240400530618399281 : Int64)), .second, .val (.int (2 : Int32))]) (v := (1 : Int32)) (hb hby d22_27) rfl rfl rfl rfl ?_
  refine o_goto X2 hx (pc' := 5) (hb hby d22_30) (by decide) (by decide) ?_
  refine o_iload X2 hx (pc' := 7) (hb hby d22_5) rfl rfl ?_
  refine o_iloadN X2 hx (pc' := 8) (hb hby d22_7) rfl rfl ?_
  refine o_aloadN X2 hx (pc' := 9) (hb hby d22_8) rfl rfl rfl ?_
  refine o_getfield X2 hx hZ hown (hw _ (List.mem_of_getElem? (i := 58) rfl)) e2 hW (hb hby d22_9) (pc' := 12) rfl ?_
  intro T3 X3 e3
  refine o_iadd X3 hx (pc' := 13) (hb hby d22_12) rfl ?_
  rw [show ((0 : Int32) + (2 : Int32)) = (2 : Int32) from by decide +kernel]
  refine o_icmp_ge X3 hx (pc' := 16) (pt := 33) (hb hby d22_13) rfl (by decide) (by decide) (fun _ => ?_) (fun q => absurd q (by decide))
  refine o_lloadN X3 hx (pc' := 34) (hb hby d22_33) rfl rfl ?_
  refine o_lloadN X3 hx (pc' := 35) (hb hby d22_34) rfl rfl ?_
  refine o_bipush X3 hx (pc' := 37) (v := (33 : Int32)) (hb hby d22_35) rfl rfl ?_
  refine o_lushr X3 hx (pc' := 38) (hb hby d22_37) rfl ?_
  rw [show (((1240400530618399281 : Int64).toUInt64 >>> ((33 : Int32) &&& 0x3f).toInt64.toUInt64).toInt64) = (144401626 : Int64) from by decide +kernel]
  refine o_lxor X3 hx (pc' := 39) (hb hby d22_38) rfl ?_
  rw [show ((1240400530618399281 : Int64) ^^^ (144401626 : Int64)) = (1240400530475081451 : Int64) from by decide +kernel]
  refine o_ldc2 X3 hx hZ hown (hw _ (List.mem_of_getElem? (i := 151) rfl)) (pc' := 42) (hb hby d22_39) rfl ?_
  refine o_lmul X3 hx (pc' := 43) (hb hby d22_42) rfl ?_
  rw [show ((1240400530475081451 : Int64) * (-49064778989728563 : Int64)) = (-2293214561291499985 : Int64) from by decide +kernel]
  refine o_lstoreN X3 hx (pc' := 44) (Ls' := #[.val (.ref a1), .val (.ref a2), .val (.int (0 : Int32)), .val (.long (-2293214561291499985 : Int64)), .second, .val (.int (2 : Int32))]) (hb hby d22_43) rfl rfl ?_
  refine o_lloadN X3 hx (pc' := 45) (hb hby d22_44) rfl rfl ?_
  refine o_lloadN X3 hx (pc' := 46) (hb hby d22_45) rfl rfl ?_
  refine o_bipush X3 hx (pc' := 48) (v := (33 : Int32)) (hb hby d22_46) rfl rfl ?_
  refine o_lushr X3 hx (pc' := 49) (hb hby d22_48) rfl ?_
  rw [show (((-2293214561291499985 : Int64).toUInt64 >>> ((33 : Int32) &&& 0x3f).toInt64.toUInt64).toInt64) = (1880518336 : Int64) from by decide +kernel]
  refine o_lxor X3 hx (pc' := 50) (hb hby d22_49) rfl ?_
  rw [show ((-2293214561291499985 : Int64) ^^^ (1880518336 : Int64)) = (-2293214560487610129 : Int64) from by decide +kernel]
  refine o_l2i X3 hx (pc' := 51) (hb hby d22_50) rfl ?_
  rw [show ((-2293214560487610129 : Int64).toInt32) = (-664672017 : Int32) from by decide +kernel]
  exact finI X3 hx hlk hret (hb hby d22_51) (by decide) (by decide) ⟨rfl, rfl, e3⟩
theorem pd_5 : parseMethodDescriptor "([JJ)V" = some ⟨[(.array .long), .long], none⟩ := by decide +kernel
theorem pd_6 : parseMethodDescriptor "(Lcom/example/jadoube/jadoube/Position;)Z" = some ⟨[(.object "com/example/jadoube/jadoube/Position")], some .boolean⟩ := by decide +kernel
theorem d11_0 : decode prog_33_method_7_code 0 = .ok (.aload_n 2, 1) := by decide +kernel
theorem d11_1 : decode prog_33_method_7_code 1 = .ok (.lconst 0, 1) := by decide +kernel
theorem d11_2 : decode prog_33_method_7_code 2 = .ok (.invokestatic 112, 3) := by decide +kernel
theorem d11_5 : decode prog_33_method_7_code 5 = .ok (.aload_n 1, 1) := by decide +kernel
theorem d11_6 : decode prog_33_method_7_code 6 = .ok (.iconst 1, 1) := by decide +kernel
theorem d11_7 : decode prog_33_method_7_code 7 = .ok (.invokevirtual 18, 3) := by decide +kernel
theorem d11_10 : decode prog_33_method_7_code 10 = .ok (.lstore_n 3, 1) := by decide +kernel
theorem d11_11 : decode prog_33_method_7_code 11 = .ok (.aload_n 1, 1) := by decide +kernel
theorem d11_12 : decode prog_33_method_7_code 12 = .ok (.iconst 0, 1) := by decide +kernel
theorem d11_13 : decode prog_33_method_7_code 13 = .ok (.invokevirtual 18, 3) := by decide +kernel
theorem d11_16 : decode prog_33_method_7_code 16 = .ok (.lload_n 3, 1) := by decide +kernel
theorem d11_17 : decode prog_33_method_7_code 17 = .ok (.lor, 1) := by decide +kernel
theorem d11_18 : decode prog_33_method_7_code 18 = .ok (.lstore 5, 2) := by decide +kernel
theorem d11_20 : decode prog_33_method_7_code 20 = .ok (.aload_n 2, 1) := by decide +kernel
theorem d11_21 : decode prog_33_method_7_code 21 = .ok (.iconst 0, 1) := by decide +kernel
theorem d11_22 : decode prog_33_method_7_code 22 = .ok (.lload 5, 2) := by decide +kernel
theorem d11_24 : decode prog_33_method_7_code 24 = .ok (.lastore, 1) := by decide +kernel
theorem d11_25 : decode prog_33_method_7_code 25 = .ok (.iconst 0, 1) := by decide +kernel
theorem d11_26 : decode prog_33_method_7_code 26 = .ok (.istore 7, 2) := by decide +kernel
theorem d11_28 : decode prog_33_method_7_code 28 = .ok (.lload 5, 2) := by decide +kernel
theorem d11_30 : decode prog_33_method_7_code 30 = .ok (.lstore 8, 2) := by decide +kernel
theorem d11_32 : decode prog_33_method_7_code 32 = .ok (.lload 8, 2) := by decide +kernel
theorem d11_34 : decode prog_33_method_7_code 34 = .ok (.lconst 0, 1) := by decide +kernel
theorem d11_35 : decode prog_33_method_7_code 35 = .ok (.lcmp, 1) := by decide +kernel
theorem d11_36 : decode prog_33_method_7_code 36 = .ok (.ifCond .eq 63, 3) := by decide +kernel
theorem d11_39 : decode prog_33_method_7_code 39 = .ok (.lload 8, 2) := by decide +kernel
theorem d11_41 : decode prog_33_method_7_code 41 = .ok (.invokestatic 116, 3) := by decide +kernel
theorem d11_44 : decode prog_33_method_7_code 44 = .ok (.istore 10, 2) := by decide +kernel
theorem d11_46 : decode prog_33_method_7_code 46 = .ok (.aload_n 1, 1) := by decide +kernel
theorem d11_47 : decode prog_33_method_7_code 47 = .ok (.iload 10, 2) := by decide +kernel
theorem d11_49 : decode prog_33_method_7_code 49 = .ok (.invokevirtual 119, 3) := by decide +kernel
theorem d11_52 : decode prog_33_method_7_code 52 = .ok (.i2l, 1) := by decide +kernel
theorem d11_53 : decode prog_33_method_7_code 53 = .ok (.lload_n 3, 1) := by decide +kernel
theorem d11_54 : decode prog_33_method_7_code 54 = .ok (.iload 10, 2) := by decide +kernel
theorem d11_56 : decode prog_33_method_7_code 56 = .ok (.lushr, 1) := by decide +kernel
theorem d11_57 : decode prog_33_method_7_code 57 = .ok (.lconst 1, 1) := by decide +kernel
theorem d11_58 : decode prog_33_method_7_code 58 = .ok (.land, 1) := by decide +kernel
theorem d11_59 : decode prog_33_method_7_code 59 = .ok (.iconst 3, 1) := by decide +kernel
theorem d11_60 : decode prog_33_method_7_code 60 = .ok (.lshl, 1) := by decide +kernel
theorem d11_61 : decode prog_33_method_7_code 61 = .ok (.lor, 1) := by decide +kernel
theorem d11_62 : decode prog_33_method_7_code 62 = .ok (.lstore 11, 2) := by decide +kernel
theorem d11_64 : decode prog_33_method_7_code 64 = .ok (.aload_n 2, 1) := by decide +kernel
theorem d11_65 : decode prog_33_method_7_code 65 = .ok (.iconst 1, 1) := by decide +kernel
theorem d11_66 : decode prog_33_method_7_code 66 = .ok (.iload 7, 2) := by decide +kernel
theorem d11_68 : decode prog_33_method_7_code 68 = .ok (.bipush 64, 2) := by decide +kernel
theorem d11_70 : decode prog_33_method_7_code 70 = .ok (.idiv, 1) := by decide +kernel
theorem d11_71 : decode prog_33_method_7_code 71 = .ok (.iadd, 1) := by decide +kernel
theorem d11_72 : decode prog_33_method_7_code 72 = .ok (.dup2, 1) := by decide +kernel
theorem d11_73 : decode prog_33_method_7_code 73 = .ok (.laload, 1) := by decide +kernel
theorem d11_74 : decode prog_33_method_7_code 74 = .ok (.lload 11, 2) := by decide +kernel
theorem d11_76 : decode prog_33_method_7_code 76 = .ok (.iload 7, 2) := by decide +kernel
theorem d11_78 : decode prog_33_method_7_code 78 = .ok (.bipush 63, 2) := by decide +kernel
theorem d11_80 : decode prog_33_method_7_code 80 = .ok (.iand, 1) := by decide +kernel
theorem d11_81 : decode prog_33_method_7_code 81 = .ok (.lshl, 1) := by decide +kernel
theorem d11_82 : decode prog_33_method_7_code 82 = .ok (.lor, 1) := by decide +kernel
theorem d11_83 : decode prog_33_method_7_code 83 = .ok (.lastore, 1) := by decide +kernel
theorem d11_84 : decode prog_33_method_7_code 84 = .ok (.lload 8, 2) := by decide +kernel
theorem d11_86 : decode prog_33_method_7_code 86 = .ok (.lload 8, 2) := by decide +kernel
theorem d11_88 : decode prog_33_method_7_code 88 = .ok (.lconst 1, 1) := by decide +kernel
theorem d11_89 : decode prog_33_method_7_code 89 = .ok (.lsub, 1) := by decide +kernel
theorem d11_90 : decode prog_33_method_7_code 90 = .ok (.land, 1) := by decide +kernel
theorem d11_91 : decode prog_33_method_7_code 91 = .ok (.lstore 8, 2) := by decide +kernel
theorem d11_93 : decode prog_33_method_7_code 93 = .ok (.iinc 7 4, 3) := by decide +kernel
theorem d11_96 : decode prog_33_method_7_code 96 = .ok (.goto (-64), 3) := by decide +kernel
theorem d11_99 : decode prog_33_method_7_code 99 = .ok (.aload_n 0, 1) := by decide +kernel
theorem d11_100 : decode prog_33_method_7_code 100 = .ok (.getfield 12, 3) := by decide +kernel
theorem d11_103 : decode prog_33_method_7_code 103 = .ok (.aload_n 1, 1) := by decide +kernel
theorem d11_104 : decode prog_33_method_7_code 104 = .ok (.invokevirtual 123, 3) := by decide +kernel
theorem d11_107 : decode prog_33_method_7_code 107 = .ok (.ifCond .eq 16, 3) := by decide +kernel
theorem d11_123 : decode prog_33_method_7_code 123 = .ok (.lconst 0, 1) := by decide +kernel
theorem d11_124 : decode prog_33_method_7_code 124 = .ok (.lstore 8, 2) := by decide +kernel
theorem d11_126 : decode prog_33_method_7_code 126 = .ok (.aload_n 1, 1) := by decide +kernel
theorem d11_127 : decode prog_33_method_7_code 127 = .ok (.invokevirtual 131, 3) := by decide +kernel
theorem d11_130 : decode prog_33_method_7_code 130 = .ok (.aload_n 1, 1) := by decide +kernel
theorem d11_131 : decode prog_33_method_7_code 131 = .ok (.invokevirtual 134, 3) := by decide +kernel
theorem d11_134 : decode prog_33_method_7_code 134 = .ok (.iconst 1, 1) := by decide +kernel
theorem d11_135 : decode prog_33_method_7_code 135 = .ok (.ishl, 1) := by decide +kernel
theorem d11_136 : decode prog_33_method_7_code 136 = .ok (.ior, 1) := by decide +kernel
theorem d11_137 : decode prog_33_method_7_code 137 = .ok (.i2l, 1) := by decide +kernel
theorem d11_138 : decode prog_33_method_7_code 138 = .ok (.lload 8, 2) := by decide +kernel
theorem d11_140 : decode prog_33_method_7_code 140 = .ok (.iconst 5, 1) := by decide +kernel
theorem d11_141 : decode prog_33_method_7_code 141 = .ok (.lshl, 1) := by decide +kernel
theorem d11_142 : decode prog_33_method_7_code 142 = .ok (.lor, 1) := by decide +kernel
theorem d11_143 : decode prog_33_method_7_code 143 = .ok (.lstore 10, 2) := by decide +kernel
theorem d11_145 : decode prog_33_method_7_code 145 = .ok (.aload_n 2, 1) := by decide +kernel
theorem d11_146 : decode prog_33_method_7_code 146 = .ok (.iconst 1, 1) := by decide +kernel
theorem d11_147 : decode prog_33_method_7_code 147 = .ok (.iload 7, 2) := by decide +kernel
theorem d11_149 : decode prog_33_method_7_code 149 = .ok (.bipush 64, 2) := by decide +kernel
theorem d11_151 : decode prog_33_method_7_code 151 = .ok (.idiv, 1) := by decide +kernel
theorem d11_152 : decode prog_33_method_7_code 152 = .ok (.iadd, 1) := by decide +kernel
theorem d11_153 : decode prog_33_method_7_code 153 = .ok (.dup2, 1) := by decide +kernel
theorem d11_154 : decode prog_33_method_7_code 154 = .ok (.laload, 1) := by decide +kernel
theorem d11_155 : decode prog_33_method_7_code 155 = .ok (.lload 10, 2) := by decide +kernel
theorem d11_157 : decode prog_33_method_7_code 157 = .ok (.iload 7, 2) := by decide +kernel
theorem d11_159 : decode prog_33_method_7_code 159 = .ok (.bipush 63, 2) := by decide +kernel
theorem d11_161 : decode prog_33_method_7_code 161 = .ok (.iand, 1) := by decide +kernel
theorem d11_162 : decode prog_33_method_7_code 162 = .ok (.lshl, 1) := by decide +kernel
theorem d11_163 : decode prog_33_method_7_code 163 = .ok (.lor, 1) := by decide +kernel
theorem d11_164 : decode prog_33_method_7_code 164 = .ok (.lastore, 1) := by decide +kernel
theorem d11_165 : decode prog_33_method_7_code 165 = .ok (.iload 7, 2) := by decide +kernel
theorem d11_167 : decode prog_33_method_7_code 167 = .ok (.bipush 63, 2) := by decide +kernel
theorem d11_169 : decode prog_33_method_7_code 169 = .ok (.iand, 1) := by decide +kernel
theorem d11_170 : decode prog_33_method_7_code 170 = .ok (.bipush 9, 2) := by decide +kernel
theorem d11_172 : decode prog_33_method_7_code 172 = .ok (.iadd, 1) := by decide +kernel
theorem d11_173 : decode prog_33_method_7_code 173 = .ok (.bipush 64, 2) := by decide +kernel
theorem d11_175 : decode prog_33_method_7_code 175 = .ok (.if_icmp .le 26, 3) := by decide +kernel
theorem d11_201 : decode prog_33_method_7_code 201 = .ok (.return_, 1) := by decide +kernel
theorem pn_11 : plainFor (⟨"com/example/jadoube/jadoube/PositionTable", "encode", "(Lcom/example/jadoube/jadoube/Position;[J)V"⟩ : MethodName) = true := plainFor_of_name (by show plainName "com/example/jadoube/jadoube/PositionTable" = true; first | (simp [plainName, overriddenIn]; done) | decide +kernel)
theorem ef_11 (m : MethodId) (a1 : Addr) (a2 : Addr) (a3 : Addr) : entryFrame m #[(.ref a1), (.ref a2), (.ref a3)] 13 = mkF m 0 #[.val (.ref a1), .val (.ref a2), .val (.ref a3), .unset, .unset, .unset, .unset, .unset, .unset, .unset, .unset, .unset, .unset] [] := by first | (simp [entryFrame, mkF, argsToLocals, Value.category]; done) | rfl
set_option maxRecDepth 65536 in
set_option maxHeartbeats 40000000 in
theorem rmEN0 (l : Launch) (Z : State) (a0 : Array Value) (hw : ∀ d ∈ tables_1, d.before a0 Z = true) (h0 : Heap) (n0 : Nat) (Z0 : n0 ≤ h0.size) (a1 : Addr) (a2 : Addr) (a3 : Addr) (ge : Addr) (ks : ClassId) (x y : Int64) (u : Value) (w : Int32) (hP : Pos Z h0 a1 a2 1) (hE : Exa Z h0 a1 "com/example/jadoube/jadoube/PositionTable") (hG : Fld Z h0 a1 "com/example/jadoube/jadoube/PositionTable" "generator" "Lcom/example/jadoube/jadoube/MoveGenerator;" (.ref ge)) (gE : Exa Z h0 ge "com/example/jadoube/jadoube/MoveGenerator") (gM : Fld Z h0 ge "com/example/jadoube/jadoube/MoveGenerator" "moves" "[I" u) (gS : Fld Z h0 ge "com/example/jadoube/jadoube/MoveGenerator" "size" "I" (.int w)) (hV : Arv Z h0 a3 ks .long 2 [.long x, .long y] (.long 0)) (lag : a1 < ge) (lgs : ge < a3) (gge : n0 ≤ ge) (gsc : n0 ≤ a3) : Ctr l Z (⟨"com/example/jadoube/jadoube/PositionTable", "encode", "(Lcom/example/jadoube/jadoube/Position;[J)V"⟩ : MethodName) prog_33_method_7_code 13 none [] ({ frames := 4, cells := 0, slots := 0, locals := 57 } : Room) #[(.ref a1), (.ref a2), (.ref a3)] h0 (fun v h L => v = none ∧ Fr n0 L ∧ Keep h0 h [a3, ge] ∧ Arv Z h a3 ks .long 2 [.long 1, .long 5] (.long 0) ∧ Fld Z h ge "com/example/jadoube/jadoube/MoveGenerator" "moves" "[I" .null ∧ Fld Z h ge "com/example/jadoube/jadoube/MoveGenerator" "size" "I" (.int 0)) := by
  refine ctr_mk pn_11 (own := "com/example/jadoube/jadoube/PositionTable") (mn := "encode") rfl rfl ?_
  intro p e s m below meth c T0 X0 hx hby hml hZ hown hnm hret hlk e0
  refine o_entry (ef_11 m a1 a2 a3) ?_
  have g_a3 := gsc
  have g_ge := gge
  have ne_ge_a3 : ge ≠ a3 := Nat.ne_of_lt lgs
  have ne_a1_ge : a1 ≠ ge := Nat.ne_of_lt lag
  have ne_a1_a3 : a1 ≠ a3 := Nat.ne_of_lt (Nat.lt_trans lag lgs)
  have NN := Fr.nil n0
  have ZZ := Z0
  have KK := Keep.refl h0 [a3, ge]
  refine o_aloadN X0 hx (pc' := 1) (hb hby d11_0) rfl rfl rfl ?_
  refine o_lconst X0 hx (pc' := 2) (v := (0 : Int64)) (hb hby d11_1) rfl rfl ?_
  refine o_callS X0 hx hZ [(.ref a3), (.long (0 : Int64))] (rm12 l Z a0 hw h0 n0 ZZ a3 ks _ _ hV gsc) hown (hw _ (List.mem_of_getElem? (i := 94) rfl)) (hw _ (List.mem_of_getElem? (i := 95) rfl)) (hw _ (List.mem_of_getElem? (i := 96) rfl)) (hw _ (List.mem_of_getElem? (i := 97) rfl)) (by decide) pd_5 e0 (by rw [hml]; rfl) rfl rfl rfl (hb hby d11_2) (pc' := 5) rfl 0 (Nat.le_of_eq rfl) (by decide) (by decide) (by decide) (by decide) ?_
  intro T1 v1 L1 X1 hQ1
  obtain ⟨rfl, Nq, Kq, hVq⟩ := hQ1
  have NN := Fr.app NN Nq
  have KK := KK.trans Kq (by intro x hx; simp only [List.mem_cons, List.not_mem_nil, or_false] at hx; subst hx; first | (left; simp; done) | (right; first | exact sz_none))
  have ZZ := Nat.le_trans ZZ Kq.1
  have hG := hG.keep Kq (by simp only [List.mem_cons, List.not_mem_nil, or_false, not_or]; exact ne_a1_a3)
  have gE := gE.keep Kq
  have gM := gM.keep Kq (by simp only [List.mem_cons, List.not_mem_nil, or_false, not_or]; exact ne_ge_a3)
  have gS := gS.keep Kq (by simp only [List.mem_cons, List.not_mem_nil, or_false, not_or]; exact ne_ge_a3)
  have hE := hE.keep Kq
  have hV := hVq
  have hP := hP.keep Kq (by intro x hx; simp only [List.mem_cons, List.not_mem_nil, or_false] at hx; subst hx; exact Nat.le_of_lt (Nat.lt_trans lag lgs))
  have hPo := hP
  obtain ⟨bp, bc, kp, kc, lt_a, lt_bp, lt_bc, pE, pPi, pCo, pSi, pCa, pEn, pC9, pV1, pV2⟩ := hPo
  show Dn p e below _ (T1.setTop (mkF m 5 #[.val (.ref a1), .val (.ref a2), .val (.ref a3), .unset, .unset, .unset, .unset, .unset, .unset, .unset, .unset, .unset, .unset] []))
  refine o_aloadN X1 hx (pc' := 6) (hb hby d11_5) rfl rfl rfl ?_
  refine o_iconst X1 hx (pc' := 7) (v := (1 : Int32)) (hb hby d11_6) rfl rfl ?_
  refine o_callVP X1 hx hZ a2 [(.int (1 : Int32))] (rm6 l Z a0 hw T1.heap n0 ZZ a2 (1 : Int32) bc kc _ (0 : Int64) pCo pV2 (by decide) rfl) hown (hw _ (List.mem_of_getElem? (i := 46) rfl)) (hw _ (List.mem_of_getElem? (i := 47) rfl)) (hw _ (List.mem_of_getElem? (i := 49) rfl)) (hw _ (List.mem_of_getElem? (i := 48) rfl)) (hw _ (List.mem_of_getElem? (i := 7) rfl)) (hw _ (List.mem_of_getElem? (i := 50) rfl)) (by decide) pE pd_3 rfl (by rw [hml]; rfl) rfl rfl rfl (hb hby d11_7) (pc' := 10) rfl 0 (Nat.le_of_eq rfl) (by decide) (by decide) rfl rfl (by decide) (by decide) ?_
  intro T2 X2 e2
  show Dn p e below _ (T2.setTop (mkF m 10 #[.val (.ref a1), .val (.ref a2), .val (.ref a3), .unset, .unset, .unset, .unset, .unset, .unset, .unset, .unset, .unset, .unset] [(.long (0 : Int64))]))
  refine o_lstoreN X2 hx (pc' := 11) (Ls' := #[.val (.ref a1), .val (.ref a2), .val (.ref a3), .val (.long (0 : Int64)), .second, .unset, .unset, .unset, .unset, .unset, .unset, .unset, .unset]) (hb hby d11_10) rfl rfl ?_
  refine o_aloadN X2 hx (pc' := 12) (hb hby d11_11) rfl rfl rfl ?_
  refine o_iconst X2 hx (pc' := 13) (v := (0 : Int32)) (hb hby d11_12) rfl rfl ?_
  refine o_callVP X2 hx hZ a2 [(.int (0 : Int32))] (rm6 l Z a0 hw T1.heap n0 ZZ a2 (0 : Int32) bc kc _ (1 : Int64) pCo pV2 (by decide) rfl) hown (hw _ (List.mem_of_getElem? (i := 46) rfl)) (hw _ (List.mem_of_getElem? (i := 47) rfl)) (hw _ (List.mem_of_getElem? (i := 49) rfl)) (hw _ (List.mem_of_getElem? (i := 48) rfl)) (hw _ (List.mem_of_getElem? (i := 7) rfl)) (hw _ (List.mem_of_getElem? (i := 50) rfl)) (by decide) pE pd_3 e2 (by rw [hml]; rfl) rfl rfl rfl (hb hby d11_13) (pc' := 16) rfl 0 (Nat.le_of_eq rfl) (by decide) (by decide) rfl rfl (by decide) (by decide) ?_
  intro T3 X3 e3
  show Dn p e below _ (T3.setTop (mkF m 16 #[.val (.ref a1), .val (.ref a2), .val (.ref a3), .val (.long (0 : Int64)), .second, .unset, .unset, .unset, .unset, .unset, .unset, .unset, .unset] [(.long (1 : Int64))]))
  refine o_lloadN X3 hx (pc' := 17) (hb hby d11_16) rfl rfl ?_
  refine o_lor X3 hx (pc' := 18) (hb hby d11_17) rfl ?_
  rw [show ((1 : Int64) ||| (0 : Int64)) = (1 : Int64) from by decide +kernel]
  refine o_lstore X3 hx (pc' := 20) (Ls' := #[.val (.ref a1), .val (.ref a2), .val (.ref a3), .val (.long (0 : Int64)), .second, .val (.long (1 : Int64)), .second, .unset, .unset, .unset, .unset, .unset, .unset]) (hb hby d11_18) rfl rfl ?_
  refine o_aloadN X3 hx (pc' := 21) (hb hby d11_20) rfl rfl rfl ?_
  refine o_iconst X3 hx (pc' := 22) (v := (0 : Int32)) (hb hby d11_21) rfl rfl ?_
  refine o_lload X3 hx (pc' := 24) (hb hby d11_22) rfl rfl ?_
  refine o_lastore X3 hx hZ e3 hV (by decide) 0 rfl (Nat.le_of_ble_eq_true rfl) (hb hby d11_24) (pc' := 25) rfl ?_
  intro T4 h4 X4 e4 W4 V4
  have NN := Fr.snoc X4 NN g_a3
  have KK := KK.wr W4 (Or.inl (List.mem_of_getElem? (i := 0) rfl))
  have ZZ := Nat.le_trans ZZ (Keep.of_wr W4).1
  have hG := hG.other W4 (Or.inl ne_a1_a3)
  have gE := gE.wr W4
  have gM := gM.other W4 (Or.inl ne_ge_a3)
  have gS := gS.other W4 (Or.inl ne_ge_a3)
  have hE := hE.wr W4
  have hV : Arv Z h4 a3 ks .long 2 [.long 1, .long 0] (.long 0) := V4
  have hP := hP.keep (Keep.of_wr W4) (by intro x hx; simp only [List.mem_cons, List.not_mem_nil, or_false] at hx; subst hx; exact Nat.le_of_lt (Nat.lt_trans lag lgs))
  have hPo := hP
  obtain ⟨bp, bc, kp, kc, lt_a, lt_bp, lt_bc, pE, pPi, pCo, pSi, pCa, pEn, pC9, pV1, pV2⟩ := hPo
  refine o_iconst X4 hx (pc' := 26) (v := (0 : Int32)) (hb hby d11_25) rfl rfl ?_
  refine o_istore X4 hx (pc' := 28) (Ls' := #[.val (.ref a1), .val (.ref a2), .val (.ref a3), .val (.long (0 : Int64)), .second, .val (.long (1 : Int64)), .second, .val (.int (0 : Int32)), .unset, .unset, .unset, .unset, .unset]) (hb hby d11_26) rfl rfl ?_
  refine o_lload X4 hx (pc' := 30) (hb hby d11_28) rfl rfl ?_
  refine o_lstore X4 hx (pc' := 32) (Ls' := #[.val (.ref a1), .val (.ref a2), .val (.ref a3), .val (.long (0 : Int64)), .second, .val (.long (1 : Int64)), .second, .val (.int (0 : Int32)), .val (.long (1 : Int64)), .second, .unset, .unset, .unset]) (hb hby d11_30) rfl rfl ?_
  refine o_lload X4 hx (pc' := 34) (hb hby d11_32) rfl rfl ?_
  refine o_lconst X4 hx (pc' := 35) (v := (0 : Int64)) (hb hby d11_34) rfl rfl ?_
  refine o_lcmp X4 hx (pc' := 36) (hb hby d11_35) rfl ?_
  refine o_lif_eq X4 hx (pc' := 39) (pt := 99) (hb hby d11_36) rfl (by decide) (by decide) (fun q => absurd q (by decide)) (fun _ => ?_)
  refine o_lload X4 hx (pc' := 41) (hb hby d11_39) rfl rfl ?_
  refine o_callSP X4 hx hZ [(.long (1 : Int64))] (rmP13_1 l Z a0 hw h4 n0 ZZ) hown (hw _ (List.mem_of_getElem? (i := 98) rfl)) (hw _ (List.mem_of_getElem? (i := 99) rfl)) (hw _ (List.mem_of_getElem? (i := 53) rfl)) (hw _ (List.mem_of_getElem? (i := 100) rfl)) (by decide) pd_1 e4 (by rw [hml]; rfl) rfl rfl rfl (hb hby d11_41) (pc' := 44) rfl 0 (Nat.le_of_eq rfl) (by decide) (by decide) rfl rfl (by decide) (by decide) ?_
  intro T5 X5 e5
  show Dn p e below _ (T5.setTop (mkF m 44 #[.val (.ref a1), .val (.ref a2), .val (.ref a3), .val (.long (0 : Int64)), .second, .val (.long (1 : Int64)), .second, .val (.int (0 : Int32)), .val (.long (1 : Int64)), .second, .unset, .unset, .unset] [(.int (0 : Int32))]))
  refine o_istore X5 hx (pc' := 46) (Ls' := #[.val (.ref a1), .val (.ref a2), .val (.ref a3), .val (.long (0 : Int64)), .second, .val (.long (1 : Int64)), .second, .val (.int (0 : Int32)), .val (.long (1 : Int64)), .second, .val (.int (0 : Int32)), .unset, .unset]) (hb hby d11_44) rfl rfl ?_
  refine o_aloadN X5 hx (pc' := 47) (hb hby d11_46) rfl rfl rfl ?_
  refine o_iload X5 hx (pc' := 49) (hb hby d11_47) rfl rfl ?_
  refine o_callVP X5 hx hZ a2 [(.int (0 : Int32))] (rmKO0 l Z a0 hw h4 n0 ZZ a2 a1 hP) hown (hw _ (List.mem_of_getElem? (i := 105) rfl)) (hw _ (List.mem_of_getElem? (i := 106) rfl)) (hw _ (List.mem_of_getElem? (i := 108) rfl)) (hw _ (List.mem_of_getElem? (i := 107) rfl)) (hw _ (List.mem_of_getElem? (i := 7) rfl)) (hw _ (List.mem_of_getElem? (i := 109) rfl)) (by decide) pE pd_0 e5 (by rw [hml]; rfl) rfl rfl rfl (hb hby d11_49) (pc' := 52) rfl 0 (Nat.le_of_eq rfl) (by decide) (by decide) rfl rfl (by decide) (by decide) ?_
  intro T6 X6 e6
  show Dn p e below _ (T6.setTop (mkF m 52 #[.val (.ref a1), .val (.ref a2), .val (.ref a3), .val (.long (0 : Int64)), .second, .val (.long (1 : Int64)), .second, .val (.int (0 : Int32)), .val (.long (1 : Int64)), .second, .val (.int (0 : Int32)), .unset, .unset] [(.int (5 : Int32))]))
  refine o_i2l X6 hx (pc' := 53) (hb hby d11_52) rfl ?_
  rw [show ((5 : Int32).toInt64) = (5 : Int64) from by decide +kernel]
  refine o_lloadN X6 hx (pc' := 54) (hb hby d11_53) rfl rfl ?_
  refine o_iload X6 hx (pc' := 56) (hb hby d11_54) rfl rfl ?_
  refine o_lushr X6 hx (pc' := 57) (hb hby d11_56) rfl ?_
  rw [show (((0 : Int64).toUInt64 >>> ((0 : Int32) &&& 0x3f).toInt64.toUInt64).toInt64) = (0 : Int64) from by decide +kernel]
  refine o_lconst X6 hx (pc' := 58) (v := (1 : Int64)) (hb hby d11_57) rfl rfl ?_
  refine o_land X6 hx (pc' := 59) (hb hby d11_58) rfl ?_
  rw [show ((0 : Int64) &&& (1 : Int64)) = (0 : Int64) from by decide +kernel]
  refine o_iconst X6 hx (pc' := 60) (v := (3 : Int32)) (hb hby d11_59) rfl rfl ?_
  refine o_lshl X6 hx (pc' := 61) (hb hby d11_60) rfl ?_
  rw [show ((0 : Int64) <<< ((3 : Int32) &&& 0x3f).toInt64) = (0 : Int64) from by decide +kernel]
  refine o_lor X6 hx (pc' := 62) (hb hby d11_61) rfl ?_
  rw [show ((5 : Int64) ||| (0 : Int64)) = (5 : Int64) from by decide +kernel]
  refine o_lstore X6 hx (pc' := 64) (Ls' := #[.val (.ref a1), .val (.ref a2), .val (.ref a3), .val (.long (0 : Int64)), .second, .val (.long (1 : Int64)), .second, .val (.int (0 : Int32)), .val (.long (1 : Int64)), .second, .val (.int (0 : Int32)), .val (.long (5 : Int64)), .second]) (hb hby d11_62) rfl rfl ?_
  refine o_aloadN X6 hx (pc' := 65) (hb hby d11_64) rfl rfl rfl ?_
  refine o_iconst X6 hx (pc' := 66) (v := (1 : Int32)) (hb hby d11_65) rfl rfl ?_
  refine o_iload X6 hx (pc' := 68) (hb hby d11_66) rfl rfl ?_
  refine o_bipush X6 hx (pc' := 70) (v := (64 : Int32)) (hb hby d11_68) rfl rfl ?_
  refine o_idiv X6 hx (pc' := 71) (hb hby d11_70) rfl (by decide) ?_
  rw [show ((0 : Int32) / (64 : Int32)) = (0 : Int32) from by decide +kernel]
  refine o_iadd X6 hx (pc' := 72) (hb hby d11_71) rfl ?_
  rw [show ((1 : Int32) + (0 : Int32)) = (1 : Int32) from by decide +kernel]
  refine o_dup2 X6 hx (pc' := 73) (hb hby d11_72) rfl rfl rfl ?_
  refine o_laload X6 hx hZ e6 hV (by decide) (v := (.long (0 : Int64))) rfl (hb hby d11_73) (pc' := 74) rfl ?_
  refine o_lload X6 hx (pc' := 76) (hb hby d11_74) rfl rfl ?_
  refine o_iload X6 hx (pc' := 78) (hb hby d11_76) rfl rfl ?_
  refine o_bipush X6 hx (pc' := 80) (v := (63 : Int32)) (hb hby d11_78) rfl rfl ?_
  refine o_iand X6 hx (pc' := 81) (hb hby d11_80) rfl ?_
  rw [show ((0 : Int32) &&& (63 : Int32)) = (0 : Int32) from by decide +kernel]
  refine o_lshl X6 hx (pc' := 82) (hb hby d11_81) rfl ?_
  rw [show ((5 : Int64) <<< ((0 : Int32) &&& 0x3f).toInt64) = (5 : Int64) from by decide +kernel]
  refine o_lor X6 hx (pc' := 83) (hb hby d11_82) rfl ?_
  rw [show ((0 : Int64) ||| (5 : Int64)) = (5 : Int64) from by decide +kernel]
  refine o_lastore X6 hx hZ e6 hV (by decide) 1 rfl (Nat.le_of_ble_eq_true rfl) (hb hby d11_83) (pc' := 84) rfl ?_
  intro T7 h7 X7 e7 W7 V7
  have NN := Fr.snoc X7 NN g_a3
  have KK := KK.wr W7 (Or.inl (List.mem_of_getElem? (i := 0) rfl))
  have ZZ := Nat.le_trans ZZ (Keep.of_wr W7).1
  have hG := hG.other W7 (Or.inl ne_a1_a3)
  have gE := gE.wr W7
  have gM := gM.other W7 (Or.inl ne_ge_a3)
  have gS := gS.other W7 (Or.inl ne_ge_a3)
  have hE := hE.wr W7
  have hV : Arv Z h7 a3 ks .long 2 [.long 1, .long 5] (.long 0) := V7
  have hP := hP.keep (Keep.of_wr W7) (by intro x hx; simp only [List.mem_cons, List.not_mem_nil, or_false] at hx; subst hx; exact Nat.le_of_lt (Nat.lt_trans lag lgs))
  have hPo := hP
  obtain ⟨bp, bc, kp, kc, lt_a, lt_bp, lt_bc, pE, pPi, pCo, pSi, pCa, pEn, pC9, pV1, pV2⟩ := hPo
  refine o_lload X7 hx (pc' := 86) (hb hby d11_84) rfl rfl ?_
  refine o_lload X7 hx (pc' := 88) (hb hby d11_86) rfl rfl ?_
  refine o_lconst X7 hx (pc' := 89) (v := (1 : Int64)) (hb hby d11_88) rfl rfl ?_
  refine o_lsub X7 hx (pc' := 90) (hb hby d11_89) rfl ?_
  rw [show ((1 : Int64) - (1 : Int64)) = (0 : Int64) from by decide +kernel]
  refine o_land X7 hx (pc' := 91) (hb hby d11_90) rfl ?_
  rw [show ((1 : Int64) &&& (0 : Int64)) = (0 : Int64) from by decide +kernel]
  refine o_lstore X7 hx (pc' := 93) (Ls' := #[.val (.ref a1), .val (.ref a2), .val (.ref a3), .val (.long (0 : Int64)), .second, .val (.long (1 : Int64)), .second, .val (.int (0 : Int32)), .val (.long (0 : Int64)), .second, .val (.int (0 : Int32)), .val (.long (5 : Int64)), .second]) (hb hby d11_91) rfl rfl ?_
  refine o_iinc X7 hx (pc' := 96) (Ls' := #[.val (.ref a1), .val (.ref a2), .val (.ref a3), .val (.long (0 : Int64)), .second, .val (.long (1 : Int64)), .second, .val (.int (4 : Int32)), .val (.long (0 : Int64)), .second, .val (.int (0 : Int32)), .val (.long (5 : Int64)), .second]) (v := (4 : Int32)) (hb hby d11_93) rfl rfl rfl rfl ?_
  refine o_goto X7 hx (pc' := 32) (hb hby d11_96) (by decide) (by decide) ?_
  refine o_lload X7 hx (pc' := 34) (hb hby d11_32) rfl rfl ?_
  refine o_lconst X7 hx (pc' := 35) (v := (0 : Int64)) (hb hby d11_34) rfl rfl ?_
  refine o_lcmp X7 hx (pc' := 36) (hb hby d11_35) rfl ?_
  refine o_lif_eq X7 hx (pc' := 39) (pt := 99) (hb hby d11_36) rfl (by decide) (by decide) (fun _ => ?_) (fun q => absurd (by decide) q)
  refine o_aloadN X7 hx (pc' := 100) (hb hby d11_99) rfl rfl rfl ?_
  refine o_getfield X7 hx hZ hown (hw _ (List.mem_of_getElem? (i := 44) rfl)) e7 hG (hb hby d11_100) (pc' := 103) rfl ?_
  intro T8 X8 e8
  refine o_aloadN X8 hx (pc' := 104) (hb hby d11_103) rfl rfl rfl ?_
  refine o_callV X8 hx hZ ge [(.ref a2)] (rmCC0 l Z a0 hw h7 n0 ZZ ge a2 a1 _ _ hP gE gM gS (Nat.le_of_lt lag) gge) hown (hw _ (List.mem_of_getElem? (i := 110) rfl)) (hw _ (List.mem_of_getElem? (i := 111) rfl)) (hw _ (List.mem_of_getElem? (i := 113) rfl)) (hw _ (List.mem_of_getElem? (i := 112) rfl)) (hw _ (List.mem_of_getElem? (i := 39) rfl)) (hw _ (List.mem_of_getElem? (i := 114) rfl)) (by decide) gE pd_6 e8 (by rw [hml]; rfl) rfl rfl rfl (hb hby d11_104) (pc' := 107) rfl 0 (Nat.le_of_eq rfl) (by decide) (by decide) (by decide) (by decide) ?_
  intro T9 v9 L9 X9 hQ9
  obtain ⟨rfl, Nq, Kq, gMq, gSq⟩ := hQ9
  have NN := Fr.app NN Nq
  have KK := KK.trans Kq (by intro x hx; simp only [List.mem_cons, List.not_mem_nil, or_false] at hx; subst hx; first | (left; simp; done) | (right; first | exact sz_none))
  have ZZ := Nat.le_trans ZZ Kq.1
  have hG := hG.keep Kq (by simp only [List.mem_cons, List.not_mem_nil, or_false, not_or]; exact ne_a1_ge)
  have gE := gE.keep Kq
  have hE := hE.keep Kq
  have hV := hV.keep Kq (by simp only [List.mem_cons, List.not_mem_nil, or_false, not_or]; exact ne_ge_a3.symm)
  have gM := gMq
  have gS := gSq
  have hP := hP.keep Kq (by intro x hx; simp only [List.mem_cons, List.not_mem_nil, or_false] at hx; subst hx; exact Nat.le_of_lt lag)
  have hPo := hP
  obtain ⟨bp, bc, kp, kc, lt_a, lt_bp, lt_bc, pE, pPi, pCo, pSi, pCa, pEn, pC9, pV1, pV2⟩ := hPo
  show Dn p e below _ (T9.setTop (mkF m 107 #[.val (.ref a1), .val (.ref a2), .val (.ref a3), .val (.long (0 : Int64)), .second, .val (.long (1 : Int64)), .second, .val (.int (4 : Int32)), .val (.long (0 : Int64)), .second, .val (.int (0 : Int32)), .val (.long (5 : Int64)), .second] [(.int (0 : Int32))]))
  refine o_if_eq X9 hx (pc' := 110) (pt := 123) (hb hby d11_107) rfl (by decide) (by decide) (fun _ => ?_) (fun q => absurd (by decide) q)
  refine o_lconst X9 hx (pc' := 124) (v := (0 : Int64)) (hb hby d11_123) rfl rfl ?_
  refine o_lstore X9 hx (pc' := 126) (Ls' := #[.val (.ref a1), .val (.ref a2), .val (.ref a3), .val (.long (0 : Int64)), .second, .val (.long (1 : Int64)), .second, .val (.int (4 : Int32)), .val (.long (0 : Int64)), .second, .val (.int (0 : Int32)), .val (.long (5 : Int64)), .second]) (hb hby d11_124) rfl rfl ?_
  refine o_aloadN X9 hx (pc' := 127) (hb hby d11_126) rfl rfl rfl ?_
  refine o_callVP X9 hx hZ a2 [] (rm17 l Z a0 hw T9.heap n0 ZZ a2 pSi) hown (hw _ (List.mem_of_getElem? (i := 140) rfl)) (hw _ (List.mem_of_getElem? (i := 116) rfl)) (hw _ (List.mem_of_getElem? (i := 118) rfl)) (hw _ (List.mem_of_getElem? (i := 117) rfl)) (hw _ (List.mem_of_getElem? (i := 7) rfl)) (hw _ (List.mem_of_getElem? (i := 119) rfl)) (by decide) pE pd_2 rfl (by rw [hml]; rfl) rfl rfl rfl (hb hby d11_127) (pc' := 130) rfl 0 (Nat.le_of_eq rfl) (by decide) (by decide) rfl rfl (by decide) (by decide) ?_
  intro T10 X10 e10
  show Dn p e below _ (T10.setTop (mkF m 130 #[.val (.ref a1), .val (.ref a2), .val (.ref a3), .val (.long (0 : Int64)), .second, .val (.long (1 : Int64)), .second, .val (.int (4 : Int32)), .val (.long (0 : Int64)), .second, .val (.int (0 : Int32)), .val (.long (5 : Int64)), .second] [(.int (0 : Int32))]))
  refine o_aloadN X10 hx (pc' := 131) (hb hby d11_130) rfl rfl rfl ?_
  refine o_callVP X10 hx hZ a2 [] (rm21 l Z a0 hw T9.heap n0 ZZ a2 pCa) hown (hw _ (List.mem_of_getElem? (i := 141) rfl)) (hw _ (List.mem_of_getElem? (i := 142) rfl)) (hw _ (List.mem_of_getElem? (i := 144) rfl)) (hw _ (List.mem_of_getElem? (i := 143) rfl)) (hw _ (List.mem_of_getElem? (i := 7) rfl)) (hw _ (List.mem_of_getElem? (i := 145) rfl)) (by decide) pE pd_2 e10 (by rw [hml]; rfl) rfl rfl rfl (hb hby d11_131) (pc' := 134) rfl 1 (Nat.le_of_eq rfl) (by decide) (by decide) rfl rfl (by decide) (by decide) ?_
  intro T11 X11 e11
  show Dn p e below _ (T11.setTop (mkF m 134 #[.val (.ref a1), .val (.ref a2), .val (.ref a3), .val (.long (0 : Int64)), .second, .val (.long (1 : Int64)), .second, .val (.int (4 : Int32)), .val (.long (0 : Int64)), .second, .val (.int (0 : Int32)), .val (.long (5 : Int64)), .second] [(.int (0 : Int32)), (.int (0 : Int32))]))
  refine o_iconst X11 hx (pc' := 135) (v := (1 : Int32)) (hb hby d11_134) rfl rfl ?_
  refine o_ishl X11 hx (pc' := 136) (hb hby d11_135) rfl ?_
  rw [show ((0 : Int32) <<< ((1 : Int32) &&& 31)) = (0 : Int32) from by decide +kernel]
  refine o_ior X11 hx (pc' := 137) (hb hby d11_136) rfl ?_
  rw [show ((0 : Int32) ||| (0 : Int32)) = (0 : Int32) from by decide +kernel]
  refine o_i2l X11 hx (pc' := 138) (hb hby d11_137) rfl ?_
  rw [show ((0 : Int32).toInt64) = (0 : Int64) from by decide +kernel]
  refine o_lload X11 hx (pc' := 140) (hb hby d11_138) rfl rfl ?_
  refine o_iconst X11 hx (pc' := 141) (v := (5 : Int32)) (hb hby d11_140) rfl rfl ?_
  refine o_lshl X11 hx (pc' := 142) (hb hby d11_141) rfl ?_
  rw [show ((0 : Int64) <<< ((5 : Int32) &&& 0x3f).toInt64) = (0 : Int64) from by decide +kernel]
  refine o_lor X11 hx (pc' := 143) (hb hby d11_142) rfl ?_
  rw [show ((0 : Int64) ||| (0 : Int64)) = (0 : Int64) from by decide +kernel]
  refine o_lstore X11 hx (pc' := 145) (Ls' := #[.val (.ref a1), .val (.ref a2), .val (.ref a3), .val (.long (0 : Int64)), .second, .val (.long (1 : Int64)), .second, .val (.int (4 : Int32)), .val (.long (0 : Int64)), .second, .val (.long (0 : Int64)), .second, .unset]) (hb hby d11_143) rfl rfl ?_
  refine o_aloadN X11 hx (pc' := 146) (hb hby d11_145) rfl rfl rfl ?_
  refine o_iconst X11 hx (pc' := 147) (v := (1 : Int32)) (hb hby d11_146) rfl rfl ?_
  refine o_iload X11 hx (pc' := 149) (hb hby d11_147) rfl rfl ?_
  refine o_bipush X11 hx (pc' := 151) (v := (64 : Int32)) (hb hby d11_149) rfl rfl ?_
  refine o_idiv X11 hx (pc' := 152) (hb hby d11_151) rfl (by decide) ?_
  rw [show ((4 : Int32) / (64 : Int32)) = (0 : Int32) from by decide +kernel]
  refine o_iadd X11 hx (pc' := 153) (hb hby d11_152) rfl ?_
  rw [show ((1 : Int32) + (0 : Int32)) = (1 : Int32) from by decide +kernel]
  refine o_dup2 X11 hx (pc' := 154) (hb hby d11_153) rfl rfl rfl ?_
  refine o_laload X11 hx hZ e11 hV (by decide) (v := (.long (5 : Int64))) rfl (hb hby d11_154) (pc' := 155) rfl ?_
  refine o_lload X11 hx (pc' := 157) (hb hby d11_155) rfl rfl ?_
  refine o_iload X11 hx (pc' := 159) (hb hby d11_157) rfl rfl ?_
  refine o_bipush X11 hx (pc' := 161) (v := (63 : Int32)) (hb hby d11_159) rfl rfl ?_
  refine o_iand X11 hx (pc' := 162) (hb hby d11_161) rfl ?_
  rw [show ((4 : Int32) &&& (63 : Int32)) = (4 : Int32) from by decide +kernel]
  refine o_lshl X11 hx (pc' := 163) (hb hby d11_162) rfl ?_
  rw [show ((0 : Int64) <<< ((4 : Int32) &&& 0x3f).toInt64) = (0 : Int64) from by decide +kernel]
  refine o_lor X11 hx (pc' := 164) (hb hby d11_163) rfl ?_
  rw [show ((5 : Int64) ||| (0 : Int64)) = (5 : Int64) from by decide +kernel]
  refine o_lastore X11 hx hZ e11 hV (by decide) 1 rfl (Nat.le_of_ble_eq_true rfl) (hb hby d11_164) (pc' := 165) rfl ?_
  intro T12 h12 X12 e12 W12 V12
  have NN := Fr.snoc X12 NN g_a3
  have KK := KK.wr W12 (Or.inl (List.mem_of_getElem? (i := 0) rfl))
  have ZZ := Nat.le_trans ZZ (Keep.of_wr W12).1
  have hG := hG.other W12 (Or.inl ne_a1_a3)
  have gE := gE.wr W12
  have hE := hE.wr W12
  have gM := gM.other W12 (Or.inl ne_ge_a3)
  have gS := gS.other W12 (Or.inl ne_ge_a3)
  have hV : Arv Z h12 a3 ks .long 2 [.long 1, .long 5] (.long 0) := V12
  refine o_iload X12 hx (pc' := 167) (hb hby d11_165) rfl rfl ?_
  refine o_bipush X12 hx (pc' := 169) (v := (63 : Int32)) (hb hby d11_167) rfl rfl ?_
  refine o_iand X12 hx (pc' := 170) (hb hby d11_169) rfl ?_
  rw [show ((4 : Int32) &&& (63 : Int32)) = (4 : Int32) from by decide +kernel]
  refine o_bipush X12 hx (pc' := 172) (v := (9 : Int32)) (hb hby d11_170) rfl rfl ?_
  refine o_iadd X12 hx (pc' := 173) (hb hby d11_172) rfl ?_
  rw [show ((4 : Int32) + (9 : Int32)) = (13 : Int32) from by decide +kernel]
  refine o_bipush X12 hx (pc' := 175) (v := (64 : Int32)) (hb hby d11_173) rfl rfl ?_
  refine o_icmp_le X12 hx (pc' := 178) (pt := 201) (hb hby d11_175) rfl (by decide) (by decide) (fun _ => ?_) (fun q => absurd q (by decide))
  exact finV X12 hx hlk hret (hb hby d11_201) (by decide) (by decide) ⟨rfl, NN, by rw [e12]; exact KK, by rw [e12]; exact hV, by rw [e12]; exact gM, by rw [e12]; exact gS⟩
set_option maxRecDepth 65536 in
set_option maxHeartbeats 40000000 in
theorem rmEN1 (l : Launch) (Z : State) (a0 : Array Value) (hw : ∀ d ∈ tables_1, d.before a0 Z = true) (h0 : Heap) (n0 : Nat) (Z0 : n0 ≤ h0.size) (a1 : Addr) (a2 : Addr) (a3 : Addr) (ge : Addr) (ks : ClassId) (x y : Int64) (u : Value) (w : Int32) (hP : Pos Z h0 a1 a2 2) (hE : Exa Z h0 a1 "com/example/jadoube/jadoube/PositionTable") (hG : Fld Z h0 a1 "com/example/jadoube/jadoube/PositionTable" "generator" "Lcom/example/jadoube/jadoube/MoveGenerator;" (.ref ge)) (gE : Exa Z h0 ge "com/example/jadoube/jadoube/MoveGenerator") (gM : Fld Z h0 ge "com/example/jadoube/jadoube/MoveGenerator" "moves" "[I" u) (gS : Fld Z h0 ge "com/example/jadoube/jadoube/MoveGenerator" "size" "I" (.int w)) (hV : Arv Z h0 a3 ks .long 2 [.long x, .long y] (.long 0)) (lag : a1 < ge) (lgs : ge < a3) (gge : n0 ≤ ge) (gsc : n0 ≤ a3) : Ctr l Z (⟨"com/example/jadoube/jadoube/PositionTable", "encode", "(Lcom/example/jadoube/jadoube/Position;[J)V"⟩ : MethodName) prog_33_method_7_code 13 none [] ({ frames := 4, cells := 0, slots := 0, locals := 57 } : Room) #[(.ref a1), (.ref a2), (.ref a3)] h0 (fun v h L => v = none ∧ Fr n0 L ∧ Keep h0 h [a3, ge] ∧ Arv Z h a3 ks .long 2 [.long 2, .long 5] (.long 0) ∧ Fld Z h ge "com/example/jadoube/jadoube/MoveGenerator" "moves" "[I" .null ∧ Fld Z h ge "com/example/jadoube/jadoube/MoveGenerator" "size" "I" (.int 0)) := by
  refine ctr_mk pn_11 (own := "com/example/jadoube/jadoube/PositionTable") (mn := "encode") rfl rfl ?_
  intro p e s m below meth c T0 X0 hx hby hml hZ hown hnm hret hlk e0
  refine o_entry (ef_11 m a1 a2 a3) ?_
  have g_a3 := gsc
  have g_ge := gge
  have ne_ge_a3 : ge ≠ a3 := Nat.ne_of_lt lgs
  have ne_a1_ge : a1 ≠ ge := Nat.ne_of_lt lag
  have ne_a1_a3 : a1 ≠ a3 := Nat.ne_of_lt (Nat.lt_trans lag lgs)
  have NN := Fr.nil n0
  have ZZ := Z0
  have KK := Keep.refl h0 [a3, ge]
  refine o_aloadN X0 hx (pc' := 1) (hb hby d11_0) rfl rfl rfl ?_
  refine o_lconst X0 hx (pc' := 2) (v := (0 : Int64)) (hb hby d11_1) rfl rfl ?_
  refine o_callS X0 hx hZ [(.ref a3), (.long (0 : Int64))] (rm12 l Z a0 hw h0 n0 ZZ a3 ks _ _ hV gsc) hown (hw _ (List.mem_of_getElem? (i := 94) rfl)) (hw _ (List.mem_of_getElem? (i := 95) rfl)) (hw _ (List.mem_of_getElem? (i := 96) rfl)) (hw _ (List.mem_of_getElem? (i := 97) rfl)) (by decide) pd_5 e0 (by rw [hml]; rfl) rfl rfl rfl (hb hby d11_2) (pc' := 5) rfl 0 (Nat.le_of_eq rfl) (by decide) (by decide) (by decide) (by decide) ?_
  intro T1 v1 L1 X1 hQ1
  obtain ⟨rfl, Nq, Kq, hVq⟩ := hQ1
  have NN := Fr.app NN Nq
  have KK := KK.trans Kq (by intro x hx; simp only [List.mem_cons, List.not_mem_nil, or_false] at hx; subst hx; first | (left; simp; done) | (right; first | exact sz_none))
  have ZZ := Nat.le_trans ZZ Kq.1
  have hG := hG.keep Kq (by simp only [List.mem_cons, List.not_mem_nil, or_false, not_or]; exact ne_a1_a3)
  have gE := gE.keep Kq
  have gM := gM.keep Kq (by simp only [List.mem_cons, List.not_mem_nil, or_false, not_or]; exact ne_ge_a3)
  have gS := gS.keep Kq (by simp only [List.mem_cons, List.not_mem_nil, or_false, not_or]; exact ne_ge_a3)
  have hE := hE.keep Kq
  have hV := hVq
  have hP := hP.keep Kq (by intro x hx; simp only [List.mem_cons, List.not_mem_nil, or_false] at hx; subst hx; exact Nat.le_of_lt (Nat.lt_trans lag lgs))
  have hPo := hP
  obtain ⟨bp, bc, kp, kc, lt_a, lt_bp, lt_bc, pE, pPi, pCo, pSi, pCa, pEn, pC9, pV1, pV2⟩ := hPo
  show Dn p e below _ (T1.setTop (mkF m 5 #[.val (.ref a1), .val (.ref a2), .val (.ref a3), .unset, .unset, .unset, .unset, .unset, .unset, .unset, .unset, .unset, .unset] []))
  refine o_aloadN X1 hx (pc' := 6) (hb hby d11_5) rfl rfl rfl ?_
  refine o_iconst X1 hx (pc' := 7) (v := (1 : Int32)) (hb hby d11_6) rfl rfl ?_
  refine o_callVP X1 hx hZ a2 [(.int (1 : Int32))] (rm6 l Z a0 hw T1.heap n0 ZZ a2 (1 : Int32) bc kc _ (0 : Int64) pCo pV2 (by decide) rfl) hown (hw _ (List.mem_of_getElem? (i := 46) rfl)) (hw _ (List.mem_of_getElem? (i := 47) rfl)) (hw _ (List.mem_of_getElem? (i := 49) rfl)) (hw _ (List.mem_of_getElem? (i := 48) rfl)) (hw _ (List.mem_of_getElem? (i := 7) rfl)) (hw _ (List.mem_of_getElem? (i := 50) rfl)) (by decide) pE pd_3 rfl (by rw [hml]; rfl) rfl rfl rfl (hb hby d11_7) (pc' := 10) rfl 0 (Nat.le_of_eq rfl) (by decide) (by decide) rfl rfl (by decide) (by decide) ?_
  intro T2 X2 e2
  show Dn p e below _ (T2.setTop (mkF m 10 #[.val (.ref a1), .val (.ref a2), .val (.ref a3), .unset, .unset, .unset, .unset, .unset, .unset, .unset, .unset, .unset, .unset] [(.long (0 : Int64))]))
  refine o_lstoreN X2 hx (pc' := 11) (Ls' := #[.val (.ref a1), .val (.ref a2), .val (.ref a3), .val (.long (0 : Int64)), .second, .unset, .unset, .unset, .unset, .unset, .unset, .unset, .unset]) (hb hby d11_10) rfl rfl ?_
  refine o_aloadN X2 hx (pc' := 12) (hb hby d11_11) rfl rfl rfl ?_
  refine o_iconst X2 hx (pc' := 13) (v := (0 : Int32)) (hb hby d11_12) rfl rfl ?_
  refine o_callVP X2 hx hZ a2 [(.int (0 : Int32))] (rm6 l Z a0 hw T1.heap n0 ZZ a2 (0 : Int32) bc kc _ (2 : Int64) pCo pV2 (by decide) rfl) hown (hw _ (List.mem_of_getElem? (i := 46) rfl)) (hw _ (List.mem_of_getElem? (i := 47) rfl)) (hw _ (List.mem_of_getElem? (i := 49) rfl)) (hw _ (List.mem_of_getElem? (i := 48) rfl)) (hw _ (List.mem_of_getElem? (i := 7) rfl)) (hw _ (List.mem_of_getElem? (i := 50) rfl)) (by decide) pE pd_3 e2 (by rw [hml]; rfl) rfl rfl rfl (hb hby d11_13) (pc' := 16) rfl 0 (Nat.le_of_eq rfl) (by decide) (by decide) rfl rfl (by decide) (by decide) ?_
  intro T3 X3 e3
  show Dn p e below _ (T3.setTop (mkF m 16 #[.val (.ref a1), .val (.ref a2), .val (.ref a3), .val (.long (0 : Int64)), .second, .unset, .unset, .unset, .unset, .unset, .unset, .unset, .unset] [(.long (2 : Int64))]))
  refine o_lloadN X3 hx (pc' := 17) (hb hby d11_16) rfl rfl ?_
  refine o_lor X3 hx (pc' := 18) (hb hby d11_17) rfl ?_
  rw [show ((2 : Int64) ||| (0 : Int64)) = (2 : Int64) from by decide +kernel]
  refine o_lstore X3 hx (pc' := 20) (Ls' := #[.val (.ref a1), .val (.ref a2), .val (.ref a3), .val (.long (0 : Int64)), .second, .val (.long (2 : Int64)), .second, .unset, .unset, .unset, .unset, .unset, .unset]) (hb hby d11_18) rfl rfl ?_
  refine o_aloadN X3 hx (pc' := 21) (hb hby d11_20) rfl rfl rfl ?_
  refine o_iconst X3 hx (pc' := 22) (v := (0 : Int32)) (hb hby d11_21) rfl rfl ?_
  refine o_lload X3 hx (pc' := 24) (hb hby d11_22) rfl rfl ?_
  refine o_lastore X3 hx hZ e3 hV (by decide) 0 rfl (Nat.le_of_ble_eq_true rfl) (hb hby d11_24) (pc' := 25) rfl ?_
  intro T4 h4 X4 e4 W4 V4
  have NN := Fr.snoc X4 NN g_a3
  have KK := KK.wr W4 (Or.inl (List.mem_of_getElem? (i := 0) rfl))
  have ZZ := Nat.le_trans ZZ (Keep.of_wr W4).1
  have hG := hG.other W4 (Or.inl ne_a1_a3)
  have gE := gE.wr W4
  have gM := gM.other W4 (Or.inl ne_ge_a3)
  have gS := gS.other W4 (Or.inl ne_ge_a3)
  have hE := hE.wr W4
  have hV : Arv Z h4 a3 ks .long 2 [.long 2, .long 0] (.long 0) := V4
  have hP := hP.keep (Keep.of_wr W4) (by intro x hx; simp only [List.mem_cons, List.not_mem_nil, or_false] at hx; subst hx; exact Nat.le_of_lt (Nat.lt_trans lag lgs))
  have hPo := hP
  obtain ⟨bp, bc, kp, kc, lt_a, lt_bp, lt_bc, pE, pPi, pCo, pSi, pCa, pEn, pC9, pV1, pV2⟩ := hPo
  refine o_iconst X4 hx (pc' := 26) (v := (0 : Int32)) (hb hby d11_25) rfl rfl ?_
  refine o_istore X4 hx (pc' := 28) (Ls' := #[.val (.ref a1), .val (.ref a2), .val (.ref a3), .val (.long (0 : Int64)), .second, .val (.long (2 : Int64)), .second, .val (.int (0 : Int32)), .unset, .unset, .unset, .unset, .unset]) (hb hby d11_26) rfl rfl ?_
  refine o_lload X4 hx (pc' := 30) (hb hby d11_28) rfl rfl ?_
  refine o_lstore X4 hx (pc' := 32) (Ls' := #[.val (.ref a1), .val (.ref a2), .val (.ref a3), .val (.long (0 : Int64)), .second, .val (.long (2 : Int64)), .second, .val (.int (0 : Int32)), .val (.long (2 : Int64)), .second, .unset, .unset, .unset]) (hb hby d11_30) rfl rfl ?_
  refine o_lload X4 hx (pc' := 34) (hb hby d11_32) rfl rfl ?_
  refine o_lconst X4 hx (pc' := 35) (v := (0 : Int64)) (hb hby d11_34) rfl rfl ?_
  refine o_lcmp X4 hx (pc' := 36) (hb hby d11_35) rfl ?_
  refine o_lif_eq X4 hx (pc' := 39) (pt := 99) (hb hby d11_36) rfl (by decide) (by decide) (fun q => absurd q (by decide)) (fun _ => ?_)
  refine o_lload X4 hx (pc' := 41) (hb hby d11_39) rfl rfl ?_
  refine o_callSP X4 hx hZ [(.long (2 : Int64))] (rmP13_2 l Z a0 hw h4 n0 ZZ) hown (hw _ (List.mem_of_getElem? (i := 98) rfl)) (hw _ (List.mem_of_getElem? (i := 99) rfl)) (hw _ (List.mem_of_getElem? (i := 53) rfl)) (hw _ (List.mem_of_getElem? (i := 100) rfl)) (by decide) pd_1 e4 (by rw [hml]; rfl) rfl rfl rfl (hb hby d11_41) (pc' := 44) rfl 0 (Nat.le_of_eq rfl) (by decide) (by decide) rfl rfl (by decide) (by decide) ?_
  intro T5 X5 e5
  show Dn p e below _ (T5.setTop (mkF m 44 #[.val (.ref a1), .val (.ref a2), .val (.ref a3), .val (.long (0 : Int64)), .second, .val (.long (2 : Int64)), .second, .val (.int (0 : Int32)), .val (.long (2 : Int64)), .second, .unset, .unset, .unset] [(.int (1 : Int32))]))
  refine o_istore X5 hx (pc' := 46) (Ls' := #[.val (.ref a1), .val (.ref a2), .val (.ref a3), .val (.long (0 : Int64)), .second, .val (.long (2 : Int64)), .second, .val (.int (0 : Int32)), .val (.long (2 : Int64)), .second, .val (.int (1 : Int32)), .unset, .unset]) (hb hby d11_44) rfl rfl ?_
  refine o_aloadN X5 hx (pc' := 47) (hb hby d11_46) rfl rfl rfl ?_
  refine o_iload X5 hx (pc' := 49) (hb hby d11_47) rfl rfl ?_
  refine o_callVP X5 hx hZ a2 [(.int (1 : Int32))] (rmKO1 l Z a0 hw h4 n0 ZZ a2 a1 hP) hown (hw _ (List.mem_of_getElem? (i := 105) rfl)) (hw _ (List.mem_of_getElem? (i := 106) rfl)) (hw _ (List.mem_of_getElem? (i := 108) rfl)) (hw _ (List.mem_of_getElem? (i := 107) rfl)) (hw _ (List.mem_of_getElem? (i := 7) rfl)) (hw _ (List.mem_of_getElem? (i := 109) rfl)) (by decide) pE pd_0 e5 (by rw [hml]; rfl) rfl rfl rfl (hb hby d11_49) (pc' := 52) rfl 0 (Nat.le_of_eq rfl) (by decide) (by decide) rfl rfl (by decide) (by decide) ?_
  intro T6 X6 e6
  show Dn p e below _ (T6.setTop (mkF m 52 #[.val (.ref a1), .val (.ref a2), .val (.ref a3), .val (.long (0 : Int64)), .second, .val (.long (2 : Int64)), .second, .val (.int (0 : Int32)), .val (.long (2 : Int64)), .second, .val (.int (1 : Int32)), .unset, .unset] [(.int (5 : Int32))]))
  refine o_i2l X6 hx (pc' := 53) (hb hby d11_52) rfl ?_
  rw [show ((5 : Int32).toInt64) = (5 : Int64) from by decide +kernel]
  refine o_lloadN X6 hx (pc' := 54) (hb hby d11_53) rfl rfl ?_
  refine o_iload X6 hx (pc' := 56) (hb hby d11_54) rfl rfl ?_
  refine o_lushr X6 hx (pc' := 57) (hb hby d11_56) rfl ?_
  rw [show (((0 : Int64).toUInt64 >>> ((1 : Int32) &&& 0x3f).toInt64.toUInt64).toInt64) = (0 : Int64) from by decide +kernel]
  refine o_lconst X6 hx (pc' := 58) (v := (1 : Int64)) (hb hby d11_57) rfl rfl ?_
  refine o_land X6 hx (pc' := 59) (hb hby d11_58) rfl ?_
  rw [show ((0 : Int64) &&& (1 : Int64)) = (0 : Int64) from by decide +kernel]
  refine o_iconst X6 hx (pc' := 60) (v := (3 : Int32)) (hb hby d11_59) rfl rfl ?_
  refine o_lshl X6 hx (pc' := 61) (hb hby d11_60) rfl ?_
  rw [show ((0 : Int64) <<< ((3 : Int32) &&& 0x3f).toInt64) = (0 : Int64) from by decide +kernel]
  refine o_lor X6 hx (pc' := 62) (hb hby d11_61) rfl ?_
  rw [show ((5 : Int64) ||| (0 : Int64)) = (5 : Int64) from by decide +kernel]
  refine o_lstore X6 hx (pc' := 64) (Ls' := #[.val (.ref a1), .val (.ref a2), .val (.ref a3), .val (.long (0 : Int64)), .second, .val (.long (2 : Int64)), .second, .val (.int (0 : Int32)), .val (.long (2 : Int64)), .second, .val (.int (1 : Int32)), .val (.long (5 : Int64)), .second]) (hb hby d11_62) rfl rfl ?_
  refine o_aloadN X6 hx (pc' := 65) (hb hby d11_64) rfl rfl rfl ?_
  refine o_iconst X6 hx (pc' := 66) (v := (1 : Int32)) (hb hby d11_65) rfl rfl ?_
  refine o_iload X6 hx (pc' := 68) (hb hby d11_66) rfl rfl ?_
  refine o_bipush X6 hx (pc' := 70) (v := (64 : Int32)) (hb hby d11_68) rfl rfl ?_
  refine o_idiv X6 hx (pc' := 71) (hb hby d11_70) rfl (by decide) ?_
  rw [show ((0 : Int32) / (64 : Int32)) = (0 : Int32) from by decide +kernel]
  refine o_iadd X6 hx (pc' := 72) (hb hby d11_71) rfl ?_
  rw [show ((1 : Int32) + (0 : Int32)) = (1 : Int32) from by decide +kernel]
  refine o_dup2 X6 hx (pc' := 73) (hb hby d11_72) rfl rfl rfl ?_
  refine o_laload X6 hx hZ e6 hV (by decide) (v := (.long (0 : Int64))) rfl (hb hby d11_73) (pc' := 74) rfl ?_
  refine o_lload X6 hx (pc' := 76) (hb hby d11_74) rfl rfl ?_
  refine o_iload X6 hx (pc' := 78) (hb hby d11_76) rfl rfl ?_
  refine o_bipush X6 hx (pc' := 80) (v := (63 : Int32)) (hb hby d11_78) rfl rfl ?_
  refine o_iand X6 hx (pc' := 81) (hb hby d11_80) rfl ?_
  rw [show ((0 : Int32) &&& (63 : Int32)) = (0 : Int32) from by decide +kernel]
  refine o_lshl X6 hx (pc' := 82) (hb hby d11_81) rfl ?_
  rw [show ((5 : Int64) <<< ((0 : Int32) &&& 0x3f).toInt64) = (5 : Int64) from by decide +kernel]
  refine o_lor X6 hx (pc' := 83) (hb hby d11_82) rfl ?_
  rw [show ((0 : Int64) ||| (5 : Int64)) = (5 : Int64) from by decide +kernel]
  refine o_lastore X6 hx hZ e6 hV (by decide) 1 rfl (Nat.le_of_ble_eq_true rfl) (hb hby d11_83) (pc' := 84) rfl ?_
  intro T7 h7 X7 e7 W7 V7
  have NN := Fr.snoc X7 NN g_a3
  have KK := KK.wr W7 (Or.inl (List.mem_of_getElem? (i := 0) rfl))
  have ZZ := Nat.le_trans ZZ (Keep.of_wr W7).1
  have hG := hG.other W7 (Or.inl ne_a1_a3)
  have gE := gE.wr W7
  have gM := gM.other W7 (Or.inl ne_ge_a3)
  have gS := gS.other W7 (Or.inl ne_ge_a3)
  have hE := hE.wr W7
  have hV : Arv Z h7 a3 ks .long 2 [.long 2, .long 5] (.long 0) := V7
  have hP := hP.keep (Keep.of_wr W7) (by intro x hx; simp only [List.mem_cons, List.not_mem_nil, or_false] at hx; subst hx; exact Nat.le_of_lt (Nat.lt_trans lag lgs))
  have hPo := hP
  obtain ⟨bp, bc, kp, kc, lt_a, lt_bp, lt_bc, pE, pPi, pCo, pSi, pCa, pEn, pC9, pV1, pV2⟩ := hPo
  refine o_lload X7 hx (pc' := 86) (hb hby d11_84) rfl rfl ?_
  refine o_lload X7 hx (pc' := 88) (hb hby d11_86) rfl rfl ?_
  refine o_lconst X7 hx (pc' := 89) (v := (1 : Int64)) (hb hby d11_88) rfl rfl ?_
  refine o_lsub X7 hx (pc' := 90) (hb hby d11_89) rfl ?_
  rw [show ((2 : Int64) - (1 : Int64)) = (1 : Int64) from by decide +kernel]
  refine o_land X7 hx (pc' := 91) (hb hby d11_90) rfl ?_
  rw [show ((2 : Int64) &&& (1 : Int64)) = (0 : Int64) from by decide +kernel]
  refine o_lstore X7 hx (pc' := 93) (Ls' := #[.val (.ref a1), .val (.ref a2), .val (.ref a3), .val (.long (0 : Int64)), .second, .val (.long (2 : Int64)), .second, .val (.int (0 : Int32)), .val (.long (0 : Int64)), .second, .val (.int (1 : Int32)), .val (.long (5 : Int64)), .second]) (hb hby d11_91) rfl rfl ?_
  refine o_iinc X7 hx (pc' := 96) (Ls' := #[.val (.ref a1), .val (.ref a2), .val (.ref a3), .val (.long (0 : Int64)), .second, .val (.long (2 : Int64)), .second, .val (.int (4 : Int32)), .val (.long (0 : Int64)), .second, .val (.int (1 : Int32)), .val (.long (5 : Int64)), .second]) (v := (4 : Int32)) (hb hby d11_93) rfl rfl rfl rfl ?_
  refine o_goto X7 hx (pc' := 32) (hb hby d11_96) (by decide) (by decide) ?_
  refine o_lload X7 hx (pc' := 34) (hb hby d11_32) rfl rfl ?_
  refine o_lconst X7 hx (pc' := 35) (v := (0 : Int64)) (hb hby d11_34) rfl rfl ?_
  refine o_lcmp X7 hx (pc' := 36) (hb hby d11_35) rfl ?_
  refine o_lif_eq X7 hx (pc' := 39) (pt := 99) (hb hby d11_36) rfl (by decide) (by decide) (fun _ => ?_) (fun q => absurd (by decide) q)
  refine o_aloadN X7 hx (pc' := 100) (hb hby d11_99) rfl rfl rfl ?_
  refine o_getfield X7 hx hZ hown (hw _ (List.mem_of_getElem? (i := 44) rfl)) e7 hG (hb hby d11_100) (pc' := 103) rfl ?_
  intro T8 X8 e8
  refine o_aloadN X8 hx (pc' := 104) (hb hby d11_103) rfl rfl rfl ?_
  refine o_callV X8 hx hZ ge [(.ref a2)] (rmCC1 l Z a0 hw h7 n0 ZZ ge a2 a1 _ _ hP gE gM gS (Nat.le_of_lt lag) gge) hown (hw _ (List.mem_of_getElem? (i := 110) rfl)) (hw _ (List.mem_of_getElem? (i := 111) rfl)) (hw _ (List.mem_of_getElem? (i := 113) rfl)) (hw _ (List.mem_of_getElem? (i := 112) rfl)) (hw _ (List.mem_of_getElem? (i := 39) rfl)) (hw _ (List.mem_of_getElem? (i := 114) rfl)) (by decide) gE pd_6 e8 (by rw [hml]; rfl) rfl rfl rfl (hb hby d11_104) (pc' := 107) rfl 0 (Nat.le_of_eq rfl) (by decide) (by decide) (by decide) (by decide) ?_
  intro T9 v9 L9 X9 hQ9
  obtain ⟨rfl, Nq, Kq, gMq, gSq⟩ := hQ9
  have NN := Fr.app NN Nq
  have KK := KK.trans Kq (by intro x hx; simp only [List.mem_cons, List.not_mem_nil, or_false] at hx; subst hx; first | (left; simp; done) | (right; first | exact sz_none))
  have ZZ := Nat.le_trans ZZ Kq.1
  have hG := hG.keep Kq (by simp only [List.mem_cons, List.not_mem_nil, or_false, not_or]; exact ne_a1_ge)
  have gE := gE.keep Kq
  have hE := hE.keep Kq
  have hV := hV.keep Kq (by simp only [List.mem_cons, List.not_mem_nil, or_false, not_or]; exact ne_ge_a3.symm)
  have gM := gMq
  have gS := gSq
  have hP := hP.keep Kq (by intro x hx; simp only [List.mem_cons, List.not_mem_nil, or_false] at hx; subst hx; exact Nat.le_of_lt lag)
  have hPo := hP
  obtain ⟨bp, bc, kp, kc, lt_a, lt_bp, lt_bc, pE, pPi, pCo, pSi, pCa, pEn, pC9, pV1, pV2⟩ := hPo
  show Dn p e below _ (T9.setTop (mkF m 107 #[.val (.ref a1), .val (.ref a2), .val (.ref a3), .val (.long (0 : Int64)), .second, .val (.long (2 : Int64)), .second, .val (.int (4 : Int32)), .val (.long (0 : Int64)), .second, .val (.int (1 : Int32)), .val (.long (5 : Int64)), .second] [(.int (0 : Int32))]))
  refine o_if_eq X9 hx (pc' := 110) (pt := 123) (hb hby d11_107) rfl (by decide) (by decide) (fun _ => ?_) (fun q => absurd (by decide) q)
  refine o_lconst X9 hx (pc' := 124) (v := (0 : Int64)) (hb hby d11_123) rfl rfl ?_
  refine o_lstore X9 hx (pc' := 126) (Ls' := #[.val (.ref a1), .val (.ref a2), .val (.ref a3), .val (.long (0 : Int64)), .second, .val (.long (2 : Int64)), .second, .val (.int (4 : Int32)), .val (.long (0 : Int64)), .second, .val (.int (1 : Int32)), .val (.long (5 : Int64)), .second]) (hb hby d11_124) rfl rfl ?_
  refine o_aloadN X9 hx (pc' := 127) (hb hby d11_126) rfl rfl rfl ?_
  refine o_callVP X9 hx hZ a2 [] (rm17 l Z a0 hw T9.heap n0 ZZ a2 pSi) hown (hw _ (List.mem_of_getElem? (i := 140) rfl)) (hw _ (List.mem_of_getElem? (i := 116) rfl)) (hw _ (List.mem_of_getElem? (i := 118) rfl)) (hw _ (List.mem_of_getElem? (i := 117) rfl)) (hw _ (List.mem_of_getElem? (i := 7) rfl)) (hw _ (List.mem_of_getElem? (i := 119) rfl)) (by decide) pE pd_2 rfl (by rw [hml]; rfl) rfl rfl rfl (hb hby d11_127) (pc' := 130) rfl 0 (Nat.le_of_eq rfl) (by decide) (by decide) rfl rfl (by decide) (by decide) ?_
  intro T10 X10 e10
  show Dn p e below _ (T10.setTop (mkF m 130 #[.val (.ref a1), .val (.ref a2), .val (.ref a3), .val (.long (0 : Int64)), .second, .val (.long (2 : Int64)), .second, .val (.int (4 : Int32)), .val (.long (0 : Int64)), .second, .val (.int (1 : Int32)), .val (.long (5 : Int64)), .second] [(.int (0 : Int32))]))
  refine o_aloadN X10 hx (pc' := 131) (hb hby d11_130) rfl rfl rfl ?_
  refine o_callVP X10 hx hZ a2 [] (rm21 l Z a0 hw T9.heap n0 ZZ a2 pCa) hown (hw _ (List.mem_of_getElem? (i := 141) rfl)) (hw _ (List.mem_of_getElem? (i := 142) rfl)) (hw _ (List.mem_of_getElem? (i := 144) rfl)) (hw _ (List.mem_of_getElem? (i := 143) rfl)) (hw _ (List.mem_of_getElem? (i := 7) rfl)) (hw _ (List.mem_of_getElem? (i := 145) rfl)) (by decide) pE pd_2 e10 (by rw [hml]; rfl) rfl rfl rfl (hb hby d11_131) (pc' := 134) rfl 1 (Nat.le_of_eq rfl) (by decide) (by decide) rfl rfl (by decide) (by decide) ?_
  intro T11 X11 e11
  show Dn p e below _ (T11.setTop (mkF m 134 #[.val (.ref a1), .val (.ref a2), .val (.ref a3), .val (.long (0 : Int64)), .second, .val (.long (2 : Int64)), .second, .val (.int (4 : Int32)), .val (.long (0 : Int64)), .second, .val (.int (1 : Int32)), .val (.long (5 : Int64)), .second] [(.int (0 : Int32)), (.int (0 : Int32))]))
  refine o_iconst X11 hx (pc' := 135) (v := (1 : Int32)) (hb hby d11_134) rfl rfl ?_
  refine o_ishl X11 hx (pc' := 136) (hb hby d11_135) rfl ?_
  rw [show ((0 : Int32) <<< ((1 : Int32) &&& 31)) = (0 : Int32) from by decide +kernel]
  refine o_ior X11 hx (pc' := 137) (hb hby d11_136) rfl ?_
  rw [show ((0 : Int32) ||| (0 : Int32)) = (0 : Int32) from by decide +kernel]
  refine o_i2l X11 hx (pc' := 138) (hb hby d11_137) rfl ?_
  rw [show ((0 : Int32).toInt64) = (0 : Int64) from by decide +kernel]
  refine o_lload X11 hx (pc' := 140) (hb hby d11_138) rfl rfl ?_
  refine o_iconst X11 hx (pc' := 141) (v := (5 : Int32)) (hb hby d11_140) rfl rfl ?_
  refine o_lshl X11 hx (pc' := 142) (hb hby d11_141) rfl ?_
  rw [show ((0 : Int64) <<< ((5 : Int32) &&& 0x3f).toInt64) = (0 : Int64) from by decide +kernel]
  refine o_lor X11 hx (pc' := 143) (hb hby d11_142) rfl ?_
  rw [show ((0 : Int64) ||| (0 : Int64)) = (0 : Int64) from by decide +kernel]
  refine o_lstore X11 hx (pc' := 145) (Ls' := #[.val (.ref a1), .val (.ref a2), .val (.ref a3), .val (.long (0 : Int64)), .second, .val (.long (2 : Int64)), .second, .val (.int (4 : Int32)), .val (.long (0 : Int64)), .second, .val (.long (0 : Int64)), .second, .unset]) (hb hby d11_143) rfl rfl ?_
  refine o_aloadN X11 hx (pc' := 146) (hb hby d11_145) rfl rfl rfl ?_
  refine o_iconst X11 hx (pc' := 147) (v := (1 : Int32)) (hb hby d11_146) rfl rfl ?_
  refine o_iload X11 hx (pc' := 149) (hb hby d11_147) rfl rfl ?_
  refine o_bipush X11 hx (pc' := 151) (v := (64 : Int32)) (hb hby d11_149) rfl rfl ?_
  refine o_idiv X11 hx (pc' := 152) (hb hby d11_151) rfl (by decide) ?_
  rw [show ((4 : Int32) / (64 : Int32)) = (0 : Int32) from by decide +kernel]
  refine o_iadd X11 hx (pc' := 153) (hb hby d11_152) rfl ?_
  rw [show ((1 : Int32) + (0 : Int32)) = (1 : Int32) from by decide +kernel]
  refine o_dup2 X11 hx (pc' := 154) (hb hby d11_153) rfl rfl rfl ?_
  refine o_laload X11 hx hZ e11 hV (by decide) (v := (.long (5 : Int64))) rfl (hb hby d11_154) (pc' := 155) rfl ?_
  refine o_lload X11 hx (pc' := 157) (hb hby d11_155) rfl rfl ?_
  refine o_iload X11 hx (pc' := 159) (hb hby d11_157) rfl rfl ?_
  refine o_bipush X11 hx (pc' := 161) (v := (63 : Int32)) (hb hby d11_159) rfl rfl ?_
  refine o_iand X11 hx (pc' := 162) (hb hby d11_161) rfl ?_
  rw [show ((4 : Int32) &&& (63 : Int32)) = (4 : Int32) from by decide +kernel]
  refine o_lshl X11 hx (pc' := 163) (hb hby d11_162) rfl ?_
  rw [show ((0 : Int64) <<< ((4 : Int32) &&& 0x3f).toInt64) = (0 : Int64) from by decide +kernel]
  refine o_lor X11 hx (pc' := 164) (hb hby d11_163) rfl ?_
  rw [show ((5 : Int64) ||| (0 : Int64)) = (5 : Int64) from by decide +kernel]
  refine o_lastore X11 hx hZ e11 hV (by decide) 1 rfl (Nat.le_of_ble_eq_true rfl) (hb hby d11_164) (pc' := 165) rfl ?_
  intro T12 h12 X12 e12 W12 V12
  have NN := Fr.snoc X12 NN g_a3
  have KK := KK.wr W12 (Or.inl (List.mem_of_getElem? (i := 0) rfl))
  have ZZ := Nat.le_trans ZZ (Keep.of_wr W12).1
  have hG := hG.other W12 (Or.inl ne_a1_a3)
  have gE := gE.wr W12
  have hE := hE.wr W12
  have gM := gM.other W12 (Or.inl ne_ge_a3)
  have gS := gS.other W12 (Or.inl ne_ge_a3)
  have hV : Arv Z h12 a3 ks .long 2 [.long 2, .long 5] (.long 0) := V12
  refine o_iload X12 hx (pc' := 167) (hb hby d11_165) rfl rfl ?_
  refine o_bipush X12 hx (pc' := 169) (v := (63 : Int32)) (hb hby d11_167) rfl rfl ?_
  refine o_iand X12 hx (pc' := 170) (hb hby d11_169) rfl ?_
  rw [show ((4 : Int32) &&& (63 : Int32)) = (4 : Int32) from by decide +kernel]
  refine o_bipush X12 hx (pc' := 172) (v := (9 : Int32)) (hb hby d11_170) rfl rfl ?_
  refine o_iadd X12 hx (pc' := 173) (hb hby d11_172) rfl ?_
  rw [show ((4 : Int32) + (9 : Int32)) = (13 : Int32) from by decide +kernel]
  refine o_bipush X12 hx (pc' := 175) (v := (64 : Int32)) (hb hby d11_173) rfl rfl ?_
  refine o_icmp_le X12 hx (pc' := 178) (pt := 201) (hb hby d11_175) rfl (by decide) (by decide) (fun _ => ?_) (fun q => absurd q (by decide))
  exact finV X12 hx hlk hret (hb hby d11_201) (by decide) (by decide) ⟨rfl, NN, by rw [e12]; exact KK, by rw [e12]; exact hV, by rw [e12]; exact gM, by rw [e12]; exact gS⟩
set_option maxRecDepth 65536 in
set_option maxHeartbeats 40000000 in
theorem rmEN2 (l : Launch) (Z : State) (a0 : Array Value) (hw : ∀ d ∈ tables_1, d.before a0 Z = true) (h0 : Heap) (n0 : Nat) (Z0 : n0 ≤ h0.size) (a1 : Addr) (a2 : Addr) (a3 : Addr) (ge : Addr) (ks : ClassId) (x y : Int64) (u : Value) (w : Int32) (hP : Pos Z h0 a1 a2 4) (hE : Exa Z h0 a1 "com/example/jadoube/jadoube/PositionTable") (hG : Fld Z h0 a1 "com/example/jadoube/jadoube/PositionTable" "generator" "Lcom/example/jadoube/jadoube/MoveGenerator;" (.ref ge)) (gE : Exa Z h0 ge "com/example/jadoube/jadoube/MoveGenerator") (gM : Fld Z h0 ge "com/example/jadoube/jadoube/MoveGenerator" "moves" "[I" u) (gS : Fld Z h0 ge "com/example/jadoube/jadoube/MoveGenerator" "size" "I" (.int w)) (hV : Arv Z h0 a3 ks .long 2 [.long x, .long y] (.long 0)) (lag : a1 < ge) (lgs : ge < a3) (gge : n0 ≤ ge) (gsc : n0 ≤ a3) : Ctr l Z (⟨"com/example/jadoube/jadoube/PositionTable", "encode", "(Lcom/example/jadoube/jadoube/Position;[J)V"⟩ : MethodName) prog_33_method_7_code 13 none [] ({ frames := 4, cells := 0, slots := 0, locals := 57 } : Room) #[(.ref a1), (.ref a2), (.ref a3)] h0 (fun v h L => v = none ∧ Fr n0 L ∧ Keep h0 h [a3, ge] ∧ Arv Z h a3 ks .long 2 [.long 4, .long 5] (.long 0) ∧ Fld Z h ge "com/example/jadoube/jadoube/MoveGenerator" "moves" "[I" .null ∧ Fld Z h ge "com/example/jadoube/jadoube/MoveGenerator" "size" "I" (.int 0)) := by
  refine ctr_mk pn_11 (own := "com/example/jadoube/jadoube/PositionTable") (mn := "encode") rfl rfl ?_
  intro p e s m below meth c T0 X0 hx hby hml hZ hown hnm hret hlk e0
  refine o_entry (ef_11 m a1 a2 a3) ?_
  have g_a3 := gsc
  have g_ge := gge
  have ne_ge_a3 : ge ≠ a3 := Nat.ne_of_lt lgs
  have ne_a1_ge : a1 ≠ ge := Nat.ne_of_lt lag
  have ne_a1_a3 : a1 ≠ a3 := Nat.ne_of_lt (Nat.lt_trans lag lgs)
  have NN := Fr.nil n0
  have ZZ := Z0
  have KK := Keep.refl h0 [a3, ge]
  refine o_aloadN X0 hx (pc' := 1) (hb hby d11_0) rfl rfl rfl ?_
  refine o_lconst X0 hx (pc' := 2) (v := (0 : Int64)) (hb hby d11_1) rfl rfl ?_
  refine o_callS X0 hx hZ [(.ref a3), (.long (0 : Int64))] (rm12 l Z a0 hw h0 n0 ZZ a3 ks _ _ hV gsc) hown (hw _ (List.mem_of_getElem? (i := 94) rfl)) (hw _ (List.mem_of_getElem? (i := 95) rfl)) (hw _ (List.mem_of_getElem? (i := 96) rfl)) (hw _ (List.mem_of_getElem? (i := 97) rfl)) (by decide) pd_5 e0 (by rw [hml]; rfl) rfl rfl rfl (hb hby d11_2) (pc' := 5) rfl 0 (Nat.le_of_eq rfl) (by decide) (by decide) (by decide) (by decide) ?_
  intro T1 v1 L1 X1 hQ1
  obtain ⟨rfl, Nq, Kq, hVq⟩ := hQ1
  have NN := Fr.app NN Nq
  have KK := KK.trans Kq (by intro x hx; simp only [List.mem_cons, List.not_mem_nil, or_false] at hx; subst hx; first | (left; simp; done) | (right; first | exact sz_none))
  have ZZ := Nat.le_trans ZZ Kq.1
  have hG := hG.keep Kq (by simp only [List.mem_cons, List.not_mem_nil, or_false, not_or]; exact ne_a1_a3)
  have gE := gE.keep Kq
  have gM := gM.keep Kq (by simp only [List.mem_cons, List.not_mem_nil, or_false, not_or]; exact ne_ge_a3)
  have gS := gS.keep Kq (by simp only [List.mem_cons, List.not_mem_nil, or_false, not_or]; exact ne_ge_a3)
  have hE := hE.keep Kq
  have hV := hVq
  have hP := hP.keep Kq (by intro x hx; simp only [List.mem_cons, List.not_mem_nil, or_false] at hx; subst hx; exact Nat.le_of_lt (Nat.lt_trans lag lgs))
  have hPo := hP
  obtain ⟨bp, bc, kp, kc, lt_a, lt_bp, lt_bc, pE, pPi, pCo, pSi, pCa, pEn, pC9, pV1, pV2⟩ := hPo
  show Dn p e below _ (T1.setTop (mkF m 5 #[.val (.ref a1), .val (.ref a2), .val (.ref a3), .unset, .unset, .unset, .unset, .unset, .unset, .unset, .unset, .unset, .unset] []))
  refine o_aloadN X1 hx (pc' := 6) (hb hby d11_5) rfl rfl rfl ?_
  refine o_iconst X1 hx (pc' := 7) (v := (1 : Int32)) (hb hby d11_6) rfl rfl ?_
  refine o_callVP X1 hx hZ a2 [(.int (1 : Int32))] (rm6 l Z a0 hw T1.heap n0 ZZ a2 (1 : Int32) bc kc _ (0 : Int64) pCo pV2 (by decide) rfl) hown (hw _ (List.mem_of_getElem? (i := 46) rfl)) (hw _ (List.mem_of_getElem? (i := 47) rfl)) (hw _ (List.mem_of_getElem? (i := 49) rfl)) (hw _ (List.mem_of_getElem? (i := 48) rfl)) (hw _ (List.mem_of_getElem? (i := 7) rfl)) (hw _ (List.mem_of_getElem? (i := 50) rfl)) (by decide) pE pd_3 rfl (by rw [hml]; rfl) rfl rfl rfl (hb hby d11_7) (pc' := 10) rfl 0 (Nat.le_of_eq rfl) (by decide) (by decide) rfl rfl (by decide) (by decide) ?_
  intro T2 X2 e2
  show Dn p e below _ (T2.setTop (mkF m 10 #[.val (.ref a1), .val (.ref a2), .val (.ref a3), .unset, .unset, .unset, .unset, .unset, .unset, .unset, .unset, .unset, .unset] [(.long (0 : Int64))]))
  refine o_lstoreN X2 hx (pc' := 11) (Ls' := #[.val (.ref a1), .val (.ref a2), .val (.ref a3), .val (.long (0 : Int64)), .second, .unset, .unset, .unset, .unset, .unset, .unset, .unset, .unset]) (hb hby d11_10) rfl rfl ?_
  refine o_aloadN X2 hx (pc' := 12) (hb hby d11_11) rfl rfl rfl ?_
  refine o_iconst X2 hx (pc' := 13) (v := (0 : Int32)) (hb hby d11_12) rfl rfl ?_
  refine o_callVP X2 hx hZ a2 [(.int (0 : Int32))] (rm6 l Z a0 hw T1.heap n0 ZZ a2 (0 : Int32) bc kc _ (4 : Int64) pCo pV2 (by decide) rfl) hown (hw _ (List.mem_of_getElem? (i := 46) rfl)) (hw _ (List.mem_of_getElem? (i := 47) rfl)) (hw _ (List.mem_of_getElem? (i := 49) rfl)) (hw _ (List.mem_of_getElem? (i := 48) rfl)) (hw _ (List.mem_of_getElem? (i := 7) rfl)) (hw _ (List.mem_of_getElem? (i := 50) rfl)) (by decide) pE pd_3 e2 (by rw [hml]; rfl) rfl rfl rfl (hb hby d11_13) (pc' := 16) rfl 0 (Nat.le_of_eq rfl) (by decide) (by decide) rfl rfl (by decide) (by decide) ?_
  intro T3 X3 e3
  show Dn p e below _ (T3.setTop (mkF m 16 #[.val (.ref a1), .val (.ref a2), .val (.ref a3), .val (.long (0 : Int64)), .second, .unset, .unset, .unset, .unset, .unset, .unset, .unset, .unset] [(.long (4 : Int64))]))
  refine o_lloadN X3 hx (pc' := 17) (hb hby d11_16) rfl rfl ?_
  refine o_lor X3 hx (pc' := 18) (hb hby d11_17) rfl ?_
  rw [show ((4 : Int64) ||| (0 : Int64)) = (4 : Int64) from by decide +kernel]
  refine o_lstore X3 hx (pc' := 20) (Ls' := #[.val (.ref a1), .val (.ref a2), .val (.ref a3), .val (.long (0 : Int64)), .second, .val (.long (4 : Int64)), .second, .unset, .unset, .unset, .unset, .unset, .unset]) (hb hby d11_18) rfl rfl ?_
  refine o_aloadN X3 hx (pc' := 21) (hb hby d11_20) rfl rfl rfl ?_
  refine o_iconst X3 hx (pc' := 22) (v := (0 : Int32)) (hb hby d11_21) rfl rfl ?_
  refine o_lload X3 hx (pc' := 24) (hb hby d11_22) rfl rfl ?_
  refine o_lastore X3 hx hZ e3 hV (by decide) 0 rfl (Nat.le_of_ble_eq_true rfl) (hb hby d11_24) (pc' := 25) rfl ?_
  intro T4 h4 X4 e4 W4 V4
  have NN := Fr.snoc X4 NN g_a3
  have KK := KK.wr W4 (Or.inl (List.mem_of_getElem? (i := 0) rfl))
  have ZZ := Nat.le_trans ZZ (Keep.of_wr W4).1
  have hG := hG.other W4 (Or.inl ne_a1_a3)
  have gE := gE.wr W4
  have gM := gM.other W4 (Or.inl ne_ge_a3)
  have gS := gS.other W4 (Or.inl ne_ge_a3)
  have hE := hE.wr W4
  have hV : Arv Z h4 a3 ks .long 2 [.long 4, .long 0] (.long 0) := V4
  have hP := hP.keep (Keep.of_wr W4) (by intro x hx; simp only [List.mem_cons, List.not_mem_nil, or_false] at hx; subst hx; exact Nat.le_of_lt (Nat.lt_trans lag lgs))
  have hPo := hP
  obtain ⟨bp, bc, kp, kc, lt_a, lt_bp, lt_bc, pE, pPi, pCo, pSi, pCa, pEn, pC9, pV1, pV2⟩ := hPo
  refine o_iconst X4 hx (pc' := 26) (v := (0 : Int32)) (hb hby d11_25) rfl rfl ?_
  refine o_istore X4 hx (pc' := 28) (Ls' := #[.val (.ref a1), .val (.ref a2), .val (.ref a3), .val (.long (0 : Int64)), .second, .val (.long (4 : Int64)), .second, .val (.int (0 : Int32)), .unset, .unset, .unset, .unset, .unset]) (hb hby d11_26) rfl rfl ?_
  refine o_lload X4 hx (pc' := 30) (hb hby d11_28) rfl rfl ?_
  refine o_lstore X4 hx (pc' := 32) (Ls' := #[.val (.ref a1), .val (.ref a2), .val (.ref a3), .val (.long (0 : Int64)), .second, .val (.long (4 : Int64)), .second, .val (.int (0 : Int32)), .val (.long (4 : Int64)), .second, .unset, .unset, .unset]) (hb hby d11_30) rfl rfl ?_
  refine o_lload X4 hx (pc' := 34) (hb hby d11_32) rfl rfl ?_
  refine o_lconst X4 hx (pc' := 35) (v := (0 : Int64)) (hb hby d11_34) rfl rfl ?_
  refine o_lcmp X4 hx (pc' := 36) (hb hby d11_35) rfl ?_
  refine o_lif_eq X4 hx (pc' := 39) (pt := 99) (hb hby d11_36) rfl (by decide) (by decide) (fun q => absurd q (by decide)) (fun _ => ?_)
  refine o_lload X4 hx (pc' := 41) (hb hby d11_39) rfl rfl ?_
  refine o_callSP X4 hx hZ [(.long (4 : Int64))] (rmP13_4 l Z a0 hw h4 n0 ZZ) hown (hw _ (List.mem_of_getElem? (i := 98) rfl)) (hw _ (List.mem_of_getElem? (i := 99) rfl)) (hw _ (List.mem_of_getElem? (i := 53) rfl)) (hw _ (List.mem_of_getElem? (i := 100) rfl)) (by decide) pd_1 e4 (by rw [hml]; rfl) rfl rfl rfl (hb hby d11_41) (pc' := 44) rfl 0 (Nat.le_of_eq rfl) (by decide) (by decide) rfl rfl (by decide) (by decide) ?_
  intro T5 X5 e5
  show Dn p e below _ (T5.setTop (mkF m 44 #[.val (.ref a1), .val (.ref a2), .val (.ref a3), .val (.long (0 : Int64)), .second, .val (.long (4 : Int64)), .second, .val (.int (0 : Int32)), .val (.long (4 : Int64)), .second, .unset, .unset, .unset] [(.int (2 : Int32))]))
  refine o_istore X5 hx (pc' := 46) (Ls' := #[.val (.ref a1), .val (.ref a2), .val (.ref a3), .val (.long (0 : Int64)), .second, .val (.long (4 : Int64)), .second, .val (.int (0 : Int32)), .val (.long (4 : Int64)), .second, .val (.int (2 : Int32)), .unset, .unset]) (hb hby d11_44) rfl rfl ?_
  refine o_aloadN X5 hx (pc' := 47) (hb hby d11_46) rfl rfl rfl ?_
  refine o_iload X5 hx (pc' := 49) (hb hby d11_47) rfl rfl ?_
  refine o_callVP X5 hx hZ a2 [(.int (2 : Int32))] (rmKO2 l Z a0 hw h4 n0 ZZ a2 a1 hP) hown (hw _ (List.mem_of_getElem? (i := 105) rfl)) (hw _ (List.mem_of_getElem? (i := 106) rfl)) (hw _ (List.mem_of_getElem? (i := 108) rfl)) (hw _ (List.mem_of_getElem? (i := 107) rfl)) (hw _ (List.mem_of_getElem? (i := 7) rfl)) (hw _ (List.mem_of_getElem? (i := 109) rfl)) (by decide) pE pd_0 e5 (by rw [hml]; rfl) rfl rfl rfl (hb hby d11_49) (pc' := 52) rfl 0 (Nat.le_of_eq rfl) (by decide) (by decide) rfl rfl (by decide) (by decide) ?_
  intro T6 X6 e6
  show Dn p e below _ (T6.setTop (mkF m 52 #[.val (.ref a1), .val (.ref a2), .val (.ref a3), .val (.long (0 : Int64)), .second, .val (.long (4 : Int64)), .second, .val (.int (0 : Int32)), .val (.long (4 : Int64)), .second, .val (.int (2 : Int32)), .unset, .unset] [(.int (5 : Int32))]))
  refine o_i2l X6 hx (pc' := 53) (hb hby d11_52) rfl ?_
  rw [show ((5 : Int32).toInt64) = (5 : Int64) from by decide +kernel]
  refine o_lloadN X6 hx (pc' := 54) (hb hby d11_53) rfl rfl ?_
  refine o_iload X6 hx (pc' := 56) (hb hby d11_54) rfl rfl ?_
  refine o_lushr X6 hx (pc' := 57) (hb hby d11_56) rfl ?_
  rw [show (((0 : Int64).toUInt64 >>> ((2 : Int32) &&& 0x3f).toInt64.toUInt64).toInt64) = (0 : Int64) from by decide +kernel]
  refine o_lconst X6 hx (pc' := 58) (v := (1 : Int64)) (hb hby d11_57) rfl rfl ?_
  refine o_land X6 hx (pc' := 59) (hb hby d11_58) rfl ?_
  rw [show ((0 : Int64) &&& (1 : Int64)) = (0 : Int64) from by decide +kernel]
  refine o_iconst X6 hx (pc' := 60) (v := (3 : Int32)) (hb hby d11_59) rfl rfl ?_
  refine o_lshl X6 hx (pc' := 61) (hb hby d11_60) rfl ?_
  rw [show ((0 : Int64) <<< ((3 : Int32) &&& 0x3f).toInt64) = (0 : Int64) from by decide +kernel]
  refine o_lor X6 hx (pc' := 62) (hb hby d11_61) rfl ?_
  rw [show ((5 : Int64) ||| (0 : Int64)) = (5 : Int64) from by decide +kernel]
  refine o_lstore X6 hx (pc' := 64) (Ls' := #[.val (.ref a1), .val (.ref a2), .val (.ref a3), .val (.long (0 : Int64)), .second, .val (.long (4 : Int64)), .second, .val (.int (0 : Int32)), .val (.long (4 : Int64)), .second, .val (.int (2 : Int32)), .val (.long (5 : Int64)), .second]) (hb hby d11_62) rfl rfl ?_
  refine o_aloadN X6 hx (pc' := 65) (hb hby d11_64) rfl rfl rfl ?_
  refine o_iconst X6 hx (pc' := 66) (v := (1 : Int32)) (hb hby d11_65) rfl rfl ?_
  refine o_iload X6 hx (pc' := 68) (hb hby d11_66) rfl rfl ?_
  refine o_bipush X6 hx (pc' := 70) (v := (64 : Int32)) (hb hby d11_68) rfl rfl ?_
  refine o_idiv X6 hx (pc' := 71) (hb hby d11_70) rfl (by decide) ?_
  rw [show ((0 : Int32) / (64 : Int32)) = (0 : Int32) from by decide +kernel]
  refine o_iadd X6 hx (pc' := 72) (hb hby d11_71) rfl ?_
  rw [show ((1 : Int32) + (0 : Int32)) = (1 : Int32) from by decide +kernel]
  refine o_dup2 X6 hx (pc' := 73) (hb hby d11_72) rfl rfl rfl ?_
  refine o_laload X6 hx hZ e6 hV (by decide) (v := (.long (0 : Int64))) rfl (hb hby d11_73) (pc' := 74) rfl ?_
  refine o_lload X6 hx (pc' := 76) (hb hby d11_74) rfl rfl ?_
  refine o_iload X6 hx (pc' := 78) (hb hby d11_76) rfl rfl ?_
  refine o_bipush X6 hx (pc' := 80) (v := (63 : Int32)) (hb hby d11_78) rfl rfl ?_
  refine o_iand X6 hx (pc' := 81) (hb hby d11_80) rfl ?_
  rw [show ((0 : Int32) &&& (63 : Int32)) = (0 : Int32) from by decide +kernel]
  refine o_lshl X6 hx (pc' := 82) (hb hby d11_81) rfl ?_
  rw [show ((5 : Int64) <<< ((0 : Int32) &&& 0x3f).toInt64) = (5 : Int64) from by decide +kernel]
  refine o_lor X6 hx (pc' := 83) (hb hby d11_82) rfl ?_
  rw [show ((0 : Int64) ||| (5 : Int64)) = (5 : Int64) from by decide +kernel]
  refine o_lastore X6 hx hZ e6 hV (by decide) 1 rfl (Nat.le_of_ble_eq_true rfl) (hb hby d11_83) (pc' := 84) rfl ?_
  intro T7 h7 X7 e7 W7 V7
  have NN := Fr.snoc X7 NN g_a3
  have KK := KK.wr W7 (Or.inl (List.mem_of_getElem? (i := 0) rfl))
  have ZZ := Nat.le_trans ZZ (Keep.of_wr W7).1
  have hG := hG.other W7 (Or.inl ne_a1_a3)
  have gE := gE.wr W7
  have gM := gM.other W7 (Or.inl ne_ge_a3)
  have gS := gS.other W7 (Or.inl ne_ge_a3)
  have hE := hE.wr W7
  have hV : Arv Z h7 a3 ks .long 2 [.long 4, .long 5] (.long 0) := V7
  have hP := hP.keep (Keep.of_wr W7) (by intro x hx; simp only [List.mem_cons, List.not_mem_nil, or_false] at hx; subst hx; exact Nat.le_of_lt (Nat.lt_trans lag lgs))
  have hPo := hP
  obtain ⟨bp, bc, kp, kc, lt_a, lt_bp, lt_bc, pE, pPi, pCo, pSi, pCa, pEn, pC9, pV1, pV2⟩ := hPo
  refine o_lload X7 hx (pc' := 86) (hb hby d11_84) rfl rfl ?_
  refine o_lload X7 hx (pc' := 88) (hb hby d11_86) rfl rfl ?_
  refine o_lconst X7 hx (pc' := 89) (v := (1 : Int64)) (hb hby d11_88) rfl rfl ?_
  refine o_lsub X7 hx (pc' := 90) (hb hby d11_89) rfl ?_
  rw [show ((4 : Int64) - (1 : Int64)) = (3 : Int64) from by decide +kernel]
  refine o_land X7 hx (pc' := 91) (hb hby d11_90) rfl ?_
  rw [show ((4 : Int64) &&& (3 : Int64)) = (0 : Int64) from by decide +kernel]
  refine o_lstore X7 hx (pc' := 93) (Ls' := #[.val (.ref a1), .val (.ref a2), .val (.ref a3), .val (.long (0 : Int64)), .second, .val (.long (4 : Int64)), .second, .val (.int (0 : Int32)), .val (.long (0 : Int64)), .second, .val (.int (2 : Int32)), .val (.long (5 : Int64)), .second]) (hb hby d11_91) rfl rfl ?_
  refine o_iinc X7 hx (pc' := 96) (Ls' := #[.val (.ref a1), .val (.ref a2), .val (.ref a3), .val (.long (0 : Int64)), .second, .val (.long (4 : Int64)), .second, .val (.int (4 : Int32)), .val (.long (0 : Int64)), .second, .val (.int (2 : Int32)), .val (.long (5 : Int64)), .second]) (v := (4 : Int32)) (hb hby d11_93) rfl rfl rfl rfl ?_
  refine o_goto X7 hx (pc' := 32) (hb hby d11_96) (by decide) (by decide) ?_
  refine o_lload X7 hx (pc' := 34) (hb hby d11_32) rfl rfl ?_
  refine o_lconst X7 hx (pc' := 35) (v := (0 : Int64)) (hb hby d11_34) rfl rfl ?_
  refine o_lcmp X7 hx (pc' := 36) (hb hby d11_35) rfl ?_
  refine o_lif_eq X7 hx (pc' := 39) (pt := 99) (hb hby d11_36) rfl (by decide) (by decide) (fun _ => ?_) (fun q => absurd (by decide) q)
  refine o_aloadN X7 hx (pc' := 100) (hb hby d11_99) rfl rfl rfl ?_
  refine o_getfield X7 hx hZ hown (hw _ (List.mem_of_getElem? (i := 44) rfl)) e7 hG (hb hby d11_100) (pc' := 103) rfl ?_
  intro T8 X8 e8
  refine o_aloadN X8 hx (pc' := 104) (hb hby d11_103) rfl rfl rfl ?_
  refine o_callV X8 hx hZ ge [(.ref a2)] (rmCC2 l Z a0 hw h7 n0 ZZ ge a2 a1 _ _ hP gE gM gS (Nat.le_of_lt lag) gge) hown (hw _ (List.mem_of_getElem? (i := 110) rfl)) (hw _ (List.mem_of_getElem? (i := 111) rfl)) (hw _ (List.mem_of_getElem? (i := 113) rfl)) (hw _ (List.mem_of_getElem? (i := 112) rfl)) (hw _ (List.mem_of_getElem? (i := 39) rfl)) (hw _ (List.mem_of_getElem? (i := 114) rfl)) (by decide) gE pd_6 e8 (by rw [hml]; rfl) rfl rfl rfl (hb hby d11_104) (pc' := 107) rfl 0 (Nat.le_of_eq rfl) (by decide) (by decide) (by decide) (by decide) ?_
  intro T9 v9 L9 X9 hQ9
  obtain ⟨rfl, Nq, Kq, gMq, gSq⟩ := hQ9
  have NN := Fr.app NN Nq
  have KK := KK.trans Kq (by intro x hx; simp only [List.mem_cons, List.not_mem_nil, or_false] at hx; subst hx; first | (left; simp; done) | (right; first | exact sz_none))
  have ZZ := Nat.le_trans ZZ Kq.1
  have hG := hG.keep Kq (by simp only [List.mem_cons, List.not_mem_nil, or_false, not_or]; exact ne_a1_ge)
  have gE := gE.keep Kq
  have hE := hE.keep Kq
  have hV := hV.keep Kq (by simp only [List.mem_cons, List.not_mem_nil, or_false, not_or]; exact ne_ge_a3.symm)
  have gM := gMq
  have gS := gSq
  have hP := hP.keep Kq (by intro x hx; simp only [List.mem_cons, List.not_mem_nil, or_false] at hx; subst hx; exact Nat.le_of_lt lag)
  have hPo := hP
  obtain ⟨bp, bc, kp, kc, lt_a, lt_bp, lt_bc, pE, pPi, pCo, pSi, pCa, pEn, pC9, pV1, pV2⟩ := hPo
  show Dn p e below _ (T9.setTop (mkF m 107 #[.val (.ref a1), .val (.ref a2), .val (.ref a3), .val (.long (0 : Int64)), .second, .val (.long (4 : Int64)), .second, .val (.int (4 : Int32)), .val (.long (0 : Int64)), .second, .val (.int (2 : Int32)), .val (.long (5 : Int64)), .second] [(.int (0 : Int32))]))
  refine o_if_eq X9 hx (pc' := 110) (pt := 123) (hb hby d11_107) rfl (by decide) (by decide) (fun _ => ?_) (fun q => absurd (by decide) q)
  refine o_lconst X9 hx (pc' := 124) (v := (0 : Int64)) (hb hby d11_123) rfl rfl ?_
  refine o_lstore X9 hx (pc' := 126) (Ls' := #[.val (.ref a1), .val (.ref a2), .val (.ref a3), .val (.long (0 : Int64)), .second, .val (.long (4 : Int64)), .second, .val (.int (4 : Int32)), .val (.long (0 : Int64)), .second, .val (.int (2 : Int32)), .val (.long (5 : Int64)), .second]) (hb hby d11_124) rfl rfl ?_
  refine o_aloadN X9 hx (pc' := 127) (hb hby d11_126) rfl rfl rfl ?_
  refine o_callVP X9 hx hZ a2 [] (rm17 l Z a0 hw T9.heap n0 ZZ a2 pSi) hown (hw _ (List.mem_of_getElem? (i := 140) rfl)) (hw _ (List.mem_of_getElem? (i := 116) rfl)) (hw _ (List.mem_of_getElem? (i := 118) rfl)) (hw _ (List.mem_of_getElem? (i := 117) rfl)) (hw _ (List.mem_of_getElem? (i := 7) rfl)) (hw _ (List.mem_of_getElem? (i := 119) rfl)) (by decide) pE pd_2 rfl (by rw [hml]; rfl) rfl rfl rfl (hb hby d11_127) (pc' := 130) rfl 0 (Nat.le_of_eq rfl) (by decide) (by decide) rfl rfl (by decide) (by decide) ?_
  intro T10 X10 e10
  show Dn p e below _ (T10.setTop (mkF m 130 #[.val (.ref a1), .val (.ref a2), .val (.ref a3), .val (.long (0 : Int64)), .second, .val (.long (4 : Int64)), .second, .val (.int (4 : Int32)), .val (.long (0 : Int64)), .second, .val (.int (2 : Int32)), .val (.long (5 : Int64)), .second] [(.int (0 : Int32))]))
  refine o_aloadN X10 hx (pc' := 131) (hb hby d11_130) rfl rfl rfl ?_
  refine o_callVP X10 hx hZ a2 [] (rm21 l Z a0 hw T9.heap n0 ZZ a2 pCa) hown (hw _ (List.mem_of_getElem? (i := 141) rfl)) (hw _ (List.mem_of_getElem? (i := 142) rfl)) (hw _ (List.mem_of_getElem? (i := 144) rfl)) (hw _ (List.mem_of_getElem? (i := 143) rfl)) (hw _ (List.mem_of_getElem? (i := 7) rfl)) (hw _ (List.mem_of_getElem? (i := 145) rfl)) (by decide) pE pd_2 e10 (by rw [hml]; rfl) rfl rfl rfl (hb hby d11_131) (pc' := 134) rfl 1 (Nat.le_of_eq rfl) (by decide) (by decide) rfl rfl (by decide) (by decide) ?_
  intro T11 X11 e11
  show Dn p e below _ (T11.setTop (mkF m 134 #[.val (.ref a1), .val (.ref a2), .val (.ref a3), .val (.long (0 : Int64)), .second, .val (.long (4 : Int64)), .second, .val (.int (4 : Int32)), .val (.long (0 : Int64)), .second, .val (.int (2 : Int32)), .val (.long (5 : Int64)), .second] [(.int (0 : Int32)), (.int (0 : Int32))]))
  refine o_iconst X11 hx (pc' := 135) (v := (1 : Int32)) (hb hby d11_134) rfl rfl ?_
  refine o_ishl X11 hx (pc' := 136) (hb hby d11_135) rfl ?_
  rw [show ((0 : Int32) <<< ((1 : Int32) &&& 31)) = (0 : Int32) from by decide +kernel]
  refine o_ior X11 hx (pc' := 137) (hb hby d11_136) rfl ?_
  rw [show ((0 : Int32) ||| (0 : Int32)) = (0 : Int32) from by decide +kernel]
  refine o_i2l X11 hx (pc' := 138) (hb hby d11_137) rfl ?_
  rw [show ((0 : Int32).toInt64) = (0 : Int64) from by decide +kernel]
  refine o_lload X11 hx (pc' := 140) (hb hby d11_138) rfl rfl ?_
  refine o_iconst X11 hx (pc' := 141) (v := (5 : Int32)) (hb hby d11_140) rfl rfl ?_
  refine o_lshl X11 hx (pc' := 142) (hb hby d11_141) rfl ?_
  rw [show ((0 : Int64) <<< ((5 : Int32) &&& 0x3f).toInt64) = (0 : Int64) from by decide +kernel]
  refine o_lor X11 hx (pc' := 143) (hb hby d11_142) rfl ?_
  rw [show ((0 : Int64) ||| (0 : Int64)) = (0 : Int64) from by decide +kernel]
  refine o_lstore X11 hx (pc' := 145) (Ls' := #[.val (.ref a1), .val (.ref a2), .val (.ref a3), .val (.long (0 : Int64)), .second, .val (.long (4 : Int64)), .second, .val (.int (4 : Int32)), .val (.long (0 : Int64)), .second, .val (.long (0 : Int64)), .second, .unset]) (hb hby d11_143) rfl rfl ?_
  refine o_aloadN X11 hx (pc' := 146) (hb hby d11_145) rfl rfl rfl ?_
  refine o_iconst X11 hx (pc' := 147) (v := (1 : Int32)) (hb hby d11_146) rfl rfl ?_
  refine o_iload X11 hx (pc' := 149) (hb hby d11_147) rfl rfl ?_
  refine o_bipush X11 hx (pc' := 151) (v := (64 : Int32)) (hb hby d11_149) rfl rfl ?_
  refine o_idiv X11 hx (pc' := 152) (hb hby d11_151) rfl (by decide) ?_
  rw [show ((4 : Int32) / (64 : Int32)) = (0 : Int32) from by decide +kernel]
  refine o_iadd X11 hx (pc' := 153) (hb hby d11_152) rfl ?_
  rw [show ((1 : Int32) + (0 : Int32)) = (1 : Int32) from by decide +kernel]
  refine o_dup2 X11 hx (pc' := 154) (hb hby d11_153) rfl rfl rfl ?_
  refine o_laload X11 hx hZ e11 hV (by decide) (v := (.long (5 : Int64))) rfl (hb hby d11_154) (pc' := 155) rfl ?_
  refine o_lload X11 hx (pc' := 157) (hb hby d11_155) rfl rfl ?_
  refine o_iload X11 hx (pc' := 159) (hb hby d11_157) rfl rfl ?_
  refine o_bipush X11 hx (pc' := 161) (v := (63 : Int32)) (hb hby d11_159) rfl rfl ?_
  refine o_iand X11 hx (pc' := 162) (hb hby d11_161) rfl ?_
  rw [show ((4 : Int32) &&& (63 : Int32)) = (4 : Int32) from by decide +kernel]
  refine o_lshl X11 hx (pc' := 163) (hb hby d11_162) rfl ?_
  rw [show ((0 : Int64) <<< ((4 : Int32) &&& 0x3f).toInt64) = (0 : Int64) from by decide +kernel]
  refine o_lor X11 hx (pc' := 164) (hb hby d11_163) rfl ?_
  rw [show ((5 : Int64) ||| (0 : Int64)) = (5 : Int64) from by decide +kernel]
  refine o_lastore X11 hx hZ e11 hV (by decide) 1 rfl (Nat.le_of_ble_eq_true rfl) (hb hby d11_164) (pc' := 165) rfl ?_
  intro T12 h12 X12 e12 W12 V12
  have NN := Fr.snoc X12 NN g_a3
  have KK := KK.wr W12 (Or.inl (List.mem_of_getElem? (i := 0) rfl))
  have ZZ := Nat.le_trans ZZ (Keep.of_wr W12).1
  have hG := hG.other W12 (Or.inl ne_a1_a3)
  have gE := gE.wr W12
  have hE := hE.wr W12
  have gM := gM.other W12 (Or.inl ne_ge_a3)
  have gS := gS.other W12 (Or.inl ne_ge_a3)
  have hV : Arv Z h12 a3 ks .long 2 [.long 4, .long 5] (.long 0) := V12
  refine o_iload X12 hx (pc' := 167) (hb hby d11_165) rfl rfl ?_
  refine o_bipush X12 hx (pc' := 169) (v := (63 : Int32)) (hb hby d11_167) rfl rfl ?_
  refine o_iand X12 hx (pc' := 170) (hb hby d11_169) rfl ?_
  rw [show ((4 : Int32) &&& (63 : Int32)) = (4 : Int32) from by decide +kernel]
  refine o_bipush X12 hx (pc' := 172) (v := (9 : Int32)) (hb hby d11_170) rfl rfl ?_
  refine o_iadd X12 hx (pc' := 173) (hb hby d11_172) rfl ?_
  rw [show ((4 : Int32) + (9 : Int32)) = (13 : Int32) from by decide +kernel]
  refine o_bipush X12 hx (pc' := 175) (v := (64 : Int32)) (hb hby d11_173) rfl rfl ?_
  refine o_icmp_le X12 hx (pc' := 178) (pt := 201) (hb hby d11_175) rfl (by decide) (by decide) (fun _ => ?_) (fun q => absurd q (by decide))
  exact finV X12 hx hlk hret (hb hby d11_201) (by decide) (by decide) ⟨rfl, NN, by rw [e12]; exact KK, by rw [e12]; exact hV, by rw [e12]; exact gM, by rw [e12]; exact gS⟩
set_option maxRecDepth 65536 in
set_option maxHeartbeats 40000000 in
theorem rmEN3 (l : Launch) (Z : State) (a0 : Array Value) (hw : ∀ d ∈ tables_1, d.before a0 Z = true) (h0 : Heap) (n0 : Nat) (Z0 : n0 ≤ h0.size) (a1 : Addr) (a2 : Addr) (a3 : Addr) (ge : Addr) (ks : ClassId) (x y : Int64) (u : Value) (w : Int32) (hP : Pos Z h0 a1 a2 8) (hE : Exa Z h0 a1 "com/example/jadoube/jadoube/PositionTable") (hG : Fld Z h0 a1 "com/example/jadoube/jadoube/PositionTable" "generator" "Lcom/example/jadoube/jadoube/MoveGenerator;" (.ref ge)) (gE : Exa Z h0 ge "com/example/jadoube/jadoube/MoveGenerator") (gM : Fld Z h0 ge "com/example/jadoube/jadoube/MoveGenerator" "moves" "[I" u) (gS : Fld Z h0 ge "com/example/jadoube/jadoube/MoveGenerator" "size" "I" (.int w)) (hV : Arv Z h0 a3 ks .long 2 [.long x, .long y] (.long 0)) (lag : a1 < ge) (lgs : ge < a3) (gge : n0 ≤ ge) (gsc : n0 ≤ a3) : Ctr l Z (⟨"com/example/jadoube/jadoube/PositionTable", "encode", "(Lcom/example/jadoube/jadoube/Position;[J)V"⟩ : MethodName) prog_33_method_7_code 13 none [] ({ frames := 4, cells := 0, slots := 0, locals := 57 } : Room) #[(.ref a1), (.ref a2), (.ref a3)] h0 (fun v h L => v = none ∧ Fr n0 L ∧ Keep h0 h [a3, ge] ∧ Arv Z h a3 ks .long 2 [.long 8, .long 5] (.long 0) ∧ Fld Z h ge "com/example/jadoube/jadoube/MoveGenerator" "moves" "[I" .null ∧ Fld Z h ge "com/example/jadoube/jadoube/MoveGenerator" "size" "I" (.int 0)) := by
  refine ctr_mk pn_11 (own := "com/example/jadoube/jadoube/PositionTable") (mn := "encode") rfl rfl ?_
  intro p e s m below meth c T0 X0 hx hby hml hZ hown hnm hret hlk e0
  refine o_entry (ef_11 m a1 a2 a3) ?_
  have g_a3 := gsc
  have g_ge := gge
  have ne_ge_a3 : ge ≠ a3 := Nat.ne_of_lt lgs
  have ne_a1_ge : a1 ≠ ge := Nat.ne_of_lt lag
  have ne_a1_a3 : a1 ≠ a3 := Nat.ne_of_lt (Nat.lt_trans lag lgs)
  have NN := Fr.nil n0
  have ZZ := Z0
  have KK := Keep.refl h0 [a3, ge]
  refine o_aloadN X0 hx (pc' := 1) (hb hby d11_0) rfl rfl rfl ?_
  refine o_lconst X0 hx (pc' := 2) (v := (0 : Int64)) (hb hby d11_1) rfl rfl ?_
  refine o_callS X0 hx hZ [(.ref a3), (.long (0 : Int64))] (rm12 l Z a0 hw h0 n0 ZZ a3 ks _ _ hV gsc) hown (hw _ (List.mem_of_getElem? (i := 94) rfl)) (hw _ (List.mem_of_getElem? (i := 95) rfl)) (hw _ (List.mem_of_getElem? (i := 96) rfl)) (hw _ (List.mem_of_getElem? (i := 97) rfl)) (by decide) pd_5 e0 (by rw [hml]; rfl) rfl rfl rfl (hb hby d11_2) (pc' := 5) rfl 0 (Nat.le_of_eq rfl) (by decide) (by decide) (by decide) (by decide) ?_
  intro T1 v1 L1 X1 hQ1
  obtain ⟨rfl, Nq, Kq, hVq⟩ := hQ1
  have NN := Fr.app NN Nq
  have KK := KK.trans Kq (by intro x hx; simp only [List.mem_cons, List.not_mem_nil, or_false] at hx; subst hx; first | (left; simp; done) | (right; first | exact sz_none))
  have ZZ := Nat.le_trans ZZ Kq.1
  have hG := hG.keep Kq (by simp only [List.mem_cons, List.not_mem_nil, or_false, not_or]; exact ne_a1_a3)
  have gE := gE.keep Kq
  have gM := gM.keep Kq (by simp only [List.mem_cons, List.not_mem_nil, or_false, not_or]; exact ne_ge_a3)
  have gS := gS.keep Kq (by simp only [List.mem_cons, List.not_mem_nil, or_false, not_or]; exact ne_ge_a3)
  have hE := hE.keep Kq
  have hV := hVq
  have hP := hP.keep Kq (by intro x hx; simp only [List.mem_cons, List.not_mem_nil, or_false] at hx; subst hx; exact Nat.le_of_lt (Nat.lt_trans lag lgs))
  have hPo := hP
  obtain ⟨bp, bc, kp, kc, lt_a, lt_bp, lt_bc, pE, pPi, pCo, pSi, pCa, pEn, pC9, pV1, pV2⟩ := hPo
  show Dn p e below _ (T1.setTop (mkF m 5 #[.val (.ref a1), .val (.ref a2), .val (.ref a3), .unset, .unset, .unset, .unset, .unset, .unset, .unset, .unset, .unset, .unset] []))
  refine o_aloadN X1 hx (pc' := 6) (hb hby d11_5) rfl rfl rfl ?_
  refine o_iconst X1 hx (pc' := 7) (v := (1 : Int32)) (hb hby d11_6) rfl rfl ?_
  refine o_callVP X1 hx hZ a2 [(.int (1 : Int32))] (rm6 l Z a0 hw T1.heap n0 ZZ a2 (1 : Int32) bc kc _ (0 : Int64) pCo pV2 (by decide) rfl) hown (hw _ (List.mem_of_getElem? (i := 46) rfl)) (hw _ (List.mem_of_getElem? (i := 47) rfl)) (hw _ (List.mem_of_getElem? (i := 49) rfl)) (hw _ (List.mem_of_getElem? (i := 48) rfl)) (hw _ (List.mem_of_getElem? (i := 7) rfl)) (hw _ (List.mem_of_getElem? (i := 50) rfl)) (by decide) pE pd_3 rfl (by rw [hml]; rfl) rfl rfl rfl (hb hby d11_7) (pc' := 10) rfl 0 (Nat.le_of_eq rfl) (by decide) (by decide) rfl rfl (by decide) (by decide) ?_
  intro T2 X2 e2
  show Dn p e below _ (T2.setTop (mkF m 10 #[.val (.ref a1), .val (.ref a2), .val (.ref a3), .unset, .unset, .unset, .unset, .unset, .unset, .unset, .unset, .unset, .unset] [(.long (0 : Int64))]))
  refine o_lstoreN X2 hx (pc' := 11) (Ls' := #[.val (.ref a1), .val (.ref a2), .val (.ref a3), .val (.long (0 : Int64)), .second, .unset, .unset, .unset, .unset, .unset, .unset, .unset, .unset]) (hb hby d11_10) rfl rfl ?_
  refine o_aloadN X2 hx (pc' := 12) (hb hby d11_11) rfl rfl rfl ?_
  refine o_iconst X2 hx (pc' := 13) (v := (0 : Int32)) (hb hby d11_12) rfl rfl ?_
  refine o_callVP X2 hx hZ a2 [(.int (0 : Int32))] (rm6 l Z a0 hw T1.heap n0 ZZ a2 (0 : Int32) bc kc _ (8 : Int64) pCo pV2 (by decide) rfl) hown (hw _ (List.mem_of_getElem? (i := 46) rfl)) (hw _ (List.mem_of_getElem? (i := 47) rfl)) (hw _ (List.mem_of_getElem? (i := 49) rfl)) (hw _ (List.mem_of_getElem? (i := 48) rfl)) (hw _ (List.mem_of_getElem? (i := 7) rfl)) (hw _ (List.mem_of_getElem? (i := 50) rfl)) (by decide) pE pd_3 e2 (by rw [hml]; rfl) rfl rfl rfl (hb hby d11_13) (pc' := 16) rfl 0 (Nat.le_of_eq rfl) (by decide) (by decide) rfl rfl (by decide) (by decide) ?_
  intro T3 X3 e3
  show Dn p e below _ (T3.setTop (mkF m 16 #[.val (.ref a1), .val (.ref a2), .val (.ref a3), .val (.long (0 : Int64)), .second, .unset, .unset, .unset, .unset, .unset, .unset, .unset, .unset] [(.long (8 : Int64))]))
  refine o_lloadN X3 hx (pc' := 17) (hb hby d11_16) rfl rfl ?_
  refine o_lor X3 hx (pc' := 18) (hb hby d11_17) rfl ?_
  rw [show ((8 : Int64) ||| (0 : Int64)) = (8 : Int64) from by decide +kernel]
  refine o_lstore X3 hx (pc' := 20) (Ls' := #[.val (.ref a1), .val (.ref a2), .val (.ref a3), .val (.long (0 : Int64)), .second, .val (.long (8 : Int64)), .second, .unset, .unset, .unset, .unset, .unset, .unset]) (hb hby d11_18) rfl rfl ?_
  refine o_aloadN X3 hx (pc' := 21) (hb hby d11_20) rfl rfl rfl ?_
  refine o_iconst X3 hx (pc' := 22) (v := (0 : Int32)) (hb hby d11_21) rfl rfl ?_
  refine o_lload X3 hx (pc' := 24) (hb hby d11_22) rfl rfl ?_
  refine o_lastore X3 hx hZ e3 hV (by decide) 0 rfl (Nat.le_of_ble_eq_true rfl) (hb hby d11_24) (pc' := 25) rfl ?_
  intro T4 h4 X4 e4 W4 V4
  have NN := Fr.snoc X4 NN g_a3
  have KK := KK.wr W4 (Or.inl (List.mem_of_getElem? (i := 0) rfl))
  have ZZ := Nat.le_trans ZZ (Keep.of_wr W4).1
  have hG := hG.other W4 (Or.inl ne_a1_a3)
  have gE := gE.wr W4
  have gM := gM.other W4 (Or.inl ne_ge_a3)
  have gS := gS.other W4 (Or.inl ne_ge_a3)
  have hE := hE.wr W4
  have hV : Arv Z h4 a3 ks .long 2 [.long 8, .long 0] (.long 0) := V4
  have hP := hP.keep (Keep.of_wr W4) (by intro x hx; simp only [List.mem_cons, List.not_mem_nil, or_false] at hx; subst hx; exact Nat.le_of_lt (Nat.lt_trans lag lgs))
  have hPo := hP
  obtain ⟨bp, bc, kp, kc, lt_a, lt_bp, lt_bc, pE, pPi, pCo, pSi, pCa, pEn, pC9, pV1, pV2⟩ := hPo
  refine o_iconst X4 hx (pc' := 26) (v := (0 : Int32)) (hb hby d11_25) rfl rfl ?_
  refine o_istore X4 hx (pc' := 28) (Ls' := #[.val (.ref a1), .val (.ref a2), .val (.ref a3), .val (.long (0 : Int64)), .second, .val (.long (8 : Int64)), .second, .val (.int (0 : Int32)), .unset, .unset, .unset, .unset, .unset]) (hb hby d11_26) rfl rfl ?_
  refine o_lload X4 hx (pc' := 30) (hb hby d11_28) rfl rfl ?_
  refine o_lstore X4 hx (pc' := 32) (Ls' := #[.val (.ref a1), .val (.ref a2), .val (.ref a3), .val (.long (0 : Int64)), .second, .val (.long (8 : Int64)), .second, .val (.int (0 : Int32)), .val (.long (8 : Int64)), .second, .unset, .unset, .unset]) (hb hby d11_30) rfl rfl ?_
  refine o_lload X4 hx (pc' := 34) (hb hby d11_32) rfl rfl ?_
  refine o_lconst X4 hx (pc' := 35) (v := (0 : Int64)) (hb hby d11_34) rfl rfl ?_
  refine o_lcmp X4 hx (pc' := 36) (hb hby d11_35) rfl ?_
  refine o_lif_eq X4 hx (pc' := 39) (pt := 99) (hb hby d11_36) rfl (by decide) (by decide) (fun q => absurd q (by decide)) (fun _ => ?_)
  refine o_lload X4 hx (pc' := 41) (hb hby d11_39) rfl rfl ?_
  refine o_callSP X4 hx hZ [(.long (8 : Int64))] (rmP13_8 l Z a0 hw h4 n0 ZZ) hown (hw _ (List.mem_of_getElem? (i := 98) rfl)) (hw _ (List.mem_of_getElem? (i := 99) rfl)) (hw _ (List.mem_of_getElem? (i := 53) rfl)) (hw _ (List.mem_of_getElem? (i := 100) rfl)) (by decide) pd_1 e4 (by rw [hml]; rfl) rfl rfl rfl (hb hby d11_41) (pc' := 44) rfl 0 (Nat.le_of_eq rfl) (by decide) (by decide) rfl rfl (by decide) (by decide) ?_
  intro T5 X5 e5
  show Dn p e below _ (T5.setTop (mkF m 44 #[.val (.ref a1), .val (.ref a2), .val (.ref a3), .val (.long (0 : Int64)), .second, .val (.long (8 : Int64)), .second, .val (.int (0 : Int32)), .val (.long (8 : Int64)), .second, .unset, .unset, .unset] [(.int (3 : Int32))]))
  refine o_istore X5 hx (pc' := 46) (Ls' := #[.val (.ref a1), .val (.ref a2), .val (.ref a3), .val (.long (0 : Int64)), .second, .val (.long (8 : Int64)), .second, .val (.int (0 : Int32)), .val (.long (8 : Int64)), .second, .val (.int (3 : Int32)), .unset, .unset]) (hb hby d11_44) rfl rfl ?_
  refine o_aloadN X5 hx (pc' := 47) (hb hby d11_46) rfl rfl rfl ?_
  refine o_iload X5 hx (pc' := 49) (hb hby d11_47) rfl rfl ?_
  refine o_callVP X5 hx hZ a2 [(.int (3 : Int32))] (rmKO3 l Z a0 hw h4 n0 ZZ a2 a1 hP) hown (hw _ (List.mem_of_getElem? (i := 105) rfl)) (hw _ (List.mem_of_getElem? (i := 106) rfl)) (hw _ (List.mem_of_getElem? (i := 108) rfl)) (hw _ (List.mem_of_getElem? (i := 107) rfl)) (hw _ (List.mem_of_getElem? (i := 7) rfl)) (hw _ (List.mem_of_getElem? (i := 109) rfl)) (by decide) pE pd_0 e5 (by rw [hml]; rfl) rfl rfl rfl (hb hby d11_49) (pc' := 52) rfl 0 (Nat.le_of_eq rfl) (by decide) (by decide) rfl rfl (by decide) (by decide) ?_
  intro T6 X6 e6
  show Dn p e below _ (T6.setTop (mkF m 52 #[.val (.ref a1), .val (.ref a2), .val (.ref a3), .val (.long (0 : Int64)), .second, .val (.long (8 : Int64)), .second, .val (.int (0 : Int32)), .val (.long (8 : Int64)), .second, .val (.int (3 : Int32)), .unset, .unset] [(.int (5 : Int32))]))
  refine o_i2l X6 hx (pc' := 53) (hb hby d11_52) rfl ?_
  rw [show ((5 : Int32).toInt64) = (5 : Int64) from by decide +kernel]
  refine o_lloadN X6 hx (pc' := 54) (hb hby d11_53) rfl rfl ?_
  refine o_iload X6 hx (pc' := 56) (hb hby d11_54) rfl rfl ?_
  refine o_lushr X6 hx (pc' := 57) (hb hby d11_56) rfl ?_
  rw [show (((0 : Int64).toUInt64 >>> ((3 : Int32) &&& 0x3f).toInt64.toUInt64).toInt64) = (0 : Int64) from by decide +kernel]
  refine o_lconst X6 hx (pc' := 58) (v := (1 : Int64)) (hb hby d11_57) rfl rfl ?_
  refine o_land X6 hx (pc' := 59) (hb hby d11_58) rfl ?_
  rw [show ((0 : Int64) &&& (1 : Int64)) = (0 : Int64) from by decide +kernel]
  refine o_iconst X6 hx (pc' := 60) (v := (3 : Int32)) (hb hby d11_59) rfl rfl ?_
  refine o_lshl X6 hx (pc' := 61) (hb hby d11_60) rfl ?_
  rw [show ((0 : Int64) <<< ((3 : Int32) &&& 0x3f).toInt64) = (0 : Int64) from by decide +kernel]
  refine o_lor X6 hx (pc' := 62) (hb hby d11_61) rfl ?_
  rw [show ((5 : Int64) ||| (0 : Int64)) = (5 : Int64) from by decide +kernel]
  refine o_lstore X6 hx (pc' := 64) (Ls' := #[.val (.ref a1), .val (.ref a2), .val (.ref a3), .val (.long (0 : Int64)), .second, .val (.long (8 : Int64)), .second, .val (.int (0 : Int32)), .val (.long (8 : Int64)), .second, .val (.int (3 : Int32)), .val (.long (5 : Int64)), .second]) (hb hby d11_62) rfl rfl ?_
  refine o_aloadN X6 hx (pc' := 65) (hb hby d11_64) rfl rfl rfl ?_
  refine o_iconst X6 hx (pc' := 66) (v := (1 : Int32)) (hb hby d11_65) rfl rfl ?_
  refine o_iload X6 hx (pc' := 68) (hb hby d11_66) rfl rfl ?_
  refine o_bipush X6 hx (pc' := 70) (v := (64 : Int32)) (hb hby d11_68) rfl rfl ?_
  refine o_idiv X6 hx (pc' := 71) (hb hby d11_70) rfl (by decide) ?_
  rw [show ((0 : Int32) / (64 : Int32)) = (0 : Int32) from by decide +kernel]
  refine o_iadd X6 hx (pc' := 72) (hb hby d11_71) rfl ?_
  rw [show ((1 : Int32) + (0 : Int32)) = (1 : Int32) from by decide +kernel]
  refine o_dup2 X6 hx (pc' := 73) (hb hby d11_72) rfl rfl rfl ?_
  refine o_laload X6 hx hZ e6 hV (by decide) (v := (.long (0 : Int64))) rfl (hb hby d11_73) (pc' := 74) rfl ?_
  refine o_lload X6 hx (pc' := 76) (hb hby d11_74) rfl rfl ?_
  refine o_iload X6 hx (pc' := 78) (hb hby d11_76) rfl rfl ?_
  refine o_bipush X6 hx (pc' := 80) (v := (63 : Int32)) (hb hby d11_78) rfl rfl ?_
  refine o_iand X6 hx (pc' := 81) (hb hby d11_80) rfl ?_
  rw [show ((0 : Int32) &&& (63 : Int32)) = (0 : Int32) from by decide +kernel]
  refine o_lshl X6 hx (pc' := 82) (hb hby d11_81) rfl ?_
  rw [show ((5 : Int64) <<< ((0 : Int32) &&& 0x3f).toInt64) = (5 : Int64) from by decide +kernel]
  refine o_lor X6 hx (pc' := 83) (hb hby d11_82) rfl ?_
  rw [show ((0 : Int64) ||| (5 : Int64)) = (5 : Int64) from by decide +kernel]
  refine o_lastore X6 hx hZ e6 hV (by decide) 1 rfl (Nat.le_of_ble_eq_true rfl) (hb hby d11_83) (pc' := 84) rfl ?_
  intro T7 h7 X7 e7 W7 V7
  have NN := Fr.snoc X7 NN g_a3
  have KK := KK.wr W7 (Or.inl (List.mem_of_getElem? (i := 0) rfl))
  have ZZ := Nat.le_trans ZZ (Keep.of_wr W7).1
  have hG := hG.other W7 (Or.inl ne_a1_a3)
  have gE := gE.wr W7
  have gM := gM.other W7 (Or.inl ne_ge_a3)
  have gS := gS.other W7 (Or.inl ne_ge_a3)
  have hE := hE.wr W7
  have hV : Arv Z h7 a3 ks .long 2 [.long 8, .long 5] (.long 0) := V7
  have hP := hP.keep (Keep.of_wr W7) (by intro x hx; simp only [List.mem_cons, List.not_mem_nil, or_false] at hx; subst hx; exact Nat.le_of_lt (Nat.lt_trans lag lgs))
  have hPo := hP
  obtain ⟨bp, bc, kp, kc, lt_a, lt_bp, lt_bc, pE, pPi, pCo, pSi, pCa, pEn, pC9, pV1, pV2⟩ := hPo
  refine o_lload X7 hx (pc' := 86) (hb hby d11_84) rfl rfl ?_
  refine o_lload X7 hx (pc' := 88) (hb hby d11_86) rfl rfl ?_
  refine o_lconst X7 hx (pc' := 89) (v := (1 : Int64)) (hb hby d11_88) rfl rfl ?_
  refine o_lsub X7 hx (pc' := 90) (hb hby d11_89) rfl ?_
  rw [show ((8 : Int64) - (1 : Int64)) = (7 : Int64) from by decide +kernel]
  refine o_land X7 hx (pc' := 91) (hb hby d11_90) rfl ?_
  rw [show ((8 : Int64) &&& (7 : Int64)) = (0 : Int64) from by decide +kernel]
  refine o_lstore X7 hx (pc' := 93) (Ls' := #[.val (.ref a1), .val (.ref a2), .val (.ref a3), .val (.long (0 : Int64)), .second, .val (.long (8 : Int64)), .second, .val (.int (0 : Int32)), .val (.long (0 : Int64)), .second, .val (.int (3 : Int32)), .val (.long (5 : Int64)), .second]) (hb hby d11_91) rfl rfl ?_
  refine o_iinc X7 hx (pc' := 96) (Ls' := #[.val (.ref a1), .val (.ref a2), .val (.ref a3), .val (.long (0 : Int64)), .second, .val (.long (8 : Int64)), .second, .val (.int (4 : Int32)), .val (.long (0 : Int64)), .second, .val (.int (3 : Int32)), .val (.long (5 : Int64)), .second]) (v := (4 : Int32)) (hb hby d11_93) rfl rfl rfl rfl ?_
  refine o_goto X7 hx (pc' := 32) (hb hby d11_96) (by decide) (by decide) ?_
  refine o_lload X7 hx (pc' := 34) (hb hby d11_32) rfl rfl ?_
  refine o_lconst X7 hx (pc' := 35) (v := (0 : Int64)) (hb hby d11_34) rfl rfl ?_
  refine o_lcmp X7 hx (pc' := 36) (hb hby d11_35) rfl ?_
  refine o_lif_eq X7 hx (pc' := 39) (pt := 99) (hb hby d11_36) rfl (by decide) (by decide) (fun _ => ?_) (fun q => absurd (by decide) q)
  refine o_aloadN X7 hx (pc' := 100) (hb hby d11_99) rfl rfl rfl ?_
  refine o_getfield X7 hx hZ hown (hw _ (List.mem_of_getElem? (i := 44) rfl)) e7 hG (hb hby d11_100) (pc' := 103) rfl ?_
  intro T8 X8 e8
  refine o_aloadN X8 hx (pc' := 104) (hb hby d11_103) rfl rfl rfl ?_
  refine o_callV X8 hx hZ ge [(.ref a2)] (rmCC3 l Z a0 hw h7 n0 ZZ ge a2 a1 _ _ hP gE gM gS (Nat.le_of_lt lag) gge) hown (hw _ (List.mem_of_getElem? (i := 110) rfl)) (hw _ (List.mem_of_getElem? (i := 111) rfl)) (hw _ (List.mem_of_getElem? (i := 113) rfl)) (hw _ (List.mem_of_getElem? (i := 112) rfl)) (hw _ (List.mem_of_getElem? (i := 39) rfl)) (hw _ (List.mem_of_getElem? (i := 114) rfl)) (by decide) gE pd_6 e8 (by rw [hml]; rfl) rfl rfl rfl (hb hby d11_104) (pc' := 107) rfl 0 (Nat.le_of_eq rfl) (by decide) (by decide) (by decide) (by decide) ?_
  intro T9 v9 L9 X9 hQ9
  obtain ⟨rfl, Nq, Kq, gMq, gSq⟩ := hQ9
  have NN := Fr.app NN Nq
  have KK := KK.trans Kq (by intro x hx; simp only [List.mem_cons, List.not_mem_nil, or_false] at hx; subst hx; first | (left; simp; done) | (right; first | exact sz_none))
  have ZZ := Nat.le_trans ZZ Kq.1
  have hG := hG.keep Kq (by simp only [List.mem_cons, List.not_mem_nil, or_false, not_or]; exact ne_a1_ge)
  have gE := gE.keep Kq
  have hE := hE.keep Kq
  have hV := hV.keep Kq (by simp only [List.mem_cons, List.not_mem_nil, or_false, not_or]; exact ne_ge_a3.symm)
  have gM := gMq
  have gS := gSq
  have hP := hP.keep Kq (by intro x hx; simp only [List.mem_cons, List.not_mem_nil, or_false] at hx; subst hx; exact Nat.le_of_lt lag)
  have hPo := hP
  obtain ⟨bp, bc, kp, kc, lt_a, lt_bp, lt_bc, pE, pPi, pCo, pSi, pCa, pEn, pC9, pV1, pV2⟩ := hPo
  show Dn p e below _ (T9.setTop (mkF m 107 #[.val (.ref a1), .val (.ref a2), .val (.ref a3), .val (.long (0 : Int64)), .second, .val (.long (8 : Int64)), .second, .val (.int (4 : Int32)), .val (.long (0 : Int64)), .second, .val (.int (3 : Int32)), .val (.long (5 : Int64)), .second] [(.int (0 : Int32))]))
  refine o_if_eq X9 hx (pc' := 110) (pt := 123) (hb hby d11_107) rfl (by decide) (by decide) (fun _ => ?_) (fun q => absurd (by decide) q)
  refine o_lconst X9 hx (pc' := 124) (v := (0 : Int64)) (hb hby d11_123) rfl rfl ?_
  refine o_lstore X9 hx (pc' := 126) (Ls' := #[.val (.ref a1), .val (.ref a2), .val (.ref a3), .val (.long (0 : Int64)), .second, .val (.long (8 : Int64)), .second, .val (.int (4 : Int32)), .val (.long (0 : Int64)), .second, .val (.int (3 : Int32)), .val (.long (5 : Int64)), .second]) (hb hby d11_124) rfl rfl ?_
  refine o_aloadN X9 hx (pc' := 127) (hb hby d11_126) rfl rfl rfl ?_
  refine o_callVP X9 hx hZ a2 [] (rm17 l Z a0 hw T9.heap n0 ZZ a2 pSi) hown (hw _ (List.mem_of_getElem? (i := 140) rfl)) (hw _ (List.mem_of_getElem? (i := 116) rfl)) (hw _ (List.mem_of_getElem? (i := 118) rfl)) (hw _ (List.mem_of_getElem? (i := 117) rfl)) (hw _ (List.mem_of_getElem? (i := 7) rfl)) (hw _ (List.mem_of_getElem? (i := 119) rfl)) (by decide) pE pd_2 rfl (by rw [hml]; rfl) rfl rfl rfl (hb hby d11_127) (pc' := 130) rfl 0 (Nat.le_of_eq rfl) (by decide) (by decide) rfl rfl (by decide) (by decide) ?_
  intro T10 X10 e10
  show Dn p e below _ (T10.setTop (mkF m 130 #[.val (.ref a1), .val (.ref a2), .val (.ref a3), .val (.long (0 : Int64)), .second, .val (.long (8 : Int64)), .second, .val (.int (4 : Int32)), .val (.long (0 : Int64)), .second, .val (.int (3 : Int32)), .val (.long (5 : Int64)), .second] [(.int (0 : Int32))]))
  refine o_aloadN X10 hx (pc' := 131) (hb hby d11_130) rfl rfl rfl ?_
  refine o_callVP X10 hx hZ a2 [] (rm21 l Z a0 hw T9.heap n0 ZZ a2 pCa) hown (hw _ (List.mem_of_getElem? (i := 141) rfl)) (hw _ (List.mem_of_getElem? (i := 142) rfl)) (hw _ (List.mem_of_getElem? (i := 144) rfl)) (hw _ (List.mem_of_getElem? (i := 143) rfl)) (hw _ (List.mem_of_getElem? (i := 7) rfl)) (hw _ (List.mem_of_getElem? (i := 145) rfl)) (by decide) pE pd_2 e10 (by rw [hml]; rfl) rfl rfl rfl (hb hby d11_131) (pc' := 134) rfl 1 (Nat.le_of_eq rfl) (by decide) (by decide) rfl rfl (by decide) (by decide) ?_
  intro T11 X11 e11
  show Dn p e below _ (T11.setTop (mkF m 134 #[.val (.ref a1), .val (.ref a2), .val (.ref a3), .val (.long (0 : Int64)), .second, .val (.long (8 : Int64)), .second, .val (.int (4 : Int32)), .val (.long (0 : Int64)), .second, .val (.int (3 : Int32)), .val (.long (5 : Int64)), .second] [(.int (0 : Int32)), (.int (0 : Int32))]))
  refine o_iconst X11 hx (pc' := 135) (v := (1 : Int32)) (hb hby d11_134) rfl rfl ?_
  refine o_ishl X11 hx (pc' := 136) (hb hby d11_135) rfl ?_
  rw [show ((0 : Int32) <<< ((1 : Int32) &&& 31)) = (0 : Int32) from by decide +kernel]
  refine o_ior X11 hx (pc' := 137) (hb hby d11_136) rfl ?_
  rw [show ((0 : Int32) ||| (0 : Int32)) = (0 : Int32) from by decide +kernel]
  refine o_i2l X11 hx (pc' := 138) (hb hby d11_137) rfl ?_
  rw [show ((0 : Int32).toInt64) = (0 : Int64) from by decide +kernel]
  refine o_lload X11 hx (pc' := 140) (hb hby d11_138) rfl rfl ?_
  refine o_iconst X11 hx (pc' := 141) (v := (5 : Int32)) (hb hby d11_140) rfl rfl ?_
  refine o_lshl X11 hx (pc' := 142) (hb hby d11_141) rfl ?_
  rw [show ((0 : Int64) <<< ((5 : Int32) &&& 0x3f).toInt64) = (0 : Int64) from by decide +kernel]
  refine o_lor X11 hx (pc' := 143) (hb hby d11_142) rfl ?_
  rw [show ((0 : Int64) ||| (0 : Int64)) = (0 : Int64) from by decide +kernel]
  refine o_lstore X11 hx (pc' := 145) (Ls' := #[.val (.ref a1), .val (.ref a2), .val (.ref a3), .val (.long (0 : Int64)), .second, .val (.long (8 : Int64)), .second, .val (.int (4 : Int32)), .val (.long (0 : Int64)), .second, .val (.long (0 : Int64)), .second, .unset]) (hb hby d11_143) rfl rfl ?_
  refine o_aloadN X11 hx (pc' := 146) (hb hby d11_145) rfl rfl rfl ?_
  refine o_iconst X11 hx (pc' := 147) (v := (1 : Int32)) (hb hby d11_146) rfl rfl ?_
  refine o_iload X11 hx (pc' := 149) (hb hby d11_147) rfl rfl ?_
  refine o_bipush X11 hx (pc' := 151) (v := (64 : Int32)) (hb hby d11_149) rfl rfl ?_
  refine o_idiv X11 hx (pc' := 152) (hb hby d11_151) rfl (by decide) ?_
  rw [show ((4 : Int32) / (64 : Int32)) = (0 : Int32) from by decide +kernel]
  refine o_iadd X11 hx (pc' := 153) (hb hby d11_152) rfl ?_
  rw [show ((1 : Int32) + (0 : Int32)) = (1 : Int32) from by decide +kernel]
  refine o_dup2 X11 hx (pc' := 154) (hb hby d11_153) rfl rfl rfl ?_
  refine o_laload X11 hx hZ e11 hV (by decide) (v := (.long (5 : Int64))) rfl (hb hby d11_154) (pc' := 155) rfl ?_
  refine o_lload X11 hx (pc' := 157) (hb hby d11_155) rfl rfl ?_
  refine o_iload X11 hx (pc' := 159) (hb hby d11_157) rfl rfl ?_
  refine o_bipush X11 hx (pc' := 161) (v := (63 : Int32)) (hb hby d11_159) rfl rfl ?_
  refine o_iand X11 hx (pc' := 162) (hb hby d11_161) rfl ?_
  rw [show ((4 : Int32) &&& (63 : Int32)) = (4 : Int32) from by decide +kernel]
  refine o_lshl X11 hx (pc' := 163) (hb hby d11_162) rfl ?_
  rw [show ((0 : Int64) <<< ((4 : Int32) &&& 0x3f).toInt64) = (0 : Int64) from by decide +kernel]
  refine o_lor X11 hx (pc' := 164) (hb hby d11_163) rfl ?_
  rw [show ((5 : Int64) ||| (0 : Int64)) = (5 : Int64) from by decide +kernel]
  refine o_lastore X11 hx hZ e11 hV (by decide) 1 rfl (Nat.le_of_ble_eq_true rfl) (hb hby d11_164) (pc' := 165) rfl ?_
  intro T12 h12 X12 e12 W12 V12
  have NN := Fr.snoc X12 NN g_a3
  have KK := KK.wr W12 (Or.inl (List.mem_of_getElem? (i := 0) rfl))
  have ZZ := Nat.le_trans ZZ (Keep.of_wr W12).1
  have hG := hG.other W12 (Or.inl ne_a1_a3)
  have gE := gE.wr W12
  have hE := hE.wr W12
  have gM := gM.other W12 (Or.inl ne_ge_a3)
  have gS := gS.other W12 (Or.inl ne_ge_a3)
  have hV : Arv Z h12 a3 ks .long 2 [.long 8, .long 5] (.long 0) := V12
  refine o_iload X12 hx (pc' := 167) (hb hby d11_165) rfl rfl ?_
  refine o_bipush X12 hx (pc' := 169) (v := (63 : Int32)) (hb hby d11_167) rfl rfl ?_
  refine o_iand X12 hx (pc' := 170) (hb hby d11_169) rfl ?_
  rw [show ((4 : Int32) &&& (63 : Int32)) = (4 : Int32) from by decide +kernel]
  refine o_bipush X12 hx (pc' := 172) (v := (9 : Int32)) (hb hby d11_170) rfl rfl ?_
  refine o_iadd X12 hx (pc' := 173) (hb hby d11_172) rfl ?_
  rw [show ((4 : Int32) + (9 : Int32)) = (13 : Int32) from by decide +kernel]
  refine o_bipush X12 hx (pc' := 175) (v := (64 : Int32)) (hb hby d11_173) rfl rfl ?_
  refine o_icmp_le X12 hx (pc' := 178) (pt := 201) (hb hby d11_175) rfl (by decide) (by decide) (fun _ => ?_) (fun q => absurd q (by decide))
  exact finV X12 hx hlk hret (hb hby d11_201) (by decide) (by decide) ⟨rfl, NN, by rw [e12]; exact KK, by rw [e12]; exact hV, by rw [e12]; exact gM, by rw [e12]; exact gS⟩
section Copy
variable {p : Program} {l : Launch} {e : Env} {R : Room} {s : State} {m : MethodId} {args : Array Value} {below : List Frame} {meth : Method} {c : Code} {T : State} {locs : List Loc} {cells slots : Nat} {Z : State} {a0 : Array Value} {h : Heap} {P : State → Outcome → Prop} {pc pc' : Nat} {Ls : Array Slot} {st : List Value}
theorem o_acopy (X : Stand p l e R s m args below meth c T locs cells slots) (hx : p.tables.exec = Jvm.exec) (hZ : Z.Warmed39 s.vm) {own : String} {index : Nat} (hown : s.vm.findClass own = some m.cls) (w1 : (Jvm.Cond.methodLink own index acN).before a0 Z = true) (w2 : (Jvm.Cond.native acN).before a0 Z = true) (w3 : (Jvm.Cond.static acN).before a0 Z = true) (w4 : (Jvm.Cond.initialized "java/lang/System").before a0 Z = true) (eT : T.heap = h)
    {a b : Addr} {ka kb : ClassId} {na nb : Int32} {va vb : List Value} {d1 d2 : Value} (VA : Arv Z h a ka .long na va d1) (VB : Arv Z h b kb .long nb vb d2) {jo jq jn : Int32} (o q n : Nat) (ho : jo = Int32.ofNat o) (hq : jq = Int32.ofNat q) (hn : jn = Int32.ofNat n) (h4 : o + n ≤ na.toNatClampNeg) (h5 : q + n ≤ nb.toNatClampNeg)
    (hsize : Ls.size = c.maxLocals) (hd : decode c.code pc = .ok (.invokestatic index, 3)) (hp : pc + 3 = pc') (W : Nat) (hW : 2 * 0 + (st.map fun v => v.category).sum ≤ W) (hfr : 1 ≤ R.frames) (hlo : W + 40 ≤ R.locals)
    (K : ∀ T' h' vs, Stand p l e R s m args below meth c T' (locs ++ copyLocs b q n) cells slots → T'.heap = h' → Keep h h' [b] → Arv Z h' b kb .long nb vs d2 → Dn p e below P (T'.setTop (mkF m pc' Ls st))) :
    Dn p e below P (T.setTop (mkF m pc Ls (.int jn :: .int jq :: .ref b :: .int jo :: .ref a :: st))) := by
  subst hp eT
  obtain ⟨A, hA, qa, Sa, Na, Ha, Ga⟩ := VA
  obtain ⟨B, hB, qb, Sb, Nb, Hb, Gb⟩ := VB
  have z1 := (back32 Na).2
  have z2 := (back32 Nb).2
  have al : Z.vm.Alike T.vm := hZ.alike.trans X.warmed.alike
  have xA : Jvm.Free.XT.Arr .long a A T := ⟨hA.1, State.isArrayOf_alike al hA.2.1, hA.2.2, by rw [Sa]; exact z1⟩
  have xB : Jvm.Free.XT.Arr .long b B T := ⟨hB.1, State.isArrayOf_alike al hB.2.1, hB.2.2, by rw [Sb]; exact z2⟩
  have fA : ∀ i, i < n → fits .long (A.slots.getD (o + i) .null) = true := by
    intro i hi
    have k : o + i < A.slots.size := by rw [Sa]; omega
    rw [Array.getD_eq_getD_getElem?, Ha _ k]
    exact Ga _ k
  obtain ⟨T', B', X', P', c1, c2, c3, c4, st'⟩ := X.acopy hx hown (fun w hw => by
    simp only [Jvm.Free.XT.acW, List.mem_cons, List.not_mem_nil, or_false] at hw
    rcases hw with rfl | rfl | rfl | rfl
    · exact mvT hZ w1
    · exact mvT hZ w2
    · exact mvT hZ w3
    · exact mvT hZ w4) xA xB rfl ho hq hn (by rw [Sa]; exact h4) (by rw [Sb]; exact h5) (fun i hi => ⟨fA i hi, fun z => by cases z⟩) (g := mkF m pc Ls (.int jn :: .int jq :: .ref b :: .int jo :: .ref a :: st)) rfl hsize rfl hd hW hfr hlo
  have fB : ∀ i, i < B'.slots.size → ∃ v, B'.slots[i]? = some v ∧ fits .long v = true := by
    intro i hi
    rw [c4 i]
    by_cases z : q ≤ i ∧ i < q + n
    · rw [if_pos z]
      exact ⟨_, rfl, fA _ (by omega)⟩
    · rw [if_neg z]
      have k : i < B.slots.size := by rw [← c3]; exact hi
      exact ⟨_, Hb i k, Gb i k⟩
  have g : ∀ i, i < B'.slots.size → B'.slots[i]? = some (B'.slots.toList.getD i d2) := by
    intro i hi
    obtain ⟨v, hv, -⟩ := fB i hi
    rw [List.getD_eq_getElem?_getD, Array.getElem?_toList, hv]
    rfl
  refine go st' (K T' T'.heap B'.slots.toList X' rfl ⟨by rw [P'.2.2]; exact Nat.le_refl _, ?_, ?_⟩ ⟨B', ⟨P'.1, ?_, by rw [c2]; exact hB.2.2⟩, by rw [c1]; exact qb, by rw [c3]; exact Sb, Nb, g, ?_⟩)
  · intro x cl hx hxn
    rw [P'.2.1 x (fun z => hxn (by rw [z]; exact List.mem_singleton.mpr rfl))]
    exact hx
  · intro x cl hx
    by_cases z : x = b
    · subst z
      obtain rfl : B = cl := Option.some.inj (hB.1.symm.trans hx)
      exact ⟨B', P'.1, c1, c2, c3⟩
    · exact ⟨cl, by rw [P'.2.1 x z]; exact hx, rfl, rfl, rfl⟩
  · obtain ⟨w1, kk, w2, w3⟩ := hB.2.1
    exact ⟨by rw [c2]; exact w1, kk, by rw [c1]; exact w2, w3⟩
  · intro i hi
    obtain ⟨v, hv, hf⟩ := fB i hi
    have := g i hi
    rw [hv] at this
    rw [← Option.some.inj this]
    exact hf
theorem own_cl {b q n n0 : Nat} (g : n0 ≤ b) : Fr n0 (copyLocs b q n) := by
  intro y hy
  simp only [copyLocs, List.mem_map] at hy
  obtain ⟨i, -, rfl⟩ := hy
  exact g
end Copy
theorem pd_7 : parseMethodDescriptor "(Lcom/example/jadoube/jadoube/Position;[J)V" = some ⟨[(.object "com/example/jadoube/jadoube/Position"), (.array .long)], none⟩ := by decide +kernel
theorem pd_8 : parseMethodDescriptor "([JI)I" = some ⟨[(.array .long), .int], some .int⟩ := by decide +kernel
theorem d10_0 : decode prog_33_method_4_code 0 = .ok (.aload_n 0, 1) := by decide +kernel
theorem d10_1 : decode prog_33_method_4_code 1 = .ok (.aload_n 1, 1) := by decide +kernel
theorem d10_2 : decode prog_33_method_4_code 2 = .ok (.aload_n 0, 1) := by decide +kernel
theorem d10_3 : decode prog_33_method_4_code 3 = .ok (.getfield 47, 3) := by decide +kernel
theorem d10_6 : decode prog_33_method_4_code 6 = .ok (.invokevirtual 70, 3) := by decide +kernel
theorem d10_9 : decode prog_33_method_4_code 9 = .ok (.aload_n 0, 1) := by decide +kernel
theorem d10_10 : decode prog_33_method_4_code 10 = .ok (.getfield 61, 3) := by decide +kernel
theorem d10_13 : decode prog_33_method_4_code 13 = .ok (.arraylength, 1) := by decide +kernel
theorem d10_14 : decode prog_33_method_4_code 14 = .ok (.iconst 1, 1) := by decide +kernel
theorem d10_15 : decode prog_33_method_4_code 15 = .ok (.isub, 1) := by decide +kernel
theorem d10_16 : decode prog_33_method_4_code 16 = .ok (.istore 4, 2) := by decide +kernel
theorem d10_18 : decode prog_33_method_4_code 18 = .ok (.aload_n 0, 1) := by decide +kernel
theorem d10_19 : decode prog_33_method_4_code 19 = .ok (.aload_n 0, 1) := by decide +kernel
theorem d10_20 : decode prog_33_method_4_code 20 = .ok (.getfield 47, 3) := by decide +kernel
theorem d10_23 : decode prog_33_method_4_code 23 = .ok (.iconst 0, 1) := by decide +kernel
theorem d10_24 : decode prog_33_method_4_code 24 = .ok (.invokevirtual 74, 3) := by decide +kernel
theorem d10_27 : decode prog_33_method_4_code 27 = .ok (.iload 4, 2) := by decide +kernel
theorem d10_29 : decode prog_33_method_4_code 29 = .ok (.iand, 1) := by decide +kernel
theorem d10_30 : decode prog_33_method_4_code 30 = .ok (.istore 5, 2) := by decide +kernel
theorem d10_32 : decode prog_33_method_4_code 32 = .ok (.aload_n 0, 1) := by decide +kernel
theorem d10_33 : decode prog_33_method_4_code 33 = .ok (.getfield 61, 3) := by decide +kernel
theorem d10_36 : decode prog_33_method_4_code 36 = .ok (.iload 5, 2) := by decide +kernel
theorem d10_38 : decode prog_33_method_4_code 38 = .ok (.iaload, 1) := by decide +kernel
theorem d10_39 : decode prog_33_method_4_code 39 = .ok (.ifCond .eq 62, 3) := by decide +kernel
theorem d10_101 : decode prog_33_method_4_code 101 = .ok (.aload_n 0, 1) := by decide +kernel
theorem d10_102 : decode prog_33_method_4_code 102 = .ok (.getfield 64, 3) := by decide +kernel
theorem d10_105 : decode prog_33_method_4_code 105 = .ok (.aload_n 0, 1) := by decide +kernel
theorem d10_106 : decode prog_33_method_4_code 106 = .ok (.getfield 54, 3) := by decide +kernel
theorem d10_109 : decode prog_33_method_4_code 109 = .ok (.arraylength, 1) := by decide +kernel
theorem d10_110 : decode prog_33_method_4_code 110 = .ok (.if_icmp .ne 22, 3) := by decide +kernel
theorem d10_132 : decode prog_33_method_4_code 132 = .ok (.aload_n 0, 1) := by decide +kernel
theorem d10_133 : decode prog_33_method_4_code 133 = .ok (.getfield 47, 3) := by decide +kernel
theorem d10_136 : decode prog_33_method_4_code 136 = .ok (.iconst 0, 1) := by decide +kernel
theorem d10_137 : decode prog_33_method_4_code 137 = .ok (.aload_n 0, 1) := by decide +kernel
theorem d10_138 : decode prog_33_method_4_code 138 = .ok (.getfield 51, 3) := by decide +kernel
theorem d10_141 : decode prog_33_method_4_code 141 = .ok (.aload_n 0, 1) := by decide +kernel
theorem d10_142 : decode prog_33_method_4_code 142 = .ok (.getfield 64, 3) := by decide +kernel
theorem d10_145 : decode prog_33_method_4_code 145 = .ok (.aload_n 0, 1) := by decide +kernel
theorem d10_146 : decode prog_33_method_4_code 146 = .ok (.getfield 28, 3) := by decide +kernel
theorem d10_149 : decode prog_33_method_4_code 149 = .ok (.imul, 1) := by decide +kernel
theorem d10_150 : decode prog_33_method_4_code 150 = .ok (.aload_n 0, 1) := by decide +kernel
theorem d10_151 : decode prog_33_method_4_code 151 = .ok (.getfield 28, 3) := by decide +kernel
theorem d10_154 : decode prog_33_method_4_code 154 = .ok (.invokestatic 91, 3) := by decide +kernel
theorem d10_157 : decode prog_33_method_4_code 157 = .ok (.aload_n 0, 1) := by decide +kernel
theorem d10_158 : decode prog_33_method_4_code 158 = .ok (.getfield 54, 3) := by decide +kernel
theorem d10_161 : decode prog_33_method_4_code 161 = .ok (.aload_n 0, 1) := by decide +kernel
theorem d10_162 : decode prog_33_method_4_code 162 = .ok (.getfield 64, 3) := by decide +kernel
theorem d10_165 : decode prog_33_method_4_code 165 = .ok (.iload_n 2, 1) := by decide +kernel
theorem d10_166 : decode prog_33_method_4_code 166 = .ok (.iastore, 1) := by decide +kernel
theorem d10_167 : decode prog_33_method_4_code 167 = .ok (.aload_n 0, 1) := by decide +kernel
theorem d10_168 : decode prog_33_method_4_code 168 = .ok (.getfield 58, 3) := by decide +kernel
theorem d10_171 : decode prog_33_method_4_code 171 = .ok (.aload_n 0, 1) := by decide +kernel
theorem d10_172 : decode prog_33_method_4_code 172 = .ok (.getfield 64, 3) := by decide +kernel
theorem d10_175 : decode prog_33_method_4_code 175 = .ok (.iload_n 3, 1) := by decide +kernel
theorem d10_176 : decode prog_33_method_4_code 176 = .ok (.iastore, 1) := by decide +kernel
theorem d10_177 : decode prog_33_method_4_code 177 = .ok (.aload_n 0, 1) := by decide +kernel
theorem d10_178 : decode prog_33_method_4_code 178 = .ok (.getfield 61, 3) := by decide +kernel
theorem d10_181 : decode prog_33_method_4_code 181 = .ok (.iload 5, 2) := by decide +kernel
theorem d10_183 : decode prog_33_method_4_code 183 = .ok (.aload_n 0, 1) := by decide +kernel
theorem d10_184 : decode prog_33_method_4_code 184 = .ok (.dup, 1) := by decide +kernel
theorem d10_185 : decode prog_33_method_4_code 185 = .ok (.getfield 64, 3) := by decide +kernel
theorem d10_188 : decode prog_33_method_4_code 188 = .ok (.iconst 1, 1) := by decide +kernel
theorem d10_189 : decode prog_33_method_4_code 189 = .ok (.iadd, 1) := by decide +kernel
theorem d10_190 : decode prog_33_method_4_code 190 = .ok (.dup_x1, 1) := by decide +kernel
theorem d10_191 : decode prog_33_method_4_code 191 = .ok (.putfield 64, 3) := by decide +kernel
theorem d10_194 : decode prog_33_method_4_code 194 = .ok (.iastore, 1) := by decide +kernel
theorem d10_195 : decode prog_33_method_4_code 195 = .ok (.aload_n 0, 1) := by decide +kernel
theorem d10_196 : decode prog_33_method_4_code 196 = .ok (.getfield 64, 3) := by decide +kernel
theorem d10_199 : decode prog_33_method_4_code 199 = .ok (.iconst 1, 1) := by decide +kernel
theorem d10_200 : decode prog_33_method_4_code 200 = .ok (.isub, 1) := by decide +kernel
theorem d10_201 : decode prog_33_method_4_code 201 = .ok (.ireturn, 1) := by decide +kernel
theorem pn_10 : plainFor (⟨"com/example/jadoube/jadoube/PositionTable", "add", "(Lcom/example/jadoube/jadoube/Position;II)I"⟩ : MethodName) = true := plainFor_of_name (by show plainName "com/example/jadoube/jadoube/PositionTable" = true; first | (simp [plainName, overriddenIn]; done) | decide +kernel)
theorem ef_10 (m : MethodId) (a1 : Addr) (a2 : Addr) (p3 : Int32) (p4 : Int32) : entryFrame m #[(.ref a1), (.ref a2), (.int p3), (.int p4)] 6 = mkF m 0 #[.val (.ref a1), .val (.ref a2), .val (.int p3), .val (.int p4), .unset, .unset] [] := by first | (simp [entryFrame, mkF, argsToLocals, Value.category]; done) | rfl
set_option maxRecDepth 65536 in
set_option maxHeartbeats 40000000 in
theorem rmA0 (l : Launch) (Z : State) (a0 : Array Value) (hw : ∀ d ∈ tables_1, d.before a0 Z = true) (h0 : Heap) (n0 : Nat) (Z0 : n0 ≤ h0.size) (a1 : Addr) (a2 : Addr) (p3 : Int32) (p4 : Int32) (pv mv : List Value) (f : Nat → Int32) (hT : Tab Z h0 a1 0 pv mv f) (hP : Pos Z h0 a1 a2 1) (hf0 : f 1917 = 0) (hp : 0 < pv.length) (hm : 0 < mv.length) (ga : n0 ≤ a1) : Ctr l Z (⟨"com/example/jadoube/jadoube/PositionTable", "add", "(Lcom/example/jadoube/jadoube/Position;II)I"⟩ : MethodName) prog_33_method_4_code 6 (some .int) [] ({ frames := 5, cells := 0, slots := 0, locals := 81 } : Room) #[(.ref a1), (.ref a2), (.int p3), (.int p4)] h0 (fun v h L => v = some (.int 0) ∧ Fr n0 L ∧ (∃ ws, Keep h0 h ws ∧ ∀ x ∈ ws, a1 ≤ x) ∧ Tab Z h a1 1 (pv.set 0 (.int p3)) (mv.set 0 (.int p4)) (fun j => if j = 1917 then 1 else f j)) := by
  refine ctr_mk pn_10 (own := "com/example/jadoube/jadoube/PositionTable") (mn := "add") rfl rfl ?_
  intro p e s m below meth c T0 X0 hx hby hml hZ hown hnm hret hlk e0
  refine o_entry (ef_10 m a1 a2 p3 p4) ?_
  obtain ⟨ge, sc, wd, pa, mo, sl, k1, k2, k3, k4, k5, x, y, vs, u, w, o1, o2, o3, o4, o5, o6, hE, gE, hWi, hSc, hWo, hPa, hMo, hSl, hSz, hGe, gM, gS, vSc, vWd, vPa, vMo, vSl⟩ := hT
  have NN := Fr.nil n0
  have ZZ := Z0
  have KK := Keep.refl h0 [a1, ge, sc, wd, pa, mo, sl]
  have lt_a1_ge : a1 < ge := o1
  have lt_ge_sc : ge < sc := o2
  have lt_sc_wd : sc < wd := o3
  have lt_wd_pa : wd < pa := o4
  have lt_pa_mo : pa < mo := o5
  have lt_mo_sl : mo < sl := o6
  have ne_a1_ge : a1 ≠ ge := Nat.ne_of_lt lt_a1_ge
  have lt_a1_sc := Nat.lt_trans lt_a1_ge lt_ge_sc
  have ne_a1_sc : a1 ≠ sc := Nat.ne_of_lt lt_a1_sc
  have lt_a1_wd := Nat.lt_trans lt_a1_sc lt_sc_wd
  have ne_a1_wd : a1 ≠ wd := Nat.ne_of_lt lt_a1_wd
  have lt_a1_pa := Nat.lt_trans lt_a1_wd lt_wd_pa
  have ne_a1_pa : a1 ≠ pa := Nat.ne_of_lt lt_a1_pa
  have lt_a1_mo := Nat.lt_trans lt_a1_pa lt_pa_mo
  have ne_a1_mo : a1 ≠ mo := Nat.ne_of_lt lt_a1_mo
  have lt_a1_sl := Nat.lt_trans lt_a1_mo lt_mo_sl
  have ne_a1_sl : a1 ≠ sl := Nat.ne_of_lt lt_a1_sl
  have ne_ge_sc : ge ≠ sc := Nat.ne_of_lt lt_ge_sc
  have lt_ge_wd := Nat.lt_trans lt_ge_sc lt_sc_wd
  have ne_ge_wd : ge ≠ wd := Nat.ne_of_lt lt_ge_wd
  have lt_ge_pa := Nat.lt_trans lt_ge_wd lt_wd_pa
  have ne_ge_pa : ge ≠ pa := Nat.ne_of_lt lt_ge_pa
  have lt_ge_mo := Nat.lt_trans lt_ge_pa lt_pa_mo
  have ne_ge_mo : ge ≠ mo := Nat.ne_of_lt lt_ge_mo
  have lt_ge_sl := Nat.lt_trans lt_ge_mo lt_mo_sl
  have ne_ge_sl : ge ≠ sl := Nat.ne_of_lt lt_ge_sl
  have ne_sc_wd : sc ≠ wd := Nat.ne_of_lt lt_sc_wd
  have lt_sc_pa := Nat.lt_trans lt_sc_wd lt_wd_pa
  have ne_sc_pa : sc ≠ pa := Nat.ne_of_lt lt_sc_pa
  have lt_sc_mo := Nat.lt_trans lt_sc_pa lt_pa_mo
  have ne_sc_mo : sc ≠ mo := Nat.ne_of_lt lt_sc_mo
  have lt_sc_sl := Nat.lt_trans lt_sc_mo lt_mo_sl
  have ne_sc_sl : sc ≠ sl := Nat.ne_of_lt lt_sc_sl
  have ne_wd_pa : wd ≠ pa := Nat.ne_of_lt lt_wd_pa
  have lt_wd_mo := Nat.lt_trans lt_wd_pa lt_pa_mo
  have ne_wd_mo : wd ≠ mo := Nat.ne_of_lt lt_wd_mo
  have lt_wd_sl := Nat.lt_trans lt_wd_mo lt_mo_sl
  have ne_wd_sl : wd ≠ sl := Nat.ne_of_lt lt_wd_sl
  have ne_pa_mo : pa ≠ mo := Nat.ne_of_lt lt_pa_mo
  have lt_pa_sl := Nat.lt_trans lt_pa_mo lt_mo_sl
  have ne_pa_sl : pa ≠ sl := Nat.ne_of_lt lt_pa_sl
  have ne_mo_sl : mo ≠ sl := Nat.ne_of_lt lt_mo_sl
  have g_a1 := ga
  have g_ge : n0 ≤ ge := Nat.le_trans ga (Nat.le_of_lt lt_a1_ge)
  have g_sc : n0 ≤ sc := Nat.le_trans ga (Nat.le_of_lt lt_a1_sc)
  have g_wd : n0 ≤ wd := Nat.le_trans ga (Nat.le_of_lt lt_a1_wd)
  have g_pa : n0 ≤ pa := Nat.le_trans ga (Nat.le_of_lt lt_a1_pa)
  have g_mo : n0 ≤ mo := Nat.le_trans ga (Nat.le_of_lt lt_a1_mo)
  have g_sl : n0 ≤ sl := Nat.le_trans ga (Nat.le_of_lt lt_a1_sl)
  refine o_aloadN X0 hx (pc' := 1) (hb hby d10_0) rfl rfl rfl ?_
  refine o_aloadN X0 hx (pc' := 2) (hb hby d10_1) rfl rfl rfl ?_
  refine o_aloadN X0 hx (pc' := 3) (hb hby d10_2) rfl rfl rfl ?_
  refine o_getfield X0 hx hZ hown (hw _ (List.mem_of_getElem? (i := 74) rfl)) e0 hSc (hb hby d10_3) (pc' := 6) rfl ?_
  intro T1 X1 e1
  refine o_callP X1 hx hZ a1 [(.ref a2), (.ref sc)] (rmEN0 l Z a0 hw h0 n0 ZZ a1 a2 sc ge k1 _ _ _ _ hP hE hGe gE gM gS vSc o1 o2 g_ge g_sc) hown (hw _ (List.mem_of_getElem? (i := 90) rfl)) (hw _ (List.mem_of_getElem? (i := 31) rfl)) (hw _ (List.mem_of_getElem? (i := 92) rfl)) (hw _ (List.mem_of_getElem? (i := 91) rfl)) (hw _ (List.mem_of_getElem? (i := 32) rfl)) (hw _ (List.mem_of_getElem? (i := 93) rfl)) (by decide) hE pd_7 e1 (by rw [hml]; rfl) rfl rfl rfl (hb hby d10_6) (pc' := 9) rfl 0 (Nat.le_of_eq rfl) (by decide) (by decide) (by decide) (by decide) ?_
  intro T2 v2 L2 X2 hQ2
  obtain ⟨rfl, Nq, Kq, vq, gMq, gSq⟩ := hQ2
  have NN := Fr.app NN Nq
  have KK := KK.trans Kq (by intro x hx; simp only [List.mem_cons, List.not_mem_nil, or_false] at hx; rcases hx with rfl | rfl <;> first | (left; simp; done) | (right; first | exact sz_none))
  have ZZ := Nat.le_trans ZZ Kq.1
  have hE := hE.keep Kq
  have gE := gE.keep Kq
  have hWi := hWi.keep Kq (by simp only [List.mem_cons, List.not_mem_nil, or_false, not_or]; exact ⟨ne_a1_sc, ne_a1_ge⟩)
  have hSc := hSc.keep Kq (by simp only [List.mem_cons, List.not_mem_nil, or_false, not_or]; exact ⟨ne_a1_sc, ne_a1_ge⟩)
  have hWo := hWo.keep Kq (by simp only [List.mem_cons, List.not_mem_nil, or_false, not_or]; exact ⟨ne_a1_sc, ne_a1_ge⟩)
  have hPa := hPa.keep Kq (by simp only [List.mem_cons, List.not_mem_nil, or_false, not_or]; exact ⟨ne_a1_sc, ne_a1_ge⟩)
  have hMo := hMo.keep Kq (by simp only [List.mem_cons, List.not_mem_nil, or_false, not_or]; exact ⟨ne_a1_sc, ne_a1_ge⟩)
  have hSl := hSl.keep Kq (by simp only [List.mem_cons, List.not_mem_nil, or_false, not_or]; exact ⟨ne_a1_sc, ne_a1_ge⟩)
  have hSz := hSz.keep Kq (by simp only [List.mem_cons, List.not_mem_nil, or_false, not_or]; exact ⟨ne_a1_sc, ne_a1_ge⟩)
  have hGe := hGe.keep Kq (by simp only [List.mem_cons, List.not_mem_nil, or_false, not_or]; exact ⟨ne_a1_sc, ne_a1_ge⟩)
  have vWd := vWd.keep Kq (by simp only [List.mem_cons, List.not_mem_nil, or_false, not_or]; exact ⟨ne_sc_wd.symm, ne_ge_wd.symm⟩)
  have vPa := vPa.keep Kq (by simp only [List.mem_cons, List.not_mem_nil, or_false, not_or]; exact ⟨ne_sc_pa.symm, ne_ge_pa.symm⟩)
  have vMo := vMo.keep Kq (by simp only [List.mem_cons, List.not_mem_nil, or_false, not_or]; exact ⟨ne_sc_mo.symm, ne_ge_mo.symm⟩)
  have vSl := vSl.keep Kq (by simp only [List.mem_cons, List.not_mem_nil, or_false, not_or]; exact ⟨ne_sc_sl.symm, ne_ge_sl.symm⟩)
  have vSc := vq
  have gM := gMq
  have gS := gSq
  show Dn p e below _ (T2.setTop (mkF m 9 #[.val (.ref a1), .val (.ref a2), .val (.int p3), .val (.int p4), .unset, .unset] []))
  refine o_aloadN X2 hx (pc' := 10) (hb hby d10_9) rfl rfl rfl ?_
  refine o_getfield X2 hx hZ hown (hw _ (List.mem_of_getElem? (i := 83) rfl)) rfl hSl (hb hby d10_10) (pc' := 13) rfl ?_
  intro T3 X3 e3
  refine o_arraylength X3 hx hZ e3 vSl (hb hby d10_13) (pc' := 14) rfl ?_
  refine o_iconst X3 hx (pc' := 15) (v := (1 : Int32)) (hb hby d10_14) rfl rfl ?_
  refine o_isub X3 hx (pc' := 16) (hb hby d10_15) rfl ?_
  rw [show ((2048 : Int32) - (1 : Int32)) = (2047 : Int32) from by decide +kernel]
  refine o_istore X3 hx (pc' := 18) (Ls' := #[.val (.ref a1), .val (.ref a2), .val (.int p3), .val (.int p4), .val (.int (2047 : Int32)), .unset]) (hb hby d10_16) rfl rfl ?_
  refine o_aloadN X3 hx (pc' := 19) (hb hby d10_18) rfl rfl rfl ?_
  refine o_aloadN X3 hx (pc' := 20) (hb hby d10_19) rfl rfl rfl ?_
  refine o_getfield X3 hx hZ hown (hw _ (List.mem_of_getElem? (i := 74) rfl)) e3 hSc (hb hby d10_20) (pc' := 23) rfl ?_
  intro T4 X4 e4
  refine o_iconst X4 hx (pc' := 24) (v := (0 : Int32)) (hb hby d10_23) rfl rfl ?_
  refine o_callPP X4 hx hZ a1 [(.ref sc), (.int (0 : Int32))] (rmH0 l Z a0 hw T2.heap n0 ZZ a1 sc k1 hWi vSc) hown (hw _ (List.mem_of_getElem? (i := 146) rfl)) (hw _ (List.mem_of_getElem? (i := 31) rfl)) (hw _ (List.mem_of_getElem? (i := 148) rfl)) (hw _ (List.mem_of_getElem? (i := 147) rfl)) (hw _ (List.mem_of_getElem? (i := 32) rfl)) (hw _ (List.mem_of_getElem? (i := 149) rfl)) (by decide) hE pd_8 e4 (by rw [hml]; rfl) rfl rfl rfl (hb hby d10_24) (pc' := 27) rfl 0 (Nat.le_of_eq rfl) (by decide) (by decide) rfl rfl (by decide) (by decide) ?_
  intro T5 X5 e5
  show Dn p e below _ (T5.setTop (mkF m 27 #[.val (.ref a1), .val (.ref a2), .val (.int p3), .val (.int p4), .val (.int (2047 : Int32)), .unset] [(.int (671119229 : Int32))]))
  refine o_iload X5 hx (pc' := 29) (hb hby d10_27) rfl rfl ?_
  refine o_iand X5 hx (pc' := 30) (hb hby d10_29) rfl ?_
  rw [show ((671119229 : Int32) &&& (2047 : Int32)) = (1917 : Int32) from by decide +kernel]
  refine o_istore X5 hx (pc' := 32) (Ls' := #[.val (.ref a1), .val (.ref a2), .val (.int p3), .val (.int p4), .val (.int (2047 : Int32)), .val (.int (1917 : Int32))]) (hb hby d10_30) rfl rfl ?_
  refine o_aloadN X5 hx (pc' := 33) (hb hby d10_32) rfl rfl rfl ?_
  refine o_getfield X5 hx hZ hown (hw _ (List.mem_of_getElem? (i := 83) rfl)) e5 hSl (hb hby d10_33) (pc' := 36) rfl ?_
  intro T6 X6 e6
  refine o_iload X6 hx (pc' := 38) (hb hby d10_36) rfl rfl ?_
  refine o_iaload X6 hx hZ e6 vSl (by decide) (v := (.int (0 : Int32))) (by rw [show ((1917 : Int32)).toNatClampNeg = 1917 from rfl, own_iget f (by decide), hf0]) (hb hby d10_38) (pc' := 39) rfl ?_
  refine o_if_eq X6 hx (pc' := 42) (pt := 101) (hb hby d10_39) rfl (by decide) (by decide) (fun _ => ?_) (fun q => absurd (by decide) q)
  refine o_aloadN X6 hx (pc' := 102) (hb hby d10_101) rfl rfl rfl ?_
  refine o_getfield X6 hx hZ hown (hw _ (List.mem_of_getElem? (i := 152) rfl)) e6 hSz (hb hby d10_102) (pc' := 105) rfl ?_
  intro T7 X7 e7
  refine o_aloadN X7 hx (pc' := 106) (hb hby d10_105) rfl rfl rfl ?_
  refine o_getfield X7 hx hZ hown (hw _ (List.mem_of_getElem? (i := 79) rfl)) e7 hPa (hb hby d10_106) (pc' := 109) rfl ?_
  intro T8 X8 e8
  refine o_arraylength X8 hx hZ e8 vPa (hb hby d10_109) (pc' := 110) rfl ?_
  refine o_icmp_ne X8 hx (pc' := 113) (pt := 132) (hb hby d10_110) rfl (by decide) (by decide) (fun _ => ?_) (fun q => absurd q (by decide))
  refine o_aloadN X8 hx (pc' := 133) (hb hby d10_132) rfl rfl rfl ?_
  refine o_getfield X8 hx hZ hown (hw _ (List.mem_of_getElem? (i := 74) rfl)) e8 hSc (hb hby d10_133) (pc' := 136) rfl ?_
  intro T9 X9 e9
  refine o_iconst X9 hx (pc' := 137) (v := (0 : Int32)) (hb hby d10_136) rfl rfl ?_
  refine o_aloadN X9 hx (pc' := 138) (hb hby d10_137) rfl rfl rfl ?_
  refine o_getfield X9 hx hZ hown (hw _ (List.mem_of_getElem? (i := 76) rfl)) e9 hWo (hb hby d10_138) (pc' := 141) rfl ?_
  intro T10 X10 e10
  refine o_aloadN X10 hx (pc' := 142) (hb hby d10_141) rfl rfl rfl ?_
  refine o_getfield X10 hx hZ hown (hw _ (List.mem_of_getElem? (i := 152) rfl)) e10 hSz (hb hby d10_142) (pc' := 145) rfl ?_
  intro T11 X11 e11
  refine o_aloadN X11 hx (pc' := 146) (hb hby d10_145) rfl rfl rfl ?_
  refine o_getfield X11 hx hZ hown (hw _ (List.mem_of_getElem? (i := 58) rfl)) e11 hWi (hb hby d10_146) (pc' := 149) rfl ?_
  intro T12 X12 e12
  refine o_imul X12 hx (pc' := 150) (hb hby d10_149) rfl ?_
  rw [show ((0 : Int32) * (2 : Int32)) = (0 : Int32) from by decide +kernel]
  refine o_aloadN X12 hx (pc' := 151) (hb hby d10_150) rfl rfl rfl ?_
  refine o_getfield X12 hx hZ hown (hw _ (List.mem_of_getElem? (i := 58) rfl)) e12 hWi (hb hby d10_151) (pc' := 154) rfl ?_
  intro T13 X13 e13
  refine o_acopy X13 hx hZ hown (hw _ (List.mem_of_getElem? (i := 154) rfl)) (hw _ (List.mem_of_getElem? (i := 157) rfl)) (hw _ (List.mem_of_getElem? (i := 155) rfl)) (hw _ (List.mem_of_getElem? (i := 156) rfl)) e13 vSc vWd 0 0 2 rfl rfl rfl (by decide) (by decide) (by rw [hml]; rfl) (hb hby d10_154) (pc' := 157) rfl 0 (Nat.le_of_eq rfl) (by decide) (by decide) ?_
  intro T14 h14 vs14 X14 e14 Kc vWq
  have NN := Fr.app NN (own_cl (q := 0) (n := 2) g_wd)
  have KK := KK.trans Kc (by intro x hx; simp only [List.mem_cons, List.not_mem_nil, or_false] at hx; subst hx; first | (left; simp; done) | (right; first | exact sz_none))
  have ZZ := Nat.le_trans ZZ Kc.1
  have hE := hE.keep Kc
  have gE := gE.keep Kc
  have hWi := hWi.keep Kc (by simp only [List.mem_cons, List.not_mem_nil, or_false, not_or]; exact ne_a1_wd)
  have hSc := hSc.keep Kc (by simp only [List.mem_cons, List.not_mem_nil, or_false, not_or]; exact ne_a1_wd)
  have hWo := hWo.keep Kc (by simp only [List.mem_cons, List.not_mem_nil, or_false, not_or]; exact ne_a1_wd)
  have hPa := hPa.keep Kc (by simp only [List.mem_cons, List.not_mem_nil, or_false, not_or]; exact ne_a1_wd)
  have hMo := hMo.keep Kc (by simp only [List.mem_cons, List.not_mem_nil, or_false, not_or]; exact ne_a1_wd)
  have hSl := hSl.keep Kc (by simp only [List.mem_cons, List.not_mem_nil, or_false, not_or]; exact ne_a1_wd)
  have hSz := hSz.keep Kc (by simp only [List.mem_cons, List.not_mem_nil, or_false, not_or]; exact ne_a1_wd)
  have hGe := hGe.keep Kc (by simp only [List.mem_cons, List.not_mem_nil, or_false, not_or]; exact ne_a1_wd)
  have vPa := vPa.keep Kc (by simp only [List.mem_cons, List.not_mem_nil, or_false, not_or]; exact ne_wd_pa.symm)
  have vMo := vMo.keep Kc (by simp only [List.mem_cons, List.not_mem_nil, or_false, not_or]; exact ne_wd_mo.symm)
  have vSl := vSl.keep Kc (by simp only [List.mem_cons, List.not_mem_nil, or_false, not_or]; exact ne_wd_sl.symm)
  have vSc := vSc.keep Kc (by simp only [List.mem_cons, List.not_mem_nil, or_false, not_or]; exact ne_sc_wd)
  have gM := gM.keep Kc (by simp only [List.mem_cons, List.not_mem_nil, or_false, not_or]; exact ne_ge_wd)
  have gS := gS.keep Kc (by simp only [List.mem_cons, List.not_mem_nil, or_false, not_or]; exact ne_ge_wd)
  have vWd := vWq
  refine o_aloadN X14 hx (pc' := 158) (hb hby d10_157) rfl rfl rfl ?_
  refine o_getfield X14 hx hZ hown (hw _ (List.mem_of_getElem? (i := 79) rfl)) e14 hPa (hb hby d10_158) (pc' := 161) rfl ?_
  intro T15 X15 e15
  refine o_aloadN X15 hx (pc' := 162) (hb hby d10_161) rfl rfl rfl ?_
  refine o_getfield X15 hx hZ hown (hw _ (List.mem_of_getElem? (i := 152) rfl)) e15 hSz (hb hby d10_162) (pc' := 165) rfl ?_
  intro T16 X16 e16
  refine o_iloadN X16 hx (pc' := 166) (hb hby d10_165) rfl rfl ?_
  refine o_iastore X16 hx hZ e16 vPa (by decide) 0 rfl hp (hb hby d10_166) (pc' := 167) rfl ?_
  intro T17 h17 X17 e17 W17 V17
  have NN := Fr.snoc X17 NN g_pa
  have KK := KK.wr W17 (Or.inl (List.mem_of_getElem? (i := 4) rfl))
  have ZZ := Nat.le_trans ZZ (Keep.of_wr W17).1
  have hE := hE.wr W17
  have gE := gE.wr W17
  have hWi := hWi.other W17 (Or.inl ne_a1_pa)
  have hSc := hSc.other W17 (Or.inl ne_a1_pa)
  have hWo := hWo.other W17 (Or.inl ne_a1_pa)
  have hPa := hPa.other W17 (Or.inl ne_a1_pa)
  have hMo := hMo.other W17 (Or.inl ne_a1_pa)
  have hSl := hSl.other W17 (Or.inl ne_a1_pa)
  have hSz := hSz.other W17 (Or.inl ne_a1_pa)
  have hGe := hGe.other W17 (Or.inl ne_a1_pa)
  have vMo := vMo.other W17 ne_pa_mo.symm
  have vSl := vSl.other W17 ne_pa_sl.symm
  have vSc := vSc.other W17 ne_sc_pa
  have gM := gM.other W17 (Or.inl ne_ge_pa)
  have gS := gS.other W17 (Or.inl ne_ge_pa)
  have vWd := vWd.other W17 ne_wd_pa
  have vPa := V17
  refine o_aloadN X17 hx (pc' := 168) (hb hby d10_167) rfl rfl rfl ?_
  refine o_getfield X17 hx hZ hown (hw _ (List.mem_of_getElem? (i := 81) rfl)) e17 hMo (hb hby d10_168) (pc' := 171) rfl ?_
  intro T18 X18 e18
  refine o_aloadN X18 hx (pc' := 172) (hb hby d10_171) rfl rfl rfl ?_
  refine o_getfield X18 hx hZ hown (hw _ (List.mem_of_getElem? (i := 152) rfl)) e18 hSz (hb hby d10_172) (pc' := 175) rfl ?_
  intro T19 X19 e19
  refine o_iloadN X19 hx (pc' := 176) (hb hby d10_175) rfl rfl ?_
  refine o_iastore X19 hx hZ e19 vMo (by decide) 0 rfl hm (hb hby d10_176) (pc' := 177) rfl ?_
  intro T20 h20 X20 e20 W20 V20
  have NN := Fr.snoc X20 NN g_mo
  have KK := KK.wr W20 (Or.inl (List.mem_of_getElem? (i := 5) rfl))
  have ZZ := Nat.le_trans ZZ (Keep.of_wr W20).1
  have hE := hE.wr W20
  have gE := gE.wr W20
  have hWi := hWi.other W20 (Or.inl ne_a1_mo)
  have hSc := hSc.other W20 (Or.inl ne_a1_mo)
  have hWo := hWo.other W20 (Or.inl ne_a1_mo)
  have hPa := hPa.other W20 (Or.inl ne_a1_mo)
  have hMo := hMo.other W20 (Or.inl ne_a1_mo)
  have hSl := hSl.other W20 (Or.inl ne_a1_mo)
  have hSz := hSz.other W20 (Or.inl ne_a1_mo)
  have hGe := hGe.other W20 (Or.inl ne_a1_mo)
  have vPa := vPa.other W20 ne_pa_mo
  have vSl := vSl.other W20 ne_mo_sl.symm
  have vSc := vSc.other W20 ne_sc_mo
  have gM := gM.other W20 (Or.inl ne_ge_mo)
  have gS := gS.other W20 (Or.inl ne_ge_mo)
  have vWd := vWd.other W20 ne_wd_mo
  have vMo := V20
  refine o_aloadN X20 hx (pc' := 178) (hb hby d10_177) rfl rfl rfl ?_
  refine o_getfield X20 hx hZ hown (hw _ (List.mem_of_getElem? (i := 83) rfl)) e20 hSl (hb hby d10_178) (pc' := 181) rfl ?_
  intro T21 X21 e21
  refine o_iload X21 hx (pc' := 183) (hb hby d10_181) rfl rfl ?_
  refine o_aloadN X21 hx (pc' := 184) (hb hby d10_183) rfl rfl rfl ?_
  refine o_dup X21 hx (pc' := 185) (hb hby d10_184) rfl rfl ?_
  refine o_getfield X21 hx hZ hown (hw _ (List.mem_of_getElem? (i := 152) rfl)) e21 hSz (hb hby d10_185) (pc' := 188) rfl ?_
  intro T22 X22 e22
  refine o_iconst X22 hx (pc' := 189) (v := (1 : Int32)) (hb hby d10_188) rfl rfl ?_
  refine o_iadd X22 hx (pc' := 190) (hb hby d10_189) rfl ?_
  rw [show ((0 : Int32) + (1 : Int32)) = (1 : Int32) from by decide +kernel]
  refine o_dupX1 X22 hx (pc' := 191) (hb hby d10_190) rfl rfl rfl ?_
  refine o_putfield X22 hx hZ hown (hw _ (List.mem_of_getElem? (i := 152) rfl)) e22 hSz hE (Or.inl (hw _ (List.mem_of_getElem? (i := 153) rfl))) (hw _ (List.mem_of_getElem? (i := 31) rfl)) (ty := .int) (v' := (.int (1 : Int32))) (by decide) rfl rfl (hb hby d10_191) (pc' := 194) rfl ?_
  intro T23 h23 X23 e23 W23 F23 E23
  have NN := Fr.snoc X23 NN g_a1
  have KK := KK.wr W23 (Or.inl (List.mem_of_getElem? (i := 0) rfl))
  have ZZ := Nat.le_trans ZZ (Keep.of_wr W23).1
  have gE := gE.wr W23
  have hWi := hWi.other W23 (Or.inr (slot_ne (Or.inr (hw _ (List.mem_of_getElem? (i := 59) rfl))) (Or.inl (hw _ (List.mem_of_getElem? (i := 153) rfl))) (by decide) (t := .int) (t' := .int) (by decide) (by decide)))
  have hSc := hSc.other W23 (Or.inr (slot_ne (Or.inr (hw _ (List.mem_of_getElem? (i := 75) rfl))) (Or.inl (hw _ (List.mem_of_getElem? (i := 153) rfl))) (by decide) (t := (.array .long)) (t' := .int) (by decide) (by decide)))
  have hWo := hWo.other W23 (Or.inr (slot_ne (Or.inl (hw _ (List.mem_of_getElem? (i := 77) rfl))) (Or.inl (hw _ (List.mem_of_getElem? (i := 153) rfl))) (by decide) (t := (.array .long)) (t' := .int) (by decide) (by decide)))
  have hPa := hPa.other W23 (Or.inr (slot_ne (Or.inl (hw _ (List.mem_of_getElem? (i := 80) rfl))) (Or.inl (hw _ (List.mem_of_getElem? (i := 153) rfl))) (by decide) (t := (.array .int)) (t' := .int) (by decide) (by decide)))
  have hMo := hMo.other W23 (Or.inr (slot_ne (Or.inl (hw _ (List.mem_of_getElem? (i := 82) rfl))) (Or.inl (hw _ (List.mem_of_getElem? (i := 153) rfl))) (by decide) (t := (.array .int)) (t' := .int) (by decide) (by decide)))
  have hSl := hSl.other W23 (Or.inr (slot_ne (Or.inl (hw _ (List.mem_of_getElem? (i := 84) rfl))) (Or.inl (hw _ (List.mem_of_getElem? (i := 153) rfl))) (by decide) (t := (.array .int)) (t' := .int) (by decide) (by decide)))
  have hGe := hGe.other W23 (Or.inr (slot_ne (Or.inr (hw _ (List.mem_of_getElem? (i := 45) rfl))) (Or.inl (hw _ (List.mem_of_getElem? (i := 153) rfl))) (by decide) (t := (.object "com/example/jadoube/jadoube/MoveGenerator")) (t' := .int) (by decide) (by decide)))
  have vPa := vPa.other W23 ne_a1_pa.symm
  have vMo := vMo.other W23 ne_a1_mo.symm
  have vSl := vSl.other W23 ne_a1_sl.symm
  have vSc := vSc.other W23 ne_a1_sc.symm
  have gM := gM.other W23 (Or.inl ne_a1_ge.symm)
  have gS := gS.other W23 (Or.inl ne_a1_ge.symm)
  have vWd := vWd.other W23 ne_a1_wd.symm
  have hSz := F23
  have hE := E23
  refine o_iastore X23 hx hZ e23 vSl (by decide) 1917 rfl (by rw [own_ilen]; decide) (hb hby d10_194) (pc' := 195) rfl ?_
  intro T24 h24 X24 e24 W24 V24
  have NN := Fr.snoc X24 NN g_sl
  have KK := KK.wr W24 (Or.inl (List.mem_of_getElem? (i := 6) rfl))
  have ZZ := Nat.le_trans ZZ (Keep.of_wr W24).1
  have hE := hE.wr W24
  have gE := gE.wr W24
  have hWi := hWi.other W24 (Or.inl ne_a1_sl)
  have hSc := hSc.other W24 (Or.inl ne_a1_sl)
  have hWo := hWo.other W24 (Or.inl ne_a1_sl)
  have hPa := hPa.other W24 (Or.inl ne_a1_sl)
  have hMo := hMo.other W24 (Or.inl ne_a1_sl)
  have hSl := hSl.other W24 (Or.inl ne_a1_sl)
  have hSz := hSz.other W24 (Or.inl ne_a1_sl)
  have hGe := hGe.other W24 (Or.inl ne_a1_sl)
  have vPa := vPa.other W24 ne_pa_sl
  have vMo := vMo.other W24 ne_mo_sl
  have vSc := vSc.other W24 ne_sc_sl
  have gM := gM.other W24 (Or.inl ne_ge_sl)
  have gS := gS.other W24 (Or.inl ne_ge_sl)
  have vWd := vWd.other W24 ne_wd_sl
  have vSl : Arv Z h24 sl k5 .int 2048 (own_iv (fun j => if j = 1917 then 1 else f j)) (.int 0) := by rw [← own_iset]; exact V24
  refine o_aloadN X24 hx (pc' := 196) (hb hby d10_195) rfl rfl rfl ?_
  refine o_getfield X24 hx hZ hown (hw _ (List.mem_of_getElem? (i := 152) rfl)) e24 hSz (hb hby d10_196) (pc' := 199) rfl ?_
  intro T25 X25 e25
  refine o_iconst X25 hx (pc' := 200) (v := (1 : Int32)) (hb hby d10_199) rfl rfl ?_
  refine o_isub X25 hx (pc' := 201) (hb hby d10_200) rfl ?_
  rw [show ((1 : Int32) - (1 : Int32)) = (0 : Int32) from by decide +kernel]
  exact finI X25 hx hlk hret (hb hby d10_201) (by decide) (by decide) ⟨rfl, NN, ⟨_, by rw [e25]; exact KK, all7 (Nat.le_refl _) o1 o2 o3 o4 o5 o6⟩, by rw [e25]; exact ⟨ge, sc, wd, pa, mo, sl, k1, k2, k3, k4, k5, _, _, _, _, _, o1, o2, o3, o4, o5, o6, hE, gE, hWi, hSc, hWo, hPa, hMo, hSl, hSz, hGe, gM, gS, vSc, vWd, vPa, vMo, vSl⟩⟩
set_option maxRecDepth 65536 in
set_option maxHeartbeats 40000000 in
theorem rmA1 (l : Launch) (Z : State) (a0 : Array Value) (hw : ∀ d ∈ tables_1, d.before a0 Z = true) (h0 : Heap) (n0 : Nat) (Z0 : n0 ≤ h0.size) (a1 : Addr) (a2 : Addr) (p3 : Int32) (p4 : Int32) (pv mv : List Value) (f : Nat → Int32) (hT : Tab Z h0 a1 1 pv mv f) (hP : Pos Z h0 a1 a2 2) (hf0 : f 954 = 0) (hp : 1 < pv.length) (hm : 1 < mv.length) (ga : n0 ≤ a1) : Ctr l Z (⟨"com/example/jadoube/jadoube/PositionTable", "add", "(Lcom/example/jadoube/jadoube/Position;II)I"⟩ : MethodName) prog_33_method_4_code 6 (some .int) [] ({ frames := 5, cells := 0, slots := 0, locals := 81 } : Room) #[(.ref a1), (.ref a2), (.int p3), (.int p4)] h0 (fun v h L => v = some (.int 1) ∧ Fr n0 L ∧ (∃ ws, Keep h0 h ws ∧ ∀ x ∈ ws, a1 ≤ x) ∧ Tab Z h a1 2 (pv.set 1 (.int p3)) (mv.set 1 (.int p4)) (fun j => if j = 954 then 2 else f j)) := by
  refine ctr_mk pn_10 (own := "com/example/jadoube/jadoube/PositionTable") (mn := "add") rfl rfl ?_
  intro p e s m below meth c T0 X0 hx hby hml hZ hown hnm hret hlk e0
  refine o_entry (ef_10 m a1 a2 p3 p4) ?_
  obtain ⟨ge, sc, wd, pa, mo, sl, k1, k2, k3, k4, k5, x, y, vs, u, w, o1, o2, o3, o4, o5, o6, hE, gE, hWi, hSc, hWo, hPa, hMo, hSl, hSz, hGe, gM, gS, vSc, vWd, vPa, vMo, vSl⟩ := hT
  have NN := Fr.nil n0
  have ZZ := Z0
  have KK := Keep.refl h0 [a1, ge, sc, wd, pa, mo, sl]
  have lt_a1_ge : a1 < ge := o1
  have lt_ge_sc : ge < sc := o2
  have lt_sc_wd : sc < wd := o3
  have lt_wd_pa : wd < pa := o4
  have lt_pa_mo : pa < mo := o5
  have lt_mo_sl : mo < sl := o6
  have ne_a1_ge : a1 ≠ ge := Nat.ne_of_lt lt_a1_ge
  have lt_a1_sc := Nat.lt_trans lt_a1_ge lt_ge_sc
  have ne_a1_sc : a1 ≠ sc := Nat.ne_of_lt lt_a1_sc
  have lt_a1_wd := Nat.lt_trans lt_a1_sc lt_sc_wd
  have ne_a1_wd : a1 ≠ wd := Nat.ne_of_lt lt_a1_wd
  have lt_a1_pa := Nat.lt_trans lt_a1_wd lt_wd_pa
  have ne_a1_pa : a1 ≠ pa := Nat.ne_of_lt lt_a1_pa
  have lt_a1_mo := Nat.lt_trans lt_a1_pa lt_pa_mo
  have ne_a1_mo : a1 ≠ mo := Nat.ne_of_lt lt_a1_mo
  have lt_a1_sl := Nat.lt_trans lt_a1_mo lt_mo_sl
  have ne_a1_sl : a1 ≠ sl := Nat.ne_of_lt lt_a1_sl
  have ne_ge_sc : ge ≠ sc := Nat.ne_of_lt lt_ge_sc
  have lt_ge_wd := Nat.lt_trans lt_ge_sc lt_sc_wd
  have ne_ge_wd : ge ≠ wd := Nat.ne_of_lt lt_ge_wd
  have lt_ge_pa := Nat.lt_trans lt_ge_wd lt_wd_pa
  have ne_ge_pa : ge ≠ pa := Nat.ne_of_lt lt_ge_pa
  have lt_ge_mo := Nat.lt_trans lt_ge_pa lt_pa_mo
  have ne_ge_mo : ge ≠ mo := Nat.ne_of_lt lt_ge_mo
  have lt_ge_sl := Nat.lt_trans lt_ge_mo lt_mo_sl
  have ne_ge_sl : ge ≠ sl := Nat.ne_of_lt lt_ge_sl
  have ne_sc_wd : sc ≠ wd := Nat.ne_of_lt lt_sc_wd
  have lt_sc_pa := Nat.lt_trans lt_sc_wd lt_wd_pa
  have ne_sc_pa : sc ≠ pa := Nat.ne_of_lt lt_sc_pa
  have lt_sc_mo := Nat.lt_trans lt_sc_pa lt_pa_mo
  have ne_sc_mo : sc ≠ mo := Nat.ne_of_lt lt_sc_mo
  have lt_sc_sl := Nat.lt_trans lt_sc_mo lt_mo_sl
  have ne_sc_sl : sc ≠ sl := Nat.ne_of_lt lt_sc_sl
  have ne_wd_pa : wd ≠ pa := Nat.ne_of_lt lt_wd_pa
  have lt_wd_mo := Nat.lt_trans lt_wd_pa lt_pa_mo
  have ne_wd_mo : wd ≠ mo := Nat.ne_of_lt lt_wd_mo
  have lt_wd_sl := Nat.lt_trans lt_wd_mo lt_mo_sl
  have ne_wd_sl : wd ≠ sl := Nat.ne_of_lt lt_wd_sl
  have ne_pa_mo : pa ≠ mo := Nat.ne_of_lt lt_pa_mo
  have lt_pa_sl := Nat.lt_trans lt_pa_mo lt_mo_sl
  have ne_pa_sl : pa ≠ sl := Nat.ne_of_lt lt_pa_sl
  have ne_mo_sl : mo ≠ sl := Nat.ne_of_lt lt_mo_sl
  have g_a1 := ga
  have g_ge : n0 ≤ ge := Nat.le_trans ga (Nat.le_of_lt lt_a1_ge)
  have g_sc : n0 ≤ sc := Nat.le_trans ga (Nat.le_of_lt lt_a1_sc)
  have g_wd : n0 ≤ wd := Nat.le_trans ga (Nat.le_of_lt lt_a1_wd)
  have g_pa : n0 ≤ pa := Nat.le_trans ga (Nat.le_of_lt lt_a1_pa)
  have g_mo : n0 ≤ mo := Nat.le_trans ga (Nat.le_of_lt lt_a1_mo)
  have g_sl : n0 ≤ sl := Nat.le_trans ga (Nat.le_of_lt lt_a1_sl)
  refine o_aloadN X0 hx (pc' := 1) (hb hby d10_0) rfl rfl rfl ?_
  refine o_aloadN X0 hx (pc' := 2) (hb hby d10_1) rfl rfl rfl ?_
  refine o_aloadN X0 hx (pc' := 3) (hb hby d10_2) rfl rfl rfl ?_
  refine o_getfield X0 hx hZ hown (hw _ (List.mem_of_getElem? (i := 74) rfl)) e0 hSc (hb hby d10_3) (pc' := 6) rfl ?_
  intro T1 X1 e1
  refine o_callP X1 hx hZ a1 [(.ref a2), (.ref sc)] (rmEN1 l Z a0 hw h0 n0 ZZ a1 a2 sc ge k1 _ _ _ _ hP hE hGe gE gM gS vSc o1 o2 g_ge g_sc) hown (hw _ (List.mem_of_getElem? (i := 90) rfl)) (hw _ (List.mem_of_getElem? (i := 31) rfl)) (hw _ (List.mem_of_getElem? (i := 92) rfl)) (hw _ (List.mem_of_getElem? (i := 91) rfl)) (hw _ (List.mem_of_getElem? (i := 32) rfl)) (hw _ (List.mem_of_getElem? (i := 93) rfl)) (by decide) hE pd_7 e1 (by rw [hml]; rfl) rfl rfl rfl (hb hby d10_6) (pc' := 9) rfl 0 (Nat.le_of_eq rfl) (by decide) (by decide) (by decide) (by decide) ?_
  intro T2 v2 L2 X2 hQ2
  obtain ⟨rfl, Nq, Kq, vq, gMq, gSq⟩ := hQ2
  have NN := Fr.app NN Nq
  have KK := KK.trans Kq (by intro x hx; simp only [List.mem_cons, List.not_mem_nil, or_false] at hx; rcases hx with rfl | rfl <;> first | (left; simp; done) | (right; first | exact sz_none))
  have ZZ := Nat.le_trans ZZ Kq.1
  have hE := hE.keep Kq
  have gE := gE.keep Kq
  have hWi := hWi.keep Kq (by simp only [List.mem_cons, List.not_mem_nil, or_false, not_or]; exact ⟨ne_a1_sc, ne_a1_ge⟩)
  have hSc := hSc.keep Kq (by simp only [List.mem_cons, List.not_mem_nil, or_false, not_or]; exact ⟨ne_a1_sc, ne_a1_ge⟩)
  have hWo := hWo.keep Kq (by simp only [List.mem_cons, List.not_mem_nil, or_false, not_or]; exact ⟨ne_a1_sc, ne_a1_ge⟩)
  have hPa := hPa.keep Kq (by simp only [List.mem_cons, List.not_mem_nil, or_false, not_or]; exact ⟨ne_a1_sc, ne_a1_ge⟩)
  have hMo := hMo.keep Kq (by simp only [List.mem_cons, List.not_mem_nil, or_false, not_or]; exact ⟨ne_a1_sc, ne_a1_ge⟩)
  have hSl := hSl.keep Kq (by simp only [List.mem_cons, List.not_mem_nil, or_false, not_or]; exact ⟨ne_a1_sc, ne_a1_ge⟩)
  have hSz := hSz.keep Kq (by simp only [List.mem_cons, List.not_mem_nil, or_false, not_or]; exact ⟨ne_a1_sc, ne_a1_ge⟩)
  have hGe := hGe.keep Kq (by simp only [List.mem_cons, List.not_mem_nil, or_false, not_or]; exact ⟨ne_a1_sc, ne_a1_ge⟩)
  have vWd := vWd.keep Kq (by simp only [List.mem_cons, List.not_mem_nil, or_false, not_or]; exact ⟨ne_sc_wd.symm, ne_ge_wd.symm⟩)
  have vPa := vPa.keep Kq (by simp only [List.mem_cons, List.not_mem_nil, or_false, not_or]; exact ⟨ne_sc_pa.symm, ne_ge_pa.symm⟩)
  have vMo := vMo.keep Kq (by simp only [List.mem_cons, List.not_mem_nil, or_false, not_or]; exact ⟨ne_sc_mo.symm, ne_ge_mo.symm⟩)
  have vSl := vSl.keep Kq (by simp only [List.mem_cons, List.not_mem_nil, or_false, not_or]; exact ⟨ne_sc_sl.symm, ne_ge_sl.symm⟩)
  have vSc := vq
  have gM := gMq
  have gS := gSq
  show Dn p e below _ (T2.setTop (mkF m 9 #[.val (.ref a1), .val (.ref a2), .val (.int p3), .val (.int p4), .unset, .unset] []))
  refine o_aloadN X2 hx (pc' := 10) (hb hby d10_9) rfl rfl rfl ?_
  refine o_getfield X2 hx hZ hown (hw _ (List.mem_of_getElem? (i := 83) rfl)) rfl hSl (hb hby d10_10) (pc' := 13) rfl ?_
  intro T3 X3 e3
  refine o_arraylength X3 hx hZ e3 vSl (hb hby d10_13) (pc' := 14) rfl ?_
  refine o_iconst X3 hx (pc' := 15) (v := (1 : Int32)) (hb hby d10_14) rfl rfl ?_
  refine o_isub X3 hx (pc' := 16) (hb hby d10_15) rfl ?_
  rw [show ((2048 : Int32) - (1 : Int32)) = (2047 : Int32) from by decide +kernel]
  refine o_istore X3 hx (pc' := 18) (Ls' := #[.val (.ref a1), .val (.ref a2), .val (.int p3), .val (.int p4), .val (.int (2047 : Int32)), .unset]) (hb hby d10_16) rfl rfl ?_
  refine o_aloadN X3 hx (pc' := 19) (hb hby d10_18) rfl rfl rfl ?_
  refine o_aloadN X3 hx (pc' := 20) (hb hby d10_19) rfl rfl rfl ?_
  refine o_getfield X3 hx hZ hown (hw _ (List.mem_of_getElem? (i := 74) rfl)) e3 hSc (hb hby d10_20) (pc' := 23) rfl ?_
  intro T4 X4 e4
  refine o_iconst X4 hx (pc' := 24) (v := (0 : Int32)) (hb hby d10_23) rfl rfl ?_
  refine o_callPP X4 hx hZ a1 [(.ref sc), (.int (0 : Int32))] (rmH1 l Z a0 hw T2.heap n0 ZZ a1 sc k1 hWi vSc) hown (hw _ (List.mem_of_getElem? (i := 146) rfl)) (hw _ (List.mem_of_getElem? (i := 31) rfl)) (hw _ (List.mem_of_getElem? (i := 148) rfl)) (hw _ (List.mem_of_getElem? (i := 147) rfl)) (hw _ (List.mem_of_getElem? (i := 32) rfl)) (hw _ (List.mem_of_getElem? (i := 149) rfl)) (by decide) hE pd_8 e4 (by rw [hml]; rfl) rfl rfl rfl (hb hby d10_24) (pc' := 27) rfl 0 (Nat.le_of_eq rfl) (by decide) (by decide) rfl rfl (by decide) (by decide) ?_
  intro T5 X5 e5
  show Dn p e below _ (T5.setTop (mkF m 27 #[.val (.ref a1), .val (.ref a2), .val (.int p3), .val (.int p4), .val (.int (2047 : Int32)), .unset] [(.int (502617018 : Int32))]))
  refine o_iload X5 hx (pc' := 29) (hb hby d10_27) rfl rfl ?_
  refine o_iand X5 hx (pc' := 30) (hb hby d10_29) rfl ?_
  rw [show ((502617018 : Int32) &&& (2047 : Int32)) = (954 : Int32) from by decide +kernel]
  refine o_istore X5 hx (pc' := 32) (Ls' := #[.val (.ref a1), .val (.ref a2), .val (.int p3), .val (.int p4), .val (.int (2047 : Int32)), .val (.int (954 : Int32))]) (hb hby d10_30) rfl rfl ?_
  refine o_aloadN X5 hx (pc' := 33) (hb hby d10_32) rfl rfl rfl ?_
  refine o_getfield X5 hx hZ hown (hw _ (List.mem_of_getElem? (i := 83) rfl)) e5 hSl (hb hby d10_33) (pc' := 36) rfl ?_
  intro T6 X6 e6
  refine o_iload X6 hx (pc' := 38) (hb hby d10_36) rfl rfl ?_
  refine o_iaload X6 hx hZ e6 vSl (by decide) (v := (.int (0 : Int32))) (by rw [show ((954 : Int32)).toNatClampNeg = 954 from rfl, own_iget f (by decide), hf0]) (hb hby d10_38) (pc' := 39) rfl ?_
  refine o_if_eq X6 hx (pc' := 42) (pt := 101) (hb hby d10_39) rfl (by decide) (by decide) (fun _ => ?_) (fun q => absurd (by decide) q)
  refine o_aloadN X6 hx (pc' := 102) (hb hby d10_101) rfl rfl rfl ?_
  refine o_getfield X6 hx hZ hown (hw _ (List.mem_of_getElem? (i := 152) rfl)) e6 hSz (hb hby d10_102) (pc' := 105) rfl ?_
  intro T7 X7 e7
  refine o_aloadN X7 hx (pc' := 106) (hb hby d10_105) rfl rfl rfl ?_
  refine o_getfield X7 hx hZ hown (hw _ (List.mem_of_getElem? (i := 79) rfl)) e7 hPa (hb hby d10_106) (pc' := 109) rfl ?_
  intro T8 X8 e8
  refine o_arraylength X8 hx hZ e8 vPa (hb hby d10_109) (pc' := 110) rfl ?_
  refine o_icmp_ne X8 hx (pc' := 113) (pt := 132) (hb hby d10_110) rfl (by decide) (by decide) (fun _ => ?_) (fun q => absurd q (by decide))
  refine o_aloadN X8 hx (pc' := 133) (hb hby d10_132) rfl rfl rfl ?_
  refine o_getfield X8 hx hZ hown (hw _ (List.mem_of_getElem? (i := 74) rfl)) e8 hSc (hb hby d10_133) (pc' := 136) rfl ?_
  intro T9 X9 e9
  refine o_iconst X9 hx (pc' := 137) (v := (0 : Int32)) (hb hby d10_136) rfl rfl ?_
  refine o_aloadN X9 hx (pc' := 138) (hb hby d10_137) rfl rfl rfl ?_
  refine o_getfield X9 hx hZ hown (hw _ (List.mem_of_getElem? (i := 76) rfl)) e9 hWo (hb hby d10_138) (pc' := 141) rfl ?_
  intro T10 X10 e10
  refine o_aloadN X10 hx (pc' := 142) (hb hby d10_141) rfl rfl rfl ?_
  refine o_getfield X10 hx hZ hown (hw _ (List.mem_of_getElem? (i := 152) rfl)) e10 hSz (hb hby d10_142) (pc' := 145) rfl ?_
  intro T11 X11 e11
  refine o_aloadN X11 hx (pc' := 146) (hb hby d10_145) rfl rfl rfl ?_
  refine o_getfield X11 hx hZ hown (hw _ (List.mem_of_getElem? (i := 58) rfl)) e11 hWi (hb hby d10_146) (pc' := 149) rfl ?_
  intro T12 X12 e12
  refine o_imul X12 hx (pc' := 150) (hb hby d10_149) rfl ?_
  rw [show ((1 : Int32) * (2 : Int32)) = (2 : Int32) from by decide +kernel]
  refine o_aloadN X12 hx (pc' := 151) (hb hby d10_150) rfl rfl rfl ?_
  refine o_getfield X12 hx hZ hown (hw _ (List.mem_of_getElem? (i := 58) rfl)) e12 hWi (hb hby d10_151) (pc' := 154) rfl ?_
  intro T13 X13 e13
  refine o_acopy X13 hx hZ hown (hw _ (List.mem_of_getElem? (i := 154) rfl)) (hw _ (List.mem_of_getElem? (i := 157) rfl)) (hw _ (List.mem_of_getElem? (i := 155) rfl)) (hw _ (List.mem_of_getElem? (i := 156) rfl)) e13 vSc vWd 0 2 2 rfl rfl rfl (by decide) (by decide) (by rw [hml]; rfl) (hb hby d10_154) (pc' := 157) rfl 0 (Nat.le_of_eq rfl) (by decide) (by decide) ?_
  intro T14 h14 vs14 X14 e14 Kc vWq
  have NN := Fr.app NN (own_cl (q := 2) (n := 2) g_wd)
  have KK := KK.trans Kc (by intro x hx; simp only [List.mem_cons, List.not_mem_nil, or_false] at hx; subst hx; first | (left; simp; done) | (right; first | exact sz_none))
  have ZZ := Nat.le_trans ZZ Kc.1
  have hE := hE.keep Kc
  have gE := gE.keep Kc
  have hWi := hWi.keep Kc (by simp only [List.mem_cons, List.not_mem_nil, or_false, not_or]; exact ne_a1_wd)
  have hSc := hSc.keep Kc (by simp only [List.mem_cons, List.not_mem_nil, or_false, not_or]; exact ne_a1_wd)
  have hWo := hWo.keep Kc (by simp only [List.mem_cons, List.not_mem_nil, or_false, not_or]; exact ne_a1_wd)
  have hPa := hPa.keep Kc (by simp only [List.mem_cons, List.not_mem_nil, or_false, not_or]; exact ne_a1_wd)
  have hMo := hMo.keep Kc (by simp only [List.mem_cons, List.not_mem_nil, or_false, not_or]; exact ne_a1_wd)
  have hSl := hSl.keep Kc (by simp only [List.mem_cons, List.not_mem_nil, or_false, not_or]; exact ne_a1_wd)
  have hSz := hSz.keep Kc (by simp only [List.mem_cons, List.not_mem_nil, or_false, not_or]; exact ne_a1_wd)
  have hGe := hGe.keep Kc (by simp only [List.mem_cons, List.not_mem_nil, or_false, not_or]; exact ne_a1_wd)
  have vPa := vPa.keep Kc (by simp only [List.mem_cons, List.not_mem_nil, or_false, not_or]; exact ne_wd_pa.symm)
  have vMo := vMo.keep Kc (by simp only [List.mem_cons, List.not_mem_nil, or_false, not_or]; exact ne_wd_mo.symm)
  have vSl := vSl.keep Kc (by simp only [List.mem_cons, List.not_mem_nil, or_false, not_or]; exact ne_wd_sl.symm)
  have vSc := vSc.keep Kc (by simp only [List.mem_cons, List.not_mem_nil, or_false, not_or]; exact ne_sc_wd)
  have gM := gM.keep Kc (by simp only [List.mem_cons, List.not_mem_nil, or_false, not_or]; exact ne_ge_wd)
  have gS := gS.keep Kc (by simp only [List.mem_cons, List.not_mem_nil, or_false, not_or]; exact ne_ge_wd)
  have vWd := vWq
  refine o_aloadN X14 hx (pc' := 158) (hb hby d10_157) rfl rfl rfl ?_
  refine o_getfield X14 hx hZ hown (hw _ (List.mem_of_getElem? (i := 79) rfl)) e14 hPa (hb hby d10_158) (pc' := 161) rfl ?_
  intro T15 X15 e15
  refine o_aloadN X15 hx (pc' := 162) (hb hby d10_161) rfl rfl rfl ?_
  refine o_getfield X15 hx hZ hown (hw _ (List.mem_of_getElem? (i := 152) rfl)) e15 hSz (hb hby d10_162) (pc' := 165) rfl ?_
  intro T16 X16 e16
  refine o_iloadN X16 hx (pc' := 166) (hb hby d10_165) rfl rfl ?_
  refine o_iastore X16 hx hZ e16 vPa (by decide) 1 rfl hp (hb hby d10_166) (pc' := 167) rfl ?_
  intro T17 h17 X17 e17 W17 V17
  have NN := Fr.snoc X17 NN g_pa
  have KK := KK.wr W17 (Or.inl (List.mem_of_getElem? (i := 4) rfl))
  have ZZ := Nat.le_trans ZZ (Keep.of_wr W17).1
  have hE := hE.wr W17
  have gE := gE.wr W17
  have hWi := hWi.other W17 (Or.inl ne_a1_pa)
  have hSc := hSc.other W17 (Or.inl ne_a1_pa)
  have hWo := hWo.other W17 (Or.inl ne_a1_pa)
  have hPa := hPa.other W17 (Or.inl ne_a1_pa)
  have hMo := hMo.other W17 (Or.inl ne_a1_pa)
  have hSl := hSl.other W17 (Or.inl ne_a1_pa)
  have hSz := hSz.other W17 (Or.inl ne_a1_pa)
  have hGe := hGe.other W17 (Or.inl ne_a1_pa)
  have vMo := vMo.other W17 ne_pa_mo.symm
  have vSl := vSl.other W17 ne_pa_sl.symm
  have vSc := vSc.other W17 ne_sc_pa
  have gM := gM.other W17 (Or.inl ne_ge_pa)
  have gS := gS.other W17 (Or.inl ne_ge_pa)
  have vWd := vWd.other W17 ne_wd_pa
  have vPa := V17
  refine o_aloadN X17 hx (pc' := 168) (hb hby d10_167) rfl rfl rfl ?_
  refine o_getfield X17 hx hZ hown (hw _ (List.mem_of_getElem? (i := 81) rfl)) e17 hMo (hb hby d10_168) (pc' := 171) rfl ?_
  intro T18 X18 e18
  refine o_aloadN X18 hx (pc' := 172) (hb hby d10_171) rfl rfl rfl ?_
  refine o_getfield X18 hx hZ hown (hw _ (List.mem_of_getElem? (i := 152) rfl)) e18 hSz (hb hby d10_172) (pc' := 175) rfl ?_
  intro T19 X19 e19
  refine o_iloadN X19 hx (pc' := 176) (hb hby d10_175) rfl rfl ?_
  refine o_iastore X19 hx hZ e19 vMo (by decide) 1 rfl hm (hb hby d10_176) (pc' := 177) rfl ?_
  intro T20 h20 X20 e20 W20 V20
  have NN := Fr.snoc X20 NN g_mo
  have KK := KK.wr W20 (Or.inl (List.mem_of_getElem? (i := 5) rfl))
  have ZZ := Nat.le_trans ZZ (Keep.of_wr W20).1
  have hE := hE.wr W20
  have gE := gE.wr W20
  have hWi := hWi.other W20 (Or.inl ne_a1_mo)
  have hSc := hSc.other W20 (Or.inl ne_a1_mo)
  have hWo := hWo.other W20 (Or.inl ne_a1_mo)
  have hPa := hPa.other W20 (Or.inl ne_a1_mo)
  have hMo := hMo.other W20 (Or.inl ne_a1_mo)
  have hSl := hSl.other W20 (Or.inl ne_a1_mo)
  have hSz := hSz.other W20 (Or.inl ne_a1_mo)
  have hGe := hGe.other W20 (Or.inl ne_a1_mo)
  have vPa := vPa.other W20 ne_pa_mo
  have vSl := vSl.other W20 ne_mo_sl.symm
  have vSc := vSc.other W20 ne_sc_mo
  have gM := gM.other W20 (Or.inl ne_ge_mo)
  have gS := gS.other W20 (Or.inl ne_ge_mo)
  have vWd := vWd.other W20 ne_wd_mo
  have vMo := V20
  refine o_aloadN X20 hx (pc' := 178) (hb hby d10_177) rfl rfl rfl ?_
  refine o_getfield X20 hx hZ hown (hw _ (List.mem_of_getElem? (i := 83) rfl)) e20 hSl (hb hby d10_178) (pc' := 181) rfl ?_
  intro T21 X21 e21
  refine o_iload X21 hx (pc' := 183) (hb hby d10_181) rfl rfl ?_
  refine o_aloadN X21 hx (pc' := 184) (hb hby d10_183) rfl rfl rfl ?_
  refine o_dup X21 hx (pc' := 185) (hb hby d10_184) rfl rfl ?_
  refine o_getfield X21 hx hZ hown (hw _ (List.mem_of_getElem? (i := 152) rfl)) e21 hSz (hb hby d10_185) (pc' := 188) rfl ?_
  intro T22 X22 e22
  refine o_iconst X22 hx (pc' := 189) (v := (1 : Int32)) (hb hby d10_188) rfl rfl ?_
  refine o_iadd X22 hx (pc' := 190) (hb hby d10_189) rfl ?_
  rw [show ((1 : Int32) + (1 : Int32)) = (2 : Int32) from by decide +kernel]
  refine o_dupX1 X22 hx (pc' := 191) (hb hby d10_190) rfl rfl rfl ?_
  refine o_putfield X22 hx hZ hown (hw _ (List.mem_of_getElem? (i := 152) rfl)) e22 hSz hE (Or.inl (hw _ (List.mem_of_getElem? (i := 153) rfl))) (hw _ (List.mem_of_getElem? (i := 31) rfl)) (ty := .int) (v' := (.int (2 : Int32))) (by decide) rfl rfl (hb hby d10_191) (pc' := 194) rfl ?_
  intro T23 h23 X23 e23 W23 F23 E23
  have NN := Fr.snoc X23 NN g_a1
  have KK := KK.wr W23 (Or.inl (List.mem_of_getElem? (i := 0) rfl))
  have ZZ := Nat.le_trans ZZ (Keep.of_wr W23).1
  have gE := gE.wr W23
  have hWi := hWi.other W23 (Or.inr (slot_ne (Or.inr (hw _ (List.mem_of_getElem? (i := 59) rfl))) (Or.inl (hw _ (List.mem_of_getElem? (i := 153) rfl))) (by decide) (t := .int) (t' := .int) (by decide) (by decide)))
  have hSc := hSc.other W23 (Or.inr (slot_ne (Or.inr (hw _ (List.mem_of_getElem? (i := 75) rfl))) (Or.inl (hw _ (List.mem_of_getElem? (i := 153) rfl))) (by decide) (t := (.array .long)) (t' := .int) (by decide) (by decide)))
  have hWo := hWo.other W23 (Or.inr (slot_ne (Or.inl (hw _ (List.mem_of_getElem? (i := 77) rfl))) (Or.inl (hw _ (List.mem_of_getElem? (i := 153) rfl))) (by decide) (t := (.array .long)) (t' := .int) (by decide) (by decide)))
  have hPa := hPa.other W23 (Or.inr (slot_ne (Or.inl (hw _ (List.mem_of_getElem? (i := 80) rfl))) (Or.inl (hw _ (List.mem_of_getElem? (i := 153) rfl))) (by decide) (t := (.array .int)) (t' := .int) (by decide) (by decide)))
  have hMo := hMo.other W23 (Or.inr (slot_ne (Or.inl (hw _ (List.mem_of_getElem? (i := 82) rfl))) (Or.inl (hw _ (List.mem_of_getElem? (i := 153) rfl))) (by decide) (t := (.array .int)) (t' := .int) (by decide) (by decide)))
  have hSl := hSl.other W23 (Or.inr (slot_ne (Or.inl (hw _ (List.mem_of_getElem? (i := 84) rfl))) (Or.inl (hw _ (List.mem_of_getElem? (i := 153) rfl))) (by decide) (t := (.array .int)) (t' := .int) (by decide) (by decide)))
  have hGe := hGe.other W23 (Or.inr (slot_ne (Or.inr (hw _ (List.mem_of_getElem? (i := 45) rfl))) (Or.inl (hw _ (List.mem_of_getElem? (i := 153) rfl))) (by decide) (t := (.object "com/example/jadoube/jadoube/MoveGenerator")) (t' := .int) (by decide) (by decide)))
  have vPa := vPa.other W23 ne_a1_pa.symm
  have vMo := vMo.other W23 ne_a1_mo.symm
  have vSl := vSl.other W23 ne_a1_sl.symm
  have vSc := vSc.other W23 ne_a1_sc.symm
  have gM := gM.other W23 (Or.inl ne_a1_ge.symm)
  have gS := gS.other W23 (Or.inl ne_a1_ge.symm)
  have vWd := vWd.other W23 ne_a1_wd.symm
  have hSz := F23
  have hE := E23
  refine o_iastore X23 hx hZ e23 vSl (by decide) 954 rfl (by rw [own_ilen]; decide) (hb hby d10_194) (pc' := 195) rfl ?_
  intro T24 h24 X24 e24 W24 V24
  have NN := Fr.snoc X24 NN g_sl
  have KK := KK.wr W24 (Or.inl (List.mem_of_getElem? (i := 6) rfl))
  have ZZ := Nat.le_trans ZZ (Keep.of_wr W24).1
  have hE := hE.wr W24
  have gE := gE.wr W24
  have hWi := hWi.other W24 (Or.inl ne_a1_sl)
  have hSc := hSc.other W24 (Or.inl ne_a1_sl)
  have hWo := hWo.other W24 (Or.inl ne_a1_sl)
  have hPa := hPa.other W24 (Or.inl ne_a1_sl)
  have hMo := hMo.other W24 (Or.inl ne_a1_sl)
  have hSl := hSl.other W24 (Or.inl ne_a1_sl)
  have hSz := hSz.other W24 (Or.inl ne_a1_sl)
  have hGe := hGe.other W24 (Or.inl ne_a1_sl)
  have vPa := vPa.other W24 ne_pa_sl
  have vMo := vMo.other W24 ne_mo_sl
  have vSc := vSc.other W24 ne_sc_sl
  have gM := gM.other W24 (Or.inl ne_ge_sl)
  have gS := gS.other W24 (Or.inl ne_ge_sl)
  have vWd := vWd.other W24 ne_wd_sl
  have vSl : Arv Z h24 sl k5 .int 2048 (own_iv (fun j => if j = 954 then 2 else f j)) (.int 0) := by rw [← own_iset]; exact V24
  refine o_aloadN X24 hx (pc' := 196) (hb hby d10_195) rfl rfl rfl ?_
  refine o_getfield X24 hx hZ hown (hw _ (List.mem_of_getElem? (i := 152) rfl)) e24 hSz (hb hby d10_196) (pc' := 199) rfl ?_
  intro T25 X25 e25
  refine o_iconst X25 hx (pc' := 200) (v := (1 : Int32)) (hb hby d10_199) rfl rfl ?_
  refine o_isub X25 hx (pc' := 201) (hb hby d10_200) rfl ?_
  rw [show ((2 : Int32) - (1 : Int32)) = (1 : Int32) from by decide +kernel]
  exact finI X25 hx hlk hret (hb hby d10_201) (by decide) (by decide) ⟨rfl, NN, ⟨_, by rw [e25]; exact KK, all7 (Nat.le_refl _) o1 o2 o3 o4 o5 o6⟩, by rw [e25]; exact ⟨ge, sc, wd, pa, mo, sl, k1, k2, k3, k4, k5, _, _, _, _, _, o1, o2, o3, o4, o5, o6, hE, gE, hWi, hSc, hWo, hPa, hMo, hSl, hSz, hGe, gM, gS, vSc, vWd, vPa, vMo, vSl⟩⟩
set_option maxRecDepth 65536 in
set_option maxHeartbeats 40000000 in
theorem rmA2 (l : Launch) (Z : State) (a0 : Array Value) (hw : ∀ d ∈ tables_1, d.before a0 Z = true) (h0 : Heap) (n0 : Nat) (Z0 : n0 ≤ h0.size) (a1 : Addr) (a2 : Addr) (p3 : Int32) (p4 : Int32) (pv mv : List Value) (f : Nat → Int32) (hT : Tab Z h0 a1 2 pv mv f) (hP : Pos Z h0 a1 a2 4) (hf0 : f 1141 = 0) (hp : 2 < pv.length) (hm : 2 < mv.length) (ga : n0 ≤ a1) : Ctr l Z (⟨"com/example/jadoube/jadoube/PositionTable", "add", "(Lcom/example/jadoube/jadoube/Position;II)I"⟩ : MethodName) prog_33_method_4_code 6 (some .int) [] ({ frames := 5, cells := 0, slots := 0, locals := 81 } : Room) #[(.ref a1), (.ref a2), (.int p3), (.int p4)] h0 (fun v h L => v = some (.int 2) ∧ Fr n0 L ∧ (∃ ws, Keep h0 h ws ∧ ∀ x ∈ ws, a1 ≤ x) ∧ Tab Z h a1 3 (pv.set 2 (.int p3)) (mv.set 2 (.int p4)) (fun j => if j = 1141 then 3 else f j)) := by
  refine ctr_mk pn_10 (own := "com/example/jadoube/jadoube/PositionTable") (mn := "add") rfl rfl ?_
  intro p e s m below meth c T0 X0 hx hby hml hZ hown hnm hret hlk e0
  refine o_entry (ef_10 m a1 a2 p3 p4) ?_
  obtain ⟨ge, sc, wd, pa, mo, sl, k1, k2, k3, k4, k5, x, y, vs, u, w, o1, o2, o3, o4, o5, o6, hE, gE, hWi, hSc, hWo, hPa, hMo, hSl, hSz, hGe, gM, gS, vSc, vWd, vPa, vMo, vSl⟩ := hT
  have NN := Fr.nil n0
  have ZZ := Z0
  have KK := Keep.refl h0 [a1, ge, sc, wd, pa, mo, sl]
  have lt_a1_ge : a1 < ge := o1
  have lt_ge_sc : ge < sc := o2
  have lt_sc_wd : sc < wd := o3
  have lt_wd_pa : wd < pa := o4
  have lt_pa_mo : pa < mo := o5
  have lt_mo_sl : mo < sl := o6
  have ne_a1_ge : a1 ≠ ge := Nat.ne_of_lt lt_a1_ge
  have lt_a1_sc := Nat.lt_trans lt_a1_ge lt_ge_sc
  have ne_a1_sc : a1 ≠ sc := Nat.ne_of_lt lt_a1_sc
  have lt_a1_wd := Nat.lt_trans lt_a1_sc lt_sc_wd
  have ne_a1_wd : a1 ≠ wd := Nat.ne_of_lt lt_a1_wd
  have lt_a1_pa := Nat.lt_trans lt_a1_wd lt_wd_pa
  have ne_a1_pa : a1 ≠ pa := Nat.ne_of_lt lt_a1_pa
  have lt_a1_mo := Nat.lt_trans lt_a1_pa lt_pa_mo
  have ne_a1_mo : a1 ≠ mo := Nat.ne_of_lt lt_a1_mo
  have lt_a1_sl := Nat.lt_trans lt_a1_mo lt_mo_sl
  have ne_a1_sl : a1 ≠ sl := Nat.ne_of_lt lt_a1_sl
  have ne_ge_sc : ge ≠ sc := Nat.ne_of_lt lt_ge_sc
  have lt_ge_wd := Nat.lt_trans lt_ge_sc lt_sc_wd
  have ne_ge_wd : ge ≠ wd := Nat.ne_of_lt lt_ge_wd
  have lt_ge_pa := Nat.lt_trans lt_ge_wd lt_wd_pa
  have ne_ge_pa : ge ≠ pa := Nat.ne_of_lt lt_ge_pa
  have lt_ge_mo := Nat.lt_trans lt_ge_pa lt_pa_mo
  have ne_ge_mo : ge ≠ mo := Nat.ne_of_lt lt_ge_mo
  have lt_ge_sl := Nat.lt_trans lt_ge_mo lt_mo_sl
  have ne_ge_sl : ge ≠ sl := Nat.ne_of_lt lt_ge_sl
  have ne_sc_wd : sc ≠ wd := Nat.ne_of_lt lt_sc_wd
  have lt_sc_pa := Nat.lt_trans lt_sc_wd lt_wd_pa
  have ne_sc_pa : sc ≠ pa := Nat.ne_of_lt lt_sc_pa
  have lt_sc_mo := Nat.lt_trans lt_sc_pa lt_pa_mo
  have ne_sc_mo : sc ≠ mo := Nat.ne_of_lt lt_sc_mo
  have lt_sc_sl := Nat.lt_trans lt_sc_mo lt_mo_sl
  have ne_sc_sl : sc ≠ sl := Nat.ne_of_lt lt_sc_sl
  have ne_wd_pa : wd ≠ pa := Nat.ne_of_lt lt_wd_pa
  have lt_wd_mo := Nat.lt_trans lt_wd_pa lt_pa_mo
  have ne_wd_mo : wd ≠ mo := Nat.ne_of_lt lt_wd_mo
  have lt_wd_sl := Nat.lt_trans lt_wd_mo lt_mo_sl
  have ne_wd_sl : wd ≠ sl := Nat.ne_of_lt lt_wd_sl
  have ne_pa_mo : pa ≠ mo := Nat.ne_of_lt lt_pa_mo
  have lt_pa_sl := Nat.lt_trans lt_pa_mo lt_mo_sl
  have ne_pa_sl : pa ≠ sl := Nat.ne_of_lt lt_pa_sl
  have ne_mo_sl : mo ≠ sl := Nat.ne_of_lt lt_mo_sl
  have g_a1 := ga
  have g_ge : n0 ≤ ge := Nat.le_trans ga (Nat.le_of_lt lt_a1_ge)
  have g_sc : n0 ≤ sc := Nat.le_trans ga (Nat.le_of_lt lt_a1_sc)
  have g_wd : n0 ≤ wd := Nat.le_trans ga (Nat.le_of_lt lt_a1_wd)
  have g_pa : n0 ≤ pa := Nat.le_trans ga (Nat.le_of_lt lt_a1_pa)
  have g_mo : n0 ≤ mo := Nat.le_trans ga (Nat.le_of_lt lt_a1_mo)
  have g_sl : n0 ≤ sl := Nat.le_trans ga (Nat.le_of_lt lt_a1_sl)
  refine o_aloadN X0 hx (pc' := 1) (hb hby d10_0) rfl rfl rfl ?_
  refine o_aloadN X0 hx (pc' := 2) (hb hby d10_1) rfl rfl rfl ?_
  refine o_aloadN X0 hx (pc' := 3) (hb hby d10_2) rfl rfl rfl ?_
  refine o_getfield X0 hx hZ hown (hw _ (List.mem_of_getElem? (i := 74) rfl)) e0 hSc (hb hby d10_3) (pc' := 6) rfl ?_
  intro T1 X1 e1
  refine o_callP X1 hx hZ a1 [(.ref a2), (.ref sc)] (rmEN2 l Z a0 hw h0 n0 ZZ a1 a2 sc ge k1 _ _ _ _ hP hE hGe gE gM gS vSc o1 o2 g_ge g_sc) hown (hw _ (List.mem_of_getElem? (i := 90) rfl)) (hw _ (List.mem_of_getElem? (i := 31) rfl)) (hw _ (List.mem_of_getElem? (i := 92) rfl)) (hw _ (List.mem_of_getElem? (i := 91) rfl)) (hw _ (List.mem_of_getElem? (i := 32) rfl)) (hw _ (List.mem_of_getElem? (i := 93) rfl)) (by decide) hE pd_7 e1 (by rw [hml]; rfl) rfl rfl rfl (hb hby d10_6) (pc' := 9) rfl 0 (Nat.le_of_eq rfl) (by decide) (by decide) (by decide) (by decide) ?_
  intro T2 v2 L2 X2 hQ2
  obtain ⟨rfl, Nq, Kq, vq, gMq, gSq⟩ := hQ2
  have NN := Fr.app NN Nq
  have KK := KK.trans Kq (by intro x hx; simp only [List.mem_cons, List.not_mem_nil, or_false] at hx; rcases hx with rfl | rfl <;> first | (left; simp; done) | (right; first | exact sz_none))
  have ZZ := Nat.le_trans ZZ Kq.1
  have hE := hE.keep Kq
  have gE := gE.keep Kq
  have hWi := hWi.keep Kq (by simp only [List.mem_cons, List.not_mem_nil, or_false, not_or]; exact ⟨ne_a1_sc, ne_a1_ge⟩)
  have hSc := hSc.keep Kq (by simp only [List.mem_cons, List.not_mem_nil, or_false, not_or]; exact ⟨ne_a1_sc, ne_a1_ge⟩)
  have hWo := hWo.keep Kq (by simp only [List.mem_cons, List.not_mem_nil, or_false, not_or]; exact ⟨ne_a1_sc, ne_a1_ge⟩)
  have hPa := hPa.keep Kq (by simp only [List.mem_cons, List.not_mem_nil, or_false, not_or]; exact ⟨ne_a1_sc, ne_a1_ge⟩)
  have hMo := hMo.keep Kq (by simp only [List.mem_cons, List.not_mem_nil, or_false, not_or]; exact ⟨ne_a1_sc, ne_a1_ge⟩)
  have hSl := hSl.keep Kq (by simp only [List.mem_cons, List.not_mem_nil, or_false, not_or]; exact ⟨ne_a1_sc, ne_a1_ge⟩)
  have hSz := hSz.keep Kq (by simp only [List.mem_cons, List.not_mem_nil, or_false, not_or]; exact ⟨ne_a1_sc, ne_a1_ge⟩)
  have hGe := hGe.keep Kq (by simp only [List.mem_cons, List.not_mem_nil, or_false, not_or]; exact ⟨ne_a1_sc, ne_a1_ge⟩)
  have vWd := vWd.keep Kq (by simp only [List.mem_cons, List.not_mem_nil, or_false, not_or]; exact ⟨ne_sc_wd.symm, ne_ge_wd.symm⟩)
  have vPa := vPa.keep Kq (by simp only [List.mem_cons, List.not_mem_nil, or_false, not_or]; exact ⟨ne_sc_pa.symm, ne_ge_pa.symm⟩)
  have vMo := vMo.keep Kq (by simp only [List.mem_cons, List.not_mem_nil, or_false, not_or]; exact ⟨ne_sc_mo.symm, ne_ge_mo.symm⟩)
  have vSl := vSl.keep Kq (by simp only [List.mem_cons, List.not_mem_nil, or_false, not_or]; exact ⟨ne_sc_sl.symm, ne_ge_sl.symm⟩)
  have vSc := vq
  have gM := gMq
  have gS := gSq
  show Dn p e below _ (T2.setTop (mkF m 9 #[.val (.ref a1), .val (.ref a2), .val (.int p3), .val (.int p4), .unset, .unset] []))
  refine o_aloadN X2 hx (pc' := 10) (hb hby d10_9) rfl rfl rfl ?_
  refine o_getfield X2 hx hZ hown (hw _ (List.mem_of_getElem? (i := 83) rfl)) rfl hSl (hb hby d10_10) (pc' := 13) rfl ?_
  intro T3 X3 e3
  refine o_arraylength X3 hx hZ e3 vSl (hb hby d10_13) (pc' := 14) rfl ?_
  refine o_iconst X3 hx (pc' := 15) (v := (1 : Int32)) (hb hby d10_14) rfl rfl ?_
  refine o_isub X3 hx (pc' := 16) (hb hby d10_15) rfl ?_
  rw [show ((2048 : Int32) - (1 : Int32)) = (2047 : Int32) from by decide +kernel]
  refine o_istore X3 hx (pc' := 18) (Ls' := #[.val (.ref a1), .val (.ref a2), .val (.int p3), .val (.int p4), .val (.int (2047 : Int32)), .unset]) (hb hby d10_16) rfl rfl ?_
  refine o_aloadN X3 hx (pc' := 19) (hb hby d10_18) rfl rfl rfl ?_
  refine o_aloadN X3 hx (pc' := 20) (hb hby d10_19) rfl rfl rfl ?_
  refine o_getfield X3 hx hZ hown (hw _ (List.mem_of_getElem? (i := 74) rfl)) e3 hSc (hb hby d10_20) (pc' := 23) rfl ?_
  intro T4 X4 e4
  refine o_iconst X4 hx (pc' := 24) (v := (0 : Int32)) (hb hby d10_23) rfl rfl ?_
  refine o_callPP X4 hx hZ a1 [(.ref sc), (.int (0 : Int32))] (rmH2 l Z a0 hw T2.heap n0 ZZ a1 sc k1 hWi vSc) hown (hw _ (List.mem_of_getElem? (i := 146) rfl)) (hw _ (List.mem_of_getElem? (i := 31) rfl)) (hw _ (List.mem_of_getElem? (i := 148) rfl)) (hw _ (List.mem_of_getElem? (i := 147) rfl)) (hw _ (List.mem_of_getElem? (i := 32) rfl)) (hw _ (List.mem_of_getElem? (i := 149) rfl)) (by decide) hE pd_8 e4 (by rw [hml]; rfl) rfl rfl rfl (hb hby d10_24) (pc' := 27) rfl 0 (Nat.le_of_eq rfl) (by decide) (by decide) rfl rfl (by decide) (by decide) ?_
  intro T5 X5 e5
  show Dn p e below _ (T5.setTop (mkF m 27 #[.val (.ref a1), .val (.ref a2), .val (.int p3), .val (.int p4), .val (.int (2047 : Int32)), .unset] [(.int (39773301 : Int32))]))
  refine o_iload X5 hx (pc' := 29) (hb hby d10_27) rfl rfl ?_
  refine o_iand X5 hx (pc' := 30) (hb hby d10_29) rfl ?_
  rw [show ((39773301 : Int32) &&& (2047 : Int32)) = (1141 : Int32) from by decide +kernel]
  refine o_istore X5 hx (pc' := 32) (Ls' := #[.val (.ref a1), .val (.ref a2), .val (.int p3), .val (.int p4), .val (.int (2047 : Int32)), .val (.int (1141 : Int32))]) (hb hby d10_30) rfl rfl ?_
  refine o_aloadN X5 hx (pc' := 33) (hb hby d10_32) rfl rfl rfl ?_
  refine o_getfield X5 hx hZ hown (hw _ (List.mem_of_getElem? (i := 83) rfl)) e5 hSl (hb hby d10_33) (pc' := 36) rfl ?_
  intro T6 X6 e6
  refine o_iload X6 hx (pc' := 38) (hb hby d10_36) rfl rfl ?_
  refine o_iaload X6 hx hZ e6 vSl (by decide) (v := (.int (0 : Int32))) (by rw [show ((1141 : Int32)).toNatClampNeg = 1141 from rfl, own_iget f (by decide), hf0]) (hb hby d10_38) (pc' := 39) rfl ?_
  refine o_if_eq X6 hx (pc' := 42) (pt := 101) (hb hby d10_39) rfl (by decide) (by decide) (fun _ => ?_) (fun q => absurd (by decide) q)
  refine o_aloadN X6 hx (pc' := 102) (hb hby d10_101) rfl rfl rfl ?_
  refine o_getfield X6 hx hZ hown (hw _ (List.mem_of_getElem? (i := 152) rfl)) e6 hSz (hb hby d10_102) (pc' := 105) rfl ?_
  intro T7 X7 e7
  refine o_aloadN X7 hx (pc' := 106) (hb hby d10_105) rfl rfl rfl ?_
  refine o_getfield X7 hx hZ hown (hw _ (List.mem_of_getElem? (i := 79) rfl)) e7 hPa (hb hby d10_106) (pc' := 109) rfl ?_
  intro T8 X8 e8
  refine o_arraylength X8 hx hZ e8 vPa (hb hby d10_109) (pc' := 110) rfl ?_
  refine o_icmp_ne X8 hx (pc' := 113) (pt := 132) (hb hby d10_110) rfl (by decide) (by decide) (fun _ => ?_) (fun q => absurd q (by decide))
  refine o_aloadN X8 hx (pc' := 133) (hb hby d10_132) rfl rfl rfl ?_
  refine o_getfield X8 hx hZ hown (hw _ (List.mem_of_getElem? (i := 74) rfl)) e8 hSc (hb hby d10_133) (pc' := 136) rfl ?_
  intro T9 X9 e9
  refine o_iconst X9 hx (pc' := 137) (v := (0 : Int32)) (hb hby d10_136) rfl rfl ?_
  refine o_aloadN X9 hx (pc' := 138) (hb hby d10_137) rfl rfl rfl ?_
  refine o_getfield X9 hx hZ hown (hw _ (List.mem_of_getElem? (i := 76) rfl)) e9 hWo (hb hby d10_138) (pc' := 141) rfl ?_
  intro T10 X10 e10
  refine o_aloadN X10 hx (pc' := 142) (hb hby d10_141) rfl rfl rfl ?_
  refine o_getfield X10 hx hZ hown (hw _ (List.mem_of_getElem? (i := 152) rfl)) e10 hSz (hb hby d10_142) (pc' := 145) rfl ?_
  intro T11 X11 e11
  refine o_aloadN X11 hx (pc' := 146) (hb hby d10_145) rfl rfl rfl ?_
  refine o_getfield X11 hx hZ hown (hw _ (List.mem_of_getElem? (i := 58) rfl)) e11 hWi (hb hby d10_146) (pc' := 149) rfl ?_
  intro T12 X12 e12
  refine o_imul X12 hx (pc' := 150) (hb hby d10_149) rfl ?_
  rw [show ((2 : Int32) * (2 : Int32)) = (4 : Int32) from by decide +kernel]
  refine o_aloadN X12 hx (pc' := 151) (hb hby d10_150) rfl rfl rfl ?_
  refine o_getfield X12 hx hZ hown (hw _ (List.mem_of_getElem? (i := 58) rfl)) e12 hWi (hb hby d10_151) (pc' := 154) rfl ?_
  intro T13 X13 e13
  refine o_acopy X13 hx hZ hown (hw _ (List.mem_of_getElem? (i := 154) rfl)) (hw _ (List.mem_of_getElem? (i := 157) rfl)) (hw _ (List.mem_of_getElem? (i := 155) rfl)) (hw _ (List.mem_of_getElem? (i := 156) rfl)) e13 vSc vWd 0 4 2 rfl rfl rfl (by decide) (by decide) (by rw [hml]; rfl) (hb hby d10_154) (pc' := 157) rfl 0 (Nat.le_of_eq rfl) (by decide) (by decide) ?_
  intro T14 h14 vs14 X14 e14 Kc vWq
  have NN := Fr.app NN (own_cl (q := 4) (n := 2) g_wd)
  have KK := KK.trans Kc (by intro x hx; simp only [List.mem_cons, List.not_mem_nil, or_false] at hx; subst hx; first | (left; simp; done) | (right; first | exact sz_none))
  have ZZ := Nat.le_trans ZZ Kc.1
  have hE := hE.keep Kc
  have gE := gE.keep Kc
  have hWi := hWi.keep Kc (by simp only [List.mem_cons, List.not_mem_nil, or_false, not_or]; exact ne_a1_wd)
  have hSc := hSc.keep Kc (by simp only [List.mem_cons, List.not_mem_nil, or_false, not_or]; exact ne_a1_wd)
  have hWo := hWo.keep Kc (by simp only [List.mem_cons, List.not_mem_nil, or_false, not_or]; exact ne_a1_wd)
  have hPa := hPa.keep Kc (by simp only [List.mem_cons, List.not_mem_nil, or_false, not_or]; exact ne_a1_wd)
  have hMo := hMo.keep Kc (by simp only [List.mem_cons, List.not_mem_nil, or_false, not_or]; exact ne_a1_wd)
  have hSl := hSl.keep Kc (by simp only [List.mem_cons, List.not_mem_nil, or_false, not_or]; exact ne_a1_wd)
  have hSz := hSz.keep Kc (by simp only [List.mem_cons, List.not_mem_nil, or_false, not_or]; exact ne_a1_wd)
  have hGe := hGe.keep Kc (by simp only [List.mem_cons, List.not_mem_nil, or_false, not_or]; exact ne_a1_wd)
  have vPa := vPa.keep Kc (by simp only [List.mem_cons, List.not_mem_nil, or_false, not_or]; exact ne_wd_pa.symm)
  have vMo := vMo.keep Kc (by simp only [List.mem_cons, List.not_mem_nil, or_false, not_or]; exact ne_wd_mo.symm)
  have vSl := vSl.keep Kc (by simp only [List.mem_cons, List.not_mem_nil, or_false, not_or]; exact ne_wd_sl.symm)
  have vSc := vSc.keep Kc (by simp only [List.mem_cons, List.not_mem_nil, or_false, not_or]; exact ne_sc_wd)
  have gM := gM.keep Kc (by simp only [List.mem_cons, List.not_mem_nil, or_false, not_or]; exact ne_ge_wd)
  have gS := gS.keep Kc (by simp only [List.mem_cons, List.not_mem_nil, or_false, not_or]; exact ne_ge_wd)
  have vWd := vWq
  refine o_aloadN X14 hx (pc' := 158) (hb hby d10_157) rfl rfl rfl ?_
  refine o_getfield X14 hx hZ hown (hw _ (List.mem_of_getElem? (i := 79) rfl)) e14 hPa (hb hby d10_158) (pc' := 161) rfl ?_
  intro T15 X15 e15
  refine o_aloadN X15 hx (pc' := 162) (hb hby d10_161) rfl rfl rfl ?_
  refine o_getfield X15 hx hZ hown (hw _ (List.mem_of_getElem? (i := 152) rfl)) e15 hSz (hb hby d10_162) (pc' := 165) rfl ?_
  intro T16 X16 e16
  refine o_iloadN X16 hx (pc' := 166) (hb hby d10_165) rfl rfl ?_
  refine o_iastore X16 hx hZ e16 vPa (by decide) 2 rfl hp (hb hby d10_166) (pc' := 167) rfl ?_
  intro T17 h17 X17 e17 W17 V17
  have NN := Fr.snoc X17 NN g_pa
  have KK := KK.wr W17 (Or.inl (List.mem_of_getElem? (i := 4) rfl))
  have ZZ := Nat.le_trans ZZ (Keep.of_wr W17).1
  have hE := hE.wr W17
  have gE := gE.wr W17
  have hWi := hWi.other W17 (Or.inl ne_a1_pa)
  have hSc := hSc.other W17 (Or.inl ne_a1_pa)
  have hWo := hWo.other W17 (Or.inl ne_a1_pa)
  have hPa := hPa.other W17 (Or.inl ne_a1_pa)
  have hMo := hMo.other W17 (Or.inl ne_a1_pa)
  have hSl := hSl.other W17 (Or.inl ne_a1_pa)
  have hSz := hSz.other W17 (Or.inl ne_a1_pa)
  have hGe := hGe.other W17 (Or.inl ne_a1_pa)
  have vMo := vMo.other W17 ne_pa_mo.symm
  have vSl := vSl.other W17 ne_pa_sl.symm
  have vSc := vSc.other W17 ne_sc_pa
  have gM := gM.other W17 (Or.inl ne_ge_pa)
  have gS := gS.other W17 (Or.inl ne_ge_pa)
  have vWd := vWd.other W17 ne_wd_pa
  have vPa := V17
  refine o_aloadN X17 hx (pc' := 168) (hb hby d10_167) rfl rfl rfl ?_
  refine o_getfield X17 hx hZ hown (hw _ (List.mem_of_getElem? (i := 81) rfl)) e17 hMo (hb hby d10_168) (pc' := 171) rfl ?_
  intro T18 X18 e18
  refine o_aloadN X18 hx (pc' := 172) (hb hby d10_171) rfl rfl rfl ?_
  refine o_getfield X18 hx hZ hown (hw _ (List.mem_of_getElem? (i := 152) rfl)) e18 hSz (hb hby d10_172) (pc' := 175) rfl ?_
  intro T19 X19 e19
  refine o_iloadN X19 hx (pc' := 176) (hb hby d10_175) rfl rfl ?_
  refine o_iastore X19 hx hZ e19 vMo (by decide) 2 rfl hm (hb hby d10_176) (pc' := 177) rfl ?_
  intro T20 h20 X20 e20 W20 V20
  have NN := Fr.snoc X20 NN g_mo
  have KK := KK.wr W20 (Or.inl (List.mem_of_getElem? (i := 5) rfl))
  have ZZ := Nat.le_trans ZZ (Keep.of_wr W20).1
  have hE := hE.wr W20
  have gE := gE.wr W20
  have hWi := hWi.other W20 (Or.inl ne_a1_mo)
  have hSc := hSc.other W20 (Or.inl ne_a1_mo)
  have hWo := hWo.other W20 (Or.inl ne_a1_mo)
  have hPa := hPa.other W20 (Or.inl ne_a1_mo)
  have hMo := hMo.other W20 (Or.inl ne_a1_mo)
  have hSl := hSl.other W20 (Or.inl ne_a1_mo)
  have hSz := hSz.other W20 (Or.inl ne_a1_mo)
  have hGe := hGe.other W20 (Or.inl ne_a1_mo)
  have vPa := vPa.other W20 ne_pa_mo
  have vSl := vSl.other W20 ne_mo_sl.symm
  have vSc := vSc.other W20 ne_sc_mo
  have gM := gM.other W20 (Or.inl ne_ge_mo)
  have gS := gS.other W20 (Or.inl ne_ge_mo)
  have vWd := vWd.other W20 ne_wd_mo
  have vMo := V20
  refine o_aloadN X20 hx (pc' := 178) (hb hby d10_177) rfl rfl rfl ?_
  refine o_getfield X20 hx hZ hown (hw _ (List.mem_of_getElem? (i := 83) rfl)) e20 hSl (hb hby d10_178) (pc' := 181) rfl ?_
  intro T21 X21 e21
  refine o_iload X21 hx (pc' := 183) (hb hby d10_181) rfl rfl ?_
  refine o_aloadN X21 hx (pc' := 184) (hb hby d10_183) rfl rfl rfl ?_
  refine o_dup X21 hx (pc' := 185) (hb hby d10_184) rfl rfl ?_
  refine o_getfield X21 hx hZ hown (hw _ (List.mem_of_getElem? (i := 152) rfl)) e21 hSz (hb hby d10_185) (pc' := 188) rfl ?_
  intro T22 X22 e22
  refine o_iconst X22 hx (pc' := 189) (v := (1 : Int32)) (hb hby d10_188) rfl rfl ?_
  refine o_iadd X22 hx (pc' := 190) (hb hby d10_189) rfl ?_
  rw [show ((2 : Int32) + (1 : Int32)) = (3 : Int32) from by decide +kernel]
  refine o_dupX1 X22 hx (pc' := 191) (hb hby d10_190) rfl rfl rfl ?_
  refine o_putfield X22 hx hZ hown (hw _ (List.mem_of_getElem? (i := 152) rfl)) e22 hSz hE (Or.inl (hw _ (List.mem_of_getElem? (i := 153) rfl))) (hw _ (List.mem_of_getElem? (i := 31) rfl)) (ty := .int) (v' := (.int (3 : Int32))) (by decide) rfl rfl (hb hby d10_191) (pc' := 194) rfl ?_
  intro T23 h23 X23 e23 W23 F23 E23
  have NN := Fr.snoc X23 NN g_a1
  have KK := KK.wr W23 (Or.inl (List.mem_of_getElem? (i := 0) rfl))
  have ZZ := Nat.le_trans ZZ (Keep.of_wr W23).1
  have gE := gE.wr W23
  have hWi := hWi.other W23 (Or.inr (slot_ne (Or.inr (hw _ (List.mem_of_getElem? (i := 59) rfl))) (Or.inl (hw _ (List.mem_of_getElem? (i := 153) rfl))) (by decide) (t := .int) (t' := .int) (by decide) (by decide)))
  have hSc := hSc.other W23 (Or.inr (slot_ne (Or.inr (hw _ (List.mem_of_getElem? (i := 75) rfl))) (Or.inl (hw _ (List.mem_of_getElem? (i := 153) rfl))) (by decide) (t := (.array .long)) (t' := .int) (by decide) (by decide)))
  have hWo := hWo.other W23 (Or.inr (slot_ne (Or.inl (hw _ (List.mem_of_getElem? (i := 77) rfl))) (Or.inl (hw _ (List.mem_of_getElem? (i := 153) rfl))) (by decide) (t := (.array .long)) (t' := .int) (by decide) (by decide)))
  have hPa := hPa.other W23 (Or.inr (slot_ne (Or.inl (hw _ (List.mem_of_getElem? (i := 80) rfl))) (Or.inl (hw _ (List.mem_of_getElem? (i := 153) rfl))) (by decide) (t := (.array .int)) (t' := .int) (by decide) (by decide)))
  have hMo := hMo.other W23 (Or.inr (slot_ne (Or.inl (hw _ (List.mem_of_getElem? (i := 82) rfl))) (Or.inl (hw _ (List.mem_of_getElem? (i := 153) rfl))) (by decide) (t := (.array .int)) (t' := .int) (by decide) (by decide)))
  have hSl := hSl.other W23 (Or.inr (slot_ne (Or.inl (hw _ (List.mem_of_getElem? (i := 84) rfl))) (Or.inl (hw _ (List.mem_of_getElem? (i := 153) rfl))) (by decide) (t := (.array .int)) (t' := .int) (by decide) (by decide)))
  have hGe := hGe.other W23 (Or.inr (slot_ne (Or.inr (hw _ (List.mem_of_getElem? (i := 45) rfl))) (Or.inl (hw _ (List.mem_of_getElem? (i := 153) rfl))) (by decide) (t := (.object "com/example/jadoube/jadoube/MoveGenerator")) (t' := .int) (by decide) (by decide)))
  have vPa := vPa.other W23 ne_a1_pa.symm
  have vMo := vMo.other W23 ne_a1_mo.symm
  have vSl := vSl.other W23 ne_a1_sl.symm
  have vSc := vSc.other W23 ne_a1_sc.symm
  have gM := gM.other W23 (Or.inl ne_a1_ge.symm)
  have gS := gS.other W23 (Or.inl ne_a1_ge.symm)
  have vWd := vWd.other W23 ne_a1_wd.symm
  have hSz := F23
  have hE := E23
  refine o_iastore X23 hx hZ e23 vSl (by decide) 1141 rfl (by rw [own_ilen]; decide) (hb hby d10_194) (pc' := 195) rfl ?_
  intro T24 h24 X24 e24 W24 V24
  have NN := Fr.snoc X24 NN g_sl
  have KK := KK.wr W24 (Or.inl (List.mem_of_getElem? (i := 6) rfl))
  have ZZ := Nat.le_trans ZZ (Keep.of_wr W24).1
  have hE := hE.wr W24
  have gE := gE.wr W24
  have hWi := hWi.other W24 (Or.inl ne_a1_sl)
  have hSc := hSc.other W24 (Or.inl ne_a1_sl)
  have hWo := hWo.other W24 (Or.inl ne_a1_sl)
  have hPa := hPa.other W24 (Or.inl ne_a1_sl)
  have hMo := hMo.other W24 (Or.inl ne_a1_sl)
  have hSl := hSl.other W24 (Or.inl ne_a1_sl)
  have hSz := hSz.other W24 (Or.inl ne_a1_sl)
  have hGe := hGe.other W24 (Or.inl ne_a1_sl)
  have vPa := vPa.other W24 ne_pa_sl
  have vMo := vMo.other W24 ne_mo_sl
  have vSc := vSc.other W24 ne_sc_sl
  have gM := gM.other W24 (Or.inl ne_ge_sl)
  have gS := gS.other W24 (Or.inl ne_ge_sl)
  have vWd := vWd.other W24 ne_wd_sl
  have vSl : Arv Z h24 sl k5 .int 2048 (own_iv (fun j => if j = 1141 then 3 else f j)) (.int 0) := by rw [← own_iset]; exact V24
  refine o_aloadN X24 hx (pc' := 196) (hb hby d10_195) rfl rfl rfl ?_
  refine o_getfield X24 hx hZ hown (hw _ (List.mem_of_getElem? (i := 152) rfl)) e24 hSz (hb hby d10_196) (pc' := 199) rfl ?_
  intro T25 X25 e25
  refine o_iconst X25 hx (pc' := 200) (v := (1 : Int32)) (hb hby d10_199) rfl rfl ?_
  refine o_isub X25 hx (pc' := 201) (hb hby d10_200) rfl ?_
  rw [show ((3 : Int32) - (1 : Int32)) = (2 : Int32) from by decide +kernel]
  exact finI X25 hx hlk hret (hb hby d10_201) (by decide) (by decide) ⟨rfl, NN, ⟨_, by rw [e25]; exact KK, all7 (Nat.le_refl _) o1 o2 o3 o4 o5 o6⟩, by rw [e25]; exact ⟨ge, sc, wd, pa, mo, sl, k1, k2, k3, k4, k5, _, _, _, _, _, o1, o2, o3, o4, o5, o6, hE, gE, hWi, hSc, hWo, hPa, hMo, hSl, hSz, hGe, gM, gS, vSc, vWd, vPa, vMo, vSl⟩⟩
set_option maxRecDepth 65536 in
set_option maxHeartbeats 40000000 in
theorem rmA3 (l : Launch) (Z : State) (a0 : Array Value) (hw : ∀ d ∈ tables_1, d.before a0 Z = true) (h0 : Heap) (n0 : Nat) (Z0 : n0 ≤ h0.size) (a1 : Addr) (a2 : Addr) (p3 : Int32) (p4 : Int32) (pv mv : List Value) (f : Nat → Int32) (hT : Tab Z h0 a1 3 pv mv f) (hP : Pos Z h0 a1 a2 8) (hf0 : f 239 = 0) (hp : 3 < pv.length) (hm : 3 < mv.length) (ga : n0 ≤ a1) : Ctr l Z (⟨"com/example/jadoube/jadoube/PositionTable", "add", "(Lcom/example/jadoube/jadoube/Position;II)I"⟩ : MethodName) prog_33_method_4_code 6 (some .int) [] ({ frames := 5, cells := 0, slots := 0, locals := 81 } : Room) #[(.ref a1), (.ref a2), (.int p3), (.int p4)] h0 (fun v h L => v = some (.int 3) ∧ Fr n0 L ∧ (∃ ws, Keep h0 h ws ∧ ∀ x ∈ ws, a1 ≤ x) ∧ Tab Z h a1 4 (pv.set 3 (.int p3)) (mv.set 3 (.int p4)) (fun j => if j = 239 then 4 else f j)) := by
  refine ctr_mk pn_10 (own := "com/example/jadoube/jadoube/PositionTable") (mn := "add") rfl rfl ?_
  intro p e s m below meth c T0 X0 hx hby hml hZ hown hnm hret hlk e0
  refine o_entry (ef_10 m a1 a2 p3 p4) ?_
  obtain ⟨ge, sc, wd, pa, mo, sl, k1, k2, k3, k4, k5, x, y, vs, u, w, o1, o2, o3, o4, o5, o6, hE, gE, hWi, hSc, hWo, hPa, hMo, hSl, hSz, hGe, gM, gS, vSc, vWd, vPa, vMo, vSl⟩ := hT
  have NN := Fr.nil n0
  have ZZ := Z0
  have KK := Keep.refl h0 [a1, ge, sc, wd, pa, mo, sl]
  have lt_a1_ge : a1 < ge := o1
  have lt_ge_sc : ge < sc := o2
  have lt_sc_wd : sc < wd := o3
  have lt_wd_pa : wd < pa := o4
  have lt_pa_mo : pa < mo := o5
  have lt_mo_sl : mo < sl := o6
  have ne_a1_ge : a1 ≠ ge := Nat.ne_of_lt lt_a1_ge
  have lt_a1_sc := Nat.lt_trans lt_a1_ge lt_ge_sc
  have ne_a1_sc : a1 ≠ sc := Nat.ne_of_lt lt_a1_sc
  have lt_a1_wd := Nat.lt_trans lt_a1_sc lt_sc_wd
  have ne_a1_wd : a1 ≠ wd := Nat.ne_of_lt lt_a1_wd
  have lt_a1_pa := Nat.lt_trans lt_a1_wd lt_wd_pa
  have ne_a1_pa : a1 ≠ pa := Nat.ne_of_lt lt_a1_pa
  have lt_a1_mo := Nat.lt_trans lt_a1_pa lt_pa_mo
  have ne_a1_mo : a1 ≠ mo := Nat.ne_of_lt lt_a1_mo
  have lt_a1_sl := Nat.lt_trans lt_a1_mo lt_mo_sl
  have ne_a1_sl : a1 ≠ sl := Nat.ne_of_lt lt_a1_sl
  have ne_ge_sc : ge ≠ sc := Nat.ne_of_lt lt_ge_sc
  have lt_ge_wd := Nat.lt_trans lt_ge_sc lt_sc_wd
  have ne_ge_wd : ge ≠ wd := Nat.ne_of_lt lt_ge_wd
  have lt_ge_pa := Nat.lt_trans lt_ge_wd lt_wd_pa
  have ne_ge_pa : ge ≠ pa := Nat.ne_of_lt lt_ge_pa
  have lt_ge_mo := Nat.lt_trans lt_ge_pa lt_pa_mo
  have ne_ge_mo : ge ≠ mo := Nat.ne_of_lt lt_ge_mo
  have lt_ge_sl := Nat.lt_trans lt_ge_mo lt_mo_sl
  have ne_ge_sl : ge ≠ sl := Nat.ne_of_lt lt_ge_sl
  have ne_sc_wd : sc ≠ wd := Nat.ne_of_lt lt_sc_wd
  have lt_sc_pa := Nat.lt_trans lt_sc_wd lt_wd_pa
  have ne_sc_pa : sc ≠ pa := Nat.ne_of_lt lt_sc_pa
  have lt_sc_mo := Nat.lt_trans lt_sc_pa lt_pa_mo
  have ne_sc_mo : sc ≠ mo := Nat.ne_of_lt lt_sc_mo
  have lt_sc_sl := Nat.lt_trans lt_sc_mo lt_mo_sl
  have ne_sc_sl : sc ≠ sl := Nat.ne_of_lt lt_sc_sl
  have ne_wd_pa : wd ≠ pa := Nat.ne_of_lt lt_wd_pa
  have lt_wd_mo := Nat.lt_trans lt_wd_pa lt_pa_mo
  have ne_wd_mo : wd ≠ mo := Nat.ne_of_lt lt_wd_mo
  have lt_wd_sl := Nat.lt_trans lt_wd_mo lt_mo_sl
  have ne_wd_sl : wd ≠ sl := Nat.ne_of_lt lt_wd_sl
  have ne_pa_mo : pa ≠ mo := Nat.ne_of_lt lt_pa_mo
  have lt_pa_sl := Nat.lt_trans lt_pa_mo lt_mo_sl
  have ne_pa_sl : pa ≠ sl := Nat.ne_of_lt lt_pa_sl
  have ne_mo_sl : mo ≠ sl := Nat.ne_of_lt lt_mo_sl
  have g_a1 := ga
  have g_ge : n0 ≤ ge := Nat.le_trans ga (Nat.le_of_lt lt_a1_ge)
  have g_sc : n0 ≤ sc := Nat.le_trans ga (Nat.le_of_lt lt_a1_sc)
  have g_wd : n0 ≤ wd := Nat.le_trans ga (Nat.le_of_lt lt_a1_wd)
  have g_pa : n0 ≤ pa := Nat.le_trans ga (Nat.le_of_lt lt_a1_pa)
  have g_mo : n0 ≤ mo := Nat.le_trans ga (Nat.le_of_lt lt_a1_mo)
  have g_sl : n0 ≤ sl := Nat.le_trans ga (Nat.le_of_lt lt_a1_sl)
  refine o_aloadN X0 hx (pc' := 1) (hb hby d10_0) rfl rfl rfl ?_
  refine o_aloadN X0 hx (pc' := 2) (hb hby d10_1) rfl rfl rfl ?_
  refine o_aloadN X0 hx (pc' := 3) (hb hby d10_2) rfl rfl rfl ?_
  refine o_getfield X0 hx hZ hown (hw _ (List.mem_of_getElem? (i := 74) rfl)) e0 hSc (hb hby d10_3) (pc' := 6) rfl ?_
  intro T1 X1 e1
  refine o_callP X1 hx hZ a1 [(.ref a2), (.ref sc)] (rmEN3 l Z a0 hw h0 n0 ZZ a1 a2 sc ge k1 _ _ _ _ hP hE hGe gE gM gS vSc o1 o2 g_ge g_sc) hown (hw _ (List.mem_of_getElem? (i := 90) rfl)) (hw _ (List.mem_of_getElem? (i := 31) rfl)) (hw _ (List.mem_of_getElem? (i := 92) rfl)) (hw _ (List.mem_of_getElem? (i := 91) rfl)) (hw _ (List.mem_of_getElem? (i := 32) rfl)) (hw _ (List.mem_of_getElem? (i := 93) rfl)) (by decide) hE pd_7 e1 (by rw [hml]; rfl) rfl rfl rfl (hb hby d10_6) (pc' := 9) rfl 0 (Nat.le_of_eq rfl) (by decide) (by decide) (by decide) (by decide) ?_
  intro T2 v2 L2 X2 hQ2
  obtain ⟨rfl, Nq, Kq, vq, gMq, gSq⟩ := hQ2
  have NN := Fr.app NN Nq
  have KK := KK.trans Kq (by intro x hx; simp only [List.mem_cons, List.not_mem_nil, or_false] at hx; rcases hx with rfl | rfl <;> first | (left; simp; done) | (right; first | exact sz_none))
  have ZZ := Nat.le_trans ZZ Kq.1
  have hE := hE.keep Kq
  have gE := gE.keep Kq
  have hWi := hWi.keep Kq (by simp only [List.mem_cons, List.not_mem_nil, or_false, not_or]; exact ⟨ne_a1_sc, ne_a1_ge⟩)
  have hSc := hSc.keep Kq (by simp only [List.mem_cons, List.not_mem_nil, or_false, not_or]; exact ⟨ne_a1_sc, ne_a1_ge⟩)
  have hWo := hWo.keep Kq (by simp only [List.mem_cons, List.not_mem_nil, or_false, not_or]; exact ⟨ne_a1_sc, ne_a1_ge⟩)
  have hPa := hPa.keep Kq (by simp only [List.mem_cons, List.not_mem_nil, or_false, not_or]; exact ⟨ne_a1_sc, ne_a1_ge⟩)
  have hMo := hMo.keep Kq (by simp only [List.mem_cons, List.not_mem_nil, or_false, not_or]; exact ⟨ne_a1_sc, ne_a1_ge⟩)
  have hSl := hSl.keep Kq (by simp only [List.mem_cons, List.not_mem_nil, or_false, not_or]; exact ⟨ne_a1_sc, ne_a1_ge⟩)
  have hSz := hSz.keep Kq (by simp only [List.mem_cons, List.not_mem_nil, or_false, not_or]; exact ⟨ne_a1_sc, ne_a1_ge⟩)
  have hGe := hGe.keep Kq (by simp only [List.mem_cons, List.not_mem_nil, or_false, not_or]; exact ⟨ne_a1_sc, ne_a1_ge⟩)
  have vWd := vWd.keep Kq (by simp only [List.mem_cons, List.not_mem_nil, or_false, not_or]; exact ⟨ne_sc_wd.symm, ne_ge_wd.symm⟩)
  have vPa := vPa.keep Kq (by simp only [List.mem_cons, List.not_mem_nil, or_false, not_or]; exact ⟨ne_sc_pa.symm, ne_ge_pa.symm⟩)
  have vMo := vMo.keep Kq (by simp only [List.mem_cons, List.not_mem_nil, or_false, not_or]; exact ⟨ne_sc_mo.symm, ne_ge_mo.symm⟩)
  have vSl := vSl.keep Kq (by simp only [List.mem_cons, List.not_mem_nil, or_false, not_or]; exact ⟨ne_sc_sl.symm, ne_ge_sl.symm⟩)
  have vSc := vq
  have gM := gMq
  have gS := gSq
  show Dn p e below _ (T2.setTop (mkF m 9 #[.val (.ref a1), .val (.ref a2), .val (.int p3), .val (.int p4), .unset, .unset] []))
  refine o_aloadN X2 hx (pc' := 10) (hb hby d10_9) rfl rfl rfl ?_
  refine o_getfield X2 hx hZ hown (hw _ (List.mem_of_getElem? (i := 83) rfl)) rfl hSl (hb hby d10_10) (pc' := 13) rfl ?_
  intro T3 X3 e3
  refine o_arraylength X3 hx hZ e3 vSl (hb hby d10_13) (pc' := 14) rfl ?_
  refine o_iconst X3 hx (pc' := 15) (v := (1 : Int32)) (hb hby d10_14) rfl rfl ?_
  refine o_isub X3 hx (pc' := 16) (hb hby d10_15) rfl ?_
  rw [show ((2048 : Int32) - (1 : Int32)) = (2047 : Int32) from by decide +kernel]
  refine o_istore X3 hx (pc' := 18) (Ls' := #[.val (.ref a1), .val (.ref a2), .val (.int p3), .val (.int p4), .val (.int (2047 : Int32)), .unset]) (hb hby d10_16) rfl rfl ?_
  refine o_aloadN X3 hx (pc' := 19) (hb hby d10_18) rfl rfl rfl ?_
  refine o_aloadN X3 hx (pc' := 20) (hb hby d10_19) rfl rfl rfl ?_
  refine o_getfield X3 hx hZ hown (hw _ (List.mem_of_getElem? (i := 74) rfl)) e3 hSc (hb hby d10_20) (pc' := 23) rfl ?_
  intro T4 X4 e4
  refine o_iconst X4 hx (pc' := 24) (v := (0 : Int32)) (hb hby d10_23) rfl rfl ?_
  refine o_callPP X4 hx hZ a1 [(.ref sc), (.int (0 : Int32))] (rmH3 l Z a0 hw T2.heap n0 ZZ a1 sc k1 hWi vSc) hown (hw _ (List.mem_of_getElem? (i := 146) rfl)) (hw _ (List.mem_of_getElem? (i := 31) rfl)) (hw _ (List.mem_of_getElem? (i := 148) rfl)) (hw _ (List.mem_of_getElem? (i := 147) rfl)) (hw _ (List.mem_of_getElem? (i := 32) rfl)) (hw _ (List.mem_of_getElem? (i := 149) rfl)) (by decide) hE pd_8 e4 (by rw [hml]; rfl) rfl rfl rfl (hb hby d10_24) (pc' := 27) rfl 0 (Nat.le_of_eq rfl) (by decide) (by decide) rfl rfl (by decide) (by decide) ?_
  intro T5 X5 e5
  show Dn p e below _ (T5.setTop (mkF m 27 #[.val (.ref a1), .val (.ref a2), .val (.int p3), .val (.int p4), .val (.int (2047 : Int32)), .unset] [(.int (-664672017 : Int32))]))
  refine o_iload X5 hx (pc' := 29) (hb hby d10_27) rfl rfl ?_
  refine o_iand X5 hx (pc' := 30) (hb hby d10_29) rfl ?_
  rw [show ((-664672017 : Int32) &&& (2047 : Int32)) = (239 : Int32) from by decide +kernel]
  refine o_istore X5 hx (pc' := 32) (Ls' := #[.val (.ref a1), .val (.ref a2), .val (.int p3), .val (.int p4), .val (.int (2047 : Int32)), .val (.int (239 : Int32))]) (hb hby d10_30) rfl rfl ?_
  refine o_aloadN X5 hx (pc' := 33) (hb hby d10_32) rfl rfl rfl ?_
  refine o_getfield X5 hx hZ hown (hw _ (List.mem_of_getElem? (i := 83) rfl)) e5 hSl (hb hby d10_33) (pc' := 36) rfl ?_
  intro T6 X6 e6
  refine o_iload X6 hx (pc' := 38) (hb hby d10_36) rfl rfl ?_
  refine o_iaload X6 hx hZ e6 vSl (by decide) (v := (.int (0 : Int32))) (by rw [show ((239 : Int32)).toNatClampNeg = 239 from rfl, own_iget f (by decide), hf0]) (hb hby d10_38) (pc' := 39) rfl ?_
  refine o_if_eq X6 hx (pc' := 42) (pt := 101) (hb hby d10_39) rfl (by decide) (by decide) (fun _ => ?_) (fun q => absurd (by decide) q)
  refine o_aloadN X6 hx (pc' := 102) (hb hby d10_101) rfl rfl rfl ?_
  refine o_getfield X6 hx hZ hown (hw _ (List.mem_of_getElem? (i := 152) rfl)) e6 hSz (hb hby d10_102) (pc' := 105) rfl ?_
  intro T7 X7 e7
  refine o_aloadN X7 hx (pc' := 106) (hb hby d10_105) rfl rfl rfl ?_
  refine o_getfield X7 hx hZ hown (hw _ (List.mem_of_getElem? (i := 79) rfl)) e7 hPa (hb hby d10_106) (pc' := 109) rfl ?_
  intro T8 X8 e8
  refine o_arraylength X8 hx hZ e8 vPa (hb hby d10_109) (pc' := 110) rfl ?_
  refine o_icmp_ne X8 hx (pc' := 113) (pt := 132) (hb hby d10_110) rfl (by decide) (by decide) (fun _ => ?_) (fun q => absurd q (by decide))
  refine o_aloadN X8 hx (pc' := 133) (hb hby d10_132) rfl rfl rfl ?_
  refine o_getfield X8 hx hZ hown (hw _ (List.mem_of_getElem? (i := 74) rfl)) e8 hSc (hb hby d10_133) (pc' := 136) rfl ?_
  intro T9 X9 e9
  refine o_iconst X9 hx (pc' := 137) (v := (0 : Int32)) (hb hby d10_136) rfl rfl ?_
  refine o_aloadN X9 hx (pc' := 138) (hb hby d10_137) rfl rfl rfl ?_
  refine o_getfield X9 hx hZ hown (hw _ (List.mem_of_getElem? (i := 76) rfl)) e9 hWo (hb hby d10_138) (pc' := 141) rfl ?_
  intro T10 X10 e10
  refine o_aloadN X10 hx (pc' := 142) (hb hby d10_141) rfl rfl rfl ?_
  refine o_getfield X10 hx hZ hown (hw _ (List.mem_of_getElem? (i := 152) rfl)) e10 hSz (hb hby d10_142) (pc' := 145) rfl ?_
  intro T11 X11 e11
  refine o_aloadN X11 hx (pc' := 146) (hb hby d10_145) rfl rfl rfl ?_
  refine o_getfield X11 hx hZ hown (hw _ (List.mem_of_getElem? (i := 58) rfl)) e11 hWi (hb hby d10_146) (pc' := 149) rfl ?_
  intro T12 X12 e12
  refine o_imul X12 hx (pc' := 150) (hb hby d10_149) rfl ?_
  rw [show ((3 : Int32) * (2 : Int32)) = (6 : Int32) from by decide +kernel]
  refine o_aloadN X12 hx (pc' := 151) (hb hby d10_150) rfl rfl rfl ?_
  refine o_getfield X12 hx hZ hown (hw _ (List.mem_of_getElem? (i := 58) rfl)) e12 hWi (hb hby d10_151) (pc' := 154) rfl ?_
  intro T13 X13 e13
  refine o_acopy X13 hx hZ hown (hw _ (List.mem_of_getElem? (i := 154) rfl)) (hw _ (List.mem_of_getElem? (i := 157) rfl)) (hw _ (List.mem_of_getElem? (i := 155) rfl)) (hw _ (List.mem_of_getElem? (i := 156) rfl)) e13 vSc vWd 0 6 2 rfl rfl rfl (by decide) (by decide) (by rw [hml]; rfl) (hb hby d10_154) (pc' := 157) rfl 0 (Nat.le_of_eq rfl) (by decide) (by decide) ?_
  intro T14 h14 vs14 X14 e14 Kc vWq
  have NN := Fr.app NN (own_cl (q := 6) (n := 2) g_wd)
  have KK := KK.trans Kc (by intro x hx; simp only [List.mem_cons, List.not_mem_nil, or_false] at hx; subst hx; first | (left; simp; done) | (right; first | exact sz_none))
  have ZZ := Nat.le_trans ZZ Kc.1
  have hE := hE.keep Kc
  have gE := gE.keep Kc
  have hWi := hWi.keep Kc (by simp only [List.mem_cons, List.not_mem_nil, or_false, not_or]; exact ne_a1_wd)
  have hSc := hSc.keep Kc (by simp only [List.mem_cons, List.not_mem_nil, or_false, not_or]; exact ne_a1_wd)
  have hWo := hWo.keep Kc (by simp only [List.mem_cons, List.not_mem_nil, or_false, not_or]; exact ne_a1_wd)
  have hPa := hPa.keep Kc (by simp only [List.mem_cons, List.not_mem_nil, or_false, not_or]; exact ne_a1_wd)
  have hMo := hMo.keep Kc (by simp only [List.mem_cons, List.not_mem_nil, or_false, not_or]; exact ne_a1_wd)
  have hSl := hSl.keep Kc (by simp only [List.mem_cons, List.not_mem_nil, or_false, not_or]; exact ne_a1_wd)
  have hSz := hSz.keep Kc (by simp only [List.mem_cons, List.not_mem_nil, or_false, not_or]; exact ne_a1_wd)
  have hGe := hGe.keep Kc (by simp only [List.mem_cons, List.not_mem_nil, or_false, not_or]; exact ne_a1_wd)
  have vPa := vPa.keep Kc (by simp only [List.mem_cons, List.not_mem_nil, or_false, not_or]; exact ne_wd_pa.symm)
  have vMo := vMo.keep Kc (by simp only [List.mem_cons, List.not_mem_nil, or_false, not_or]; exact ne_wd_mo.symm)
  have vSl := vSl.keep Kc (by simp only [List.mem_cons, List.not_mem_nil, or_false, not_or]; exact ne_wd_sl.symm)
  have vSc := vSc.keep Kc (by simp only [List.mem_cons, List.not_mem_nil, or_false, not_or]; exact ne_sc_wd)
  have gM := gM.keep Kc (by simp only [List.mem_cons, List.not_mem_nil, or_false, not_or]; exact ne_ge_wd)
  have gS := gS.keep Kc (by simp only [List.mem_cons, List.not_mem_nil, or_false, not_or]; exact ne_ge_wd)
  have vWd := vWq
  refine o_aloadN X14 hx (pc' := 158) (hb hby d10_157) rfl rfl rfl ?_
  refine o_getfield X14 hx hZ hown (hw _ (List.mem_of_getElem? (i := 79) rfl)) e14 hPa (hb hby d10_158) (pc' := 161) rfl ?_
  intro T15 X15 e15
  refine o_aloadN X15 hx (pc' := 162) (hb hby d10_161) rfl rfl rfl ?_
  refine o_getfield X15 hx hZ hown (hw _ (List.mem_of_getElem? (i := 152) rfl)) e15 hSz (hb hby d10_162) (pc' := 165) rfl ?_
  intro T16 X16 e16
  refine o_iloadN X16 hx (pc' := 166) (hb hby d10_165) rfl rfl ?_
  refine o_iastore X16 hx hZ e16 vPa (by decide) 3 rfl hp (hb hby d10_166) (pc' := 167) rfl ?_
  intro T17 h17 X17 e17 W17 V17
  have NN := Fr.snoc X17 NN g_pa
  have KK := KK.wr W17 (Or.inl (List.mem_of_getElem? (i := 4) rfl))
  have ZZ := Nat.le_trans ZZ (Keep.of_wr W17).1
  have hE := hE.wr W17
  have gE := gE.wr W17
  have hWi := hWi.other W17 (Or.inl ne_a1_pa)
  have hSc := hSc.other W17 (Or.inl ne_a1_pa)
  have hWo := hWo.other W17 (Or.inl ne_a1_pa)
  have hPa := hPa.other W17 (Or.inl ne_a1_pa)
  have hMo := hMo.other W17 (Or.inl ne_a1_pa)
  have hSl := hSl.other W17 (Or.inl ne_a1_pa)
  have hSz := hSz.other W17 (Or.inl ne_a1_pa)
  have hGe := hGe.other W17 (Or.inl ne_a1_pa)
  have vMo := vMo.other W17 ne_pa_mo.symm
  have vSl := vSl.other W17 ne_pa_sl.symm
  have vSc := vSc.other W17 ne_sc_pa
  have gM := gM.other W17 (Or.inl ne_ge_pa)
  have gS := gS.other W17 (Or.inl ne_ge_pa)
  have vWd := vWd.other W17 ne_wd_pa
  have vPa := V17
  refine o_aloadN X17 hx (pc' := 168) (hb hby d10_167) rfl rfl rfl ?_
  refine o_getfield X17 hx hZ hown (hw _ (List.mem_of_getElem? (i := 81) rfl)) e17 hMo (hb hby d10_168) (pc' := 171) rfl ?_
  intro T18 X18 e18
  refine o_aloadN X18 hx (pc' := 172) (hb hby d10_171) rfl rfl rfl ?_
  refine o_getfield X18 hx hZ hown (hw _ (List.mem_of_getElem? (i := 152) rfl)) e18 hSz (hb hby d10_172) (pc' := 175) rfl ?_
  intro T19 X19 e19
  refine o_iloadN X19 hx (pc' := 176) (hb hby d10_175) rfl rfl ?_
  refine o_iastore X19 hx hZ e19 vMo (by decide) 3 rfl hm (hb hby d10_176) (pc' := 177) rfl ?_
  intro T20 h20 X20 e20 W20 V20
  have NN := Fr.snoc X20 NN g_mo
  have KK := KK.wr W20 (Or.inl (List.mem_of_getElem? (i := 5) rfl))
  have ZZ := Nat.le_trans ZZ (Keep.of_wr W20).1
  have hE := hE.wr W20
  have gE := gE.wr W20
  have hWi := hWi.other W20 (Or.inl ne_a1_mo)
  have hSc := hSc.other W20 (Or.inl ne_a1_mo)
  have hWo := hWo.other W20 (Or.inl ne_a1_mo)
  have hPa := hPa.other W20 (Or.inl ne_a1_mo)
  have hMo := hMo.other W20 (Or.inl ne_a1_mo)
  have hSl := hSl.other W20 (Or.inl ne_a1_mo)
  have hSz := hSz.other W20 (Or.inl ne_a1_mo)
  have hGe := hGe.other W20 (Or.inl ne_a1_mo)
  have vPa := vPa.other W20 ne_pa_mo
  have vSl := vSl.other W20 ne_mo_sl.symm
  have vSc := vSc.other W20 ne_sc_mo
  have gM := gM.other W20 (Or.inl ne_ge_mo)
  have gS := gS.other W20 (Or.inl ne_ge_mo)
  have vWd := vWd.other W20 ne_wd_mo
  have vMo := V20
  refine o_aloadN X20 hx (pc' := 178) (hb hby d10_177) rfl rfl rfl ?_
  refine o_getfield X20 hx hZ hown (hw _ (List.mem_of_getElem? (i := 83) rfl)) e20 hSl (hb hby d10_178) (pc' := 181) rfl ?_
  intro T21 X21 e21
  refine o_iload X21 hx (pc' := 183) (hb hby d10_181) rfl rfl ?_
  refine o_aloadN X21 hx (pc' := 184) (hb hby d10_183) rfl rfl rfl ?_
  refine o_dup X21 hx (pc' := 185) (hb hby d10_184) rfl rfl ?_
  refine o_getfield X21 hx hZ hown (hw _ (List.mem_of_getElem? (i := 152) rfl)) e21 hSz (hb hby d10_185) (pc' := 188) rfl ?_
  intro T22 X22 e22
  refine o_iconst X22 hx (pc' := 189) (v := (1 : Int32)) (hb hby d10_188) rfl rfl ?_
  refine o_iadd X22 hx (pc' := 190) (hb hby d10_189) rfl ?_
  rw [show ((3 : Int32) + (1 : Int32)) = (4 : Int32) from by decide +kernel]
  refine o_dupX1 X22 hx (pc' := 191) (hb hby d10_190) rfl rfl rfl ?_
  refine o_putfield X22 hx hZ hown (hw _ (List.mem_of_getElem? (i := 152) rfl)) e22 hSz hE (Or.inl (hw _ (List.mem_of_getElem? (i := 153) rfl))) (hw _ (List.mem_of_getElem? (i := 31) rfl)) (ty := .int) (v' := (.int (4 : Int32))) (by decide) rfl rfl (hb hby d10_191) (pc' := 194) rfl ?_
  intro T23 h23 X23 e23 W23 F23 E23
  have NN := Fr.snoc X23 NN g_a1
  have KK := KK.wr W23 (Or.inl (List.mem_of_getElem? (i := 0) rfl))
  have ZZ := Nat.le_trans ZZ (Keep.of_wr W23).1
  have gE := gE.wr W23
  have hWi := hWi.other W23 (Or.inr (slot_ne (Or.inr (hw _ (List.mem_of_getElem? (i := 59) rfl))) (Or.inl (hw _ (List.mem_of_getElem? (i := 153) rfl))) (by decide) (t := .int) (t' := .int) (by decide) (by decide)))
  have hSc := hSc.other W23 (Or.inr (slot_ne (Or.inr (hw _ (List.mem_of_getElem? (i := 75) rfl))) (Or.inl (hw _ (List.mem_of_getElem? (i := 153) rfl))) (by decide) (t := (.array .long)) (t' := .int) (by decide) (by decide)))
  have hWo := hWo.other W23 (Or.inr (slot_ne (Or.inl (hw _ (List.mem_of_getElem? (i := 77) rfl))) (Or.inl (hw _ (List.mem_of_getElem? (i := 153) rfl))) (by decide) (t := (.array .long)) (t' := .int) (by decide) (by decide)))
  have hPa := hPa.other W23 (Or.inr (slot_ne (Or.inl (hw _ (List.mem_of_getElem? (i := 80) rfl))) (Or.inl (hw _ (List.mem_of_getElem? (i := 153) rfl))) (by decide) (t := (.array .int)) (t' := .int) (by decide) (by decide)))
  have hMo := hMo.other W23 (Or.inr (slot_ne (Or.inl (hw _ (List.mem_of_getElem? (i := 82) rfl))) (Or.inl (hw _ (List.mem_of_getElem? (i := 153) rfl))) (by decide) (t := (.array .int)) (t' := .int) (by decide) (by decide)))
  have hSl := hSl.other W23 (Or.inr (slot_ne (Or.inl (hw _ (List.mem_of_getElem? (i := 84) rfl))) (Or.inl (hw _ (List.mem_of_getElem? (i := 153) rfl))) (by decide) (t := (.array .int)) (t' := .int) (by decide) (by decide)))
  have hGe := hGe.other W23 (Or.inr (slot_ne (Or.inr (hw _ (List.mem_of_getElem? (i := 45) rfl))) (Or.inl (hw _ (List.mem_of_getElem? (i := 153) rfl))) (by decide) (t := (.object "com/example/jadoube/jadoube/MoveGenerator")) (t' := .int) (by decide) (by decide)))
  have vPa := vPa.other W23 ne_a1_pa.symm
  have vMo := vMo.other W23 ne_a1_mo.symm
  have vSl := vSl.other W23 ne_a1_sl.symm
  have vSc := vSc.other W23 ne_a1_sc.symm
  have gM := gM.other W23 (Or.inl ne_a1_ge.symm)
  have gS := gS.other W23 (Or.inl ne_a1_ge.symm)
  have vWd := vWd.other W23 ne_a1_wd.symm
  have hSz := F23
  have hE := E23
  refine o_iastore X23 hx hZ e23 vSl (by decide) 239 rfl (by rw [own_ilen]; decide) (hb hby d10_194) (pc' := 195) rfl ?_
  intro T24 h24 X24 e24 W24 V24
  have NN := Fr.snoc X24 NN g_sl
  have KK := KK.wr W24 (Or.inl (List.mem_of_getElem? (i := 6) rfl))
  have ZZ := Nat.le_trans ZZ (Keep.of_wr W24).1
  have hE := hE.wr W24
  have gE := gE.wr W24
  have hWi := hWi.other W24 (Or.inl ne_a1_sl)
  have hSc := hSc.other W24 (Or.inl ne_a1_sl)
  have hWo := hWo.other W24 (Or.inl ne_a1_sl)
  have hPa := hPa.other W24 (Or.inl ne_a1_sl)
  have hMo := hMo.other W24 (Or.inl ne_a1_sl)
  have hSl := hSl.other W24 (Or.inl ne_a1_sl)
  have hSz := hSz.other W24 (Or.inl ne_a1_sl)
  have hGe := hGe.other W24 (Or.inl ne_a1_sl)
  have vPa := vPa.other W24 ne_pa_sl
  have vMo := vMo.other W24 ne_mo_sl
  have vSc := vSc.other W24 ne_sc_sl
  have gM := gM.other W24 (Or.inl ne_ge_sl)
  have gS := gS.other W24 (Or.inl ne_ge_sl)
  have vWd := vWd.other W24 ne_wd_sl
  have vSl : Arv Z h24 sl k5 .int 2048 (own_iv (fun j => if j = 239 then 4 else f j)) (.int 0) := by rw [← own_iset]; exact V24
  refine o_aloadN X24 hx (pc' := 196) (hb hby d10_195) rfl rfl rfl ?_
  refine o_getfield X24 hx hZ hown (hw _ (List.mem_of_getElem? (i := 152) rfl)) e24 hSz (hb hby d10_196) (pc' := 199) rfl ?_
  intro T25 X25 e25
  refine o_iconst X25 hx (pc' := 200) (v := (1 : Int32)) (hb hby d10_199) rfl rfl ?_
  refine o_isub X25 hx (pc' := 201) (hb hby d10_200) rfl ?_
  rw [show ((4 : Int32) - (1 : Int32)) = (3 : Int32) from by decide +kernel]
  exact finI X25 hx hlk hret (hb hby d10_201) (by decide) (by decide) ⟨rfl, NN, ⟨_, by rw [e25]; exact KK, all7 (Nat.le_refl _) o1 o2 o3 o4 o5 o6⟩, by rw [e25]; exact ⟨ge, sc, wd, pa, mo, sl, k1, k2, k3, k4, k5, _, _, _, _, _, o1, o2, o3, o4, o5, o6, hE, gE, hWi, hSc, hWo, hPa, hMo, hSl, hSz, hGe, gM, gS, vSc, vWd, vPa, vMo, vSl⟩⟩
theorem d5_0 : decode prog_22_method_1_code 0 = .ok (.aload_n 0, 1) := by decide +kernel
theorem d5_1 : decode prog_22_method_1_code 1 = .ok (.invokespecial 3, 3) := by decide +kernel
theorem d5_4 : decode prog_22_method_1_code 4 = .ok (.return_, 1) := by decide +kernel
theorem pn_5 : plainFor (⟨"com/example/jadoube/jadoube/MoveGenerator", "<init>", "()V"⟩ : MethodName) = true := plainFor_of_name (by show plainName "com/example/jadoube/jadoube/MoveGenerator" = true; first | (simp [plainName, overriddenIn]; done) | decide +kernel)
theorem ef_5 (m : MethodId) (a1 : Addr) : entryFrame m #[(.ref a1)] 1 = mkF m 0 #[.val (.ref a1)] [] := by first | (simp [entryFrame, mkF, argsToLocals, Value.category]; done) | rfl
set_option maxRecDepth 65536 in
set_option maxHeartbeats 40000000 in
theorem rm5 (l : Launch) (Z : State) (a0 : Array Value) (hw : ∀ d ∈ tables_1, d.before a0 Z = true) (h0 : Heap) (n0 : Nat) (Z0 : n0 ≤ h0.size) (a1 : Addr)  : Ctr l Z (⟨"com/example/jadoube/jadoube/MoveGenerator", "<init>", "()V"⟩ : MethodName) prog_22_method_1_code 1 none [] ({ frames := 1, cells := 0, slots := 0, locals := 12 } : Room) #[(.ref a1)] h0 (fun v h L => v = none ∧ L = [] ∧ h = h0) := by
  refine ctr_mk pn_5 (own := "com/example/jadoube/jadoube/MoveGenerator") (mn := "<init>") rfl rfl ?_
  intro p e s m below meth c T0 X0 hx hby hml hZ hown hnm hret hlk e0
  refine o_entry (ef_5 m a1) ?_
  refine o_aloadN X0 hx (pc' := 1) (hb hby d5_0) rfl rfl rfl ?_
  refine o_initO X0 hx hZ hown (hw _ (List.mem_of_getElem? (i := 43) rfl)) (hw _ (List.mem_of_getElem? (i := 12) rfl)) (hw _ (List.mem_of_getElem? (i := 13) rfl)) e0 (by rw [hml]; rfl) (hb hby d5_1) (pc' := 4) rfl (by decide) (W := 0) (Nat.le_of_eq rfl) (by decide) ?_
  intro T1 X1 e1
  exact finV X1 hx hlk hret (hb hby d5_4) (by decide) (by decide) ⟨rfl, rfl, e1⟩
theorem d2_0 : decode prog_31_method_1_code 0 = .ok (.aload_n 0, 1) := by decide +kernel
theorem d2_1 : decode prog_31_method_1_code 1 = .ok (.invokespecial 1, 3) := by decide +kernel
theorem d2_4 : decode prog_31_method_1_code 4 = .ok (.aload_n 0, 1) := by decide +kernel
theorem d2_5 : decode prog_31_method_1_code 5 = .ok (.aload_n 1, 1) := by decide +kernel
theorem d2_6 : decode prog_31_method_1_code 6 = .ok (.putfield 7, 3) := by decide +kernel
theorem d2_9 : decode prog_31_method_1_code 9 = .ok (.aload_n 0, 1) := by decide +kernel
theorem d2_10 : decode prog_31_method_1_code 10 = .ok (.aload_n 2, 1) := by decide +kernel
theorem d2_11 : decode prog_31_method_1_code 11 = .ok (.putfield 13, 3) := by decide +kernel
theorem d2_14 : decode prog_31_method_1_code 14 = .ok (.aload_n 0, 1) := by decide +kernel
theorem d2_15 : decode prog_31_method_1_code 15 = .ok (.iload_n 3, 1) := by decide +kernel
theorem d2_16 : decode prog_31_method_1_code 16 = .ok (.putfield 16, 3) := by decide +kernel
theorem d2_19 : decode prog_31_method_1_code 19 = .ok (.aload_n 0, 1) := by decide +kernel
theorem d2_20 : decode prog_31_method_1_code 20 = .ok (.lload 4, 2) := by decide +kernel
theorem d2_22 : decode prog_31_method_1_code 22 = .ok (.putfield 20, 3) := by decide +kernel
theorem d2_25 : decode prog_31_method_1_code 25 = .ok (.aload_n 0, 1) := by decide +kernel
theorem d2_26 : decode prog_31_method_1_code 26 = .ok (.iload 6, 2) := by decide +kernel
theorem d2_28 : decode prog_31_method_1_code 28 = .ok (.putfield 24, 3) := by decide +kernel
theorem d2_31 : decode prog_31_method_1_code 31 = .ok (.aload_n 0, 1) := by decide +kernel
theorem d2_32 : decode prog_31_method_1_code 32 = .ok (.iload 7, 2) := by decide +kernel
theorem d2_34 : decode prog_31_method_1_code 34 = .ok (.putfield 27, 3) := by decide +kernel
theorem d2_37 : decode prog_31_method_1_code 37 = .ok (.aload_n 0, 1) := by decide +kernel
theorem d2_38 : decode prog_31_method_1_code 38 = .ok (.iload 8, 2) := by decide +kernel
theorem d2_40 : decode prog_31_method_1_code 40 = .ok (.putfield 30, 3) := by decide +kernel
theorem d2_43 : decode prog_31_method_1_code 43 = .ok (.aload_n 0, 1) := by decide +kernel
theorem d2_44 : decode prog_31_method_1_code 44 = .ok (.iload 9, 2) := by decide +kernel
theorem d2_46 : decode prog_31_method_1_code 46 = .ok (.putfield 33, 3) := by decide +kernel
theorem d2_49 : decode prog_31_method_1_code 49 = .ok (.return_, 1) := by decide +kernel
theorem pn_2 : plainFor (⟨"com/example/jadoube/jadoube/Position", "<init>", "([J[JIJIIIZ)V"⟩ : MethodName) = true := plainFor_of_name (by show plainName "com/example/jadoube/jadoube/Position" = true; first | (simp [plainName, overriddenIn]; done) | decide +kernel)
theorem ef_2_a1_a2_a3_0_0_m1_0_1_0 (m : MethodId) (a1 : Addr) (a2 : Addr) (a3 : Addr) : entryFrame m #[(.ref a1), (.ref a2), (.ref a3), (.int (0 : Int32)), (.long (0 : Int64)), (.int (-1 : Int32)), (.int (0 : Int32)), (.int (1 : Int32)), (.int (0 : Int32))] 10 = mkF m 0 #[.val (.ref a1), .val (.ref a2), .val (.ref a3), .val (.int (0 : Int32)), .val (.long (0 : Int64)), .second, .val (.int (-1 : Int32)), .val (.int (0 : Int32)), .val (.int (1 : Int32)), .val (.int (0 : Int32))] [] := by first | (simp [entryFrame, mkF, argsToLocals, Value.category]; done) | rfl
set_option maxRecDepth 65536 in
set_option maxHeartbeats 40000000 in
theorem rm2 (l : Launch) (Z : State) (a0 : Array Value) (hw : ∀ d ∈ tables_1, d.before a0 Z = true) (h0 : Heap) (n0 : Nat) (Z0 : n0 ≤ h0.size) (a1 : Addr) (a2 : Addr) (a3 : Addr) (hE : Exa Z h0 a1 "com/example/jadoube/jadoube/Position") (pPi : Fld Z h0 a1 "com/example/jadoube/jadoube/Position" "pieces" "[J" .null) (pCo : Fld Z h0 a1 "com/example/jadoube/jadoube/Position" "colours" "[J" .null) (pSi : Fld Z h0 a1 "com/example/jadoube/jadoube/Position" "sideToMove" "I" (.int 0)) (pCa : Fld Z h0 a1 "com/example/jadoube/jadoube/Position" "castlingRooks" "J" (.long 0)) (pEn : Fld Z h0 a1 "com/example/jadoube/jadoube/Position" "enPassant" "I" (.int 0)) (pHa : Fld Z h0 a1 "com/example/jadoube/jadoube/Position" "halfmoveClock" "I" (.int 0)) (pMo : Fld Z h0 a1 "com/example/jadoube/jadoube/Position" "moveNumber" "I" (.int 0)) (pC9 : Fld Z h0 a1 "com/example/jadoube/jadoube/Position" "chess960" "Z" (.int 0)) (ga : n0 ≤ a1) : Ctr l Z (⟨"com/example/jadoube/jadoube/Position", "<init>", "([J[JIJIIIZ)V"⟩ : MethodName) prog_31_method_1_code 10 none [] ({ frames := 1, cells := 0, slots := 0, locals := 12 } : Room) #[(.ref a1), (.ref a2), (.ref a3), (.int (0 : Int32)), (.long (0 : Int64)), (.int (-1 : Int32)), (.int (0 : Int32)), (.int (1 : Int32)), (.int (0 : Int32))] h0 (fun v h L => v = none ∧ Fr n0 L ∧ Keep h0 h [a1] ∧ Fld Z h a1 "com/example/jadoube/jadoube/Position" "pieces" "[J" (.ref a2) ∧ Fld Z h a1 "com/example/jadoube/jadoube/Position" "colours" "[J" (.ref a3) ∧ Fld Z h a1 "com/example/jadoube/jadoube/Position" "sideToMove" "I" (.int 0) ∧ Fld Z h a1 "com/example/jadoube/jadoube/Position" "castlingRooks" "J" (.long 0) ∧ Fld Z h a1 "com/example/jadoube/jadoube/Position" "enPassant" "I" (.int (-1)) ∧ Fld Z h a1 "com/example/jadoube/jadoube/Position" "chess960" "Z" (.int 0)) := by
  refine ctr_mk pn_2 (own := "com/example/jadoube/jadoube/Position") (mn := "<init>") rfl rfl ?_
  intro p e s m below meth c T0 X0 hx hby hml hZ hown hnm hret hlk e0
  refine o_entry (ef_2_a1_a2_a3_0_0_m1_0_1_0 m a1 a2 a3) ?_
  have g_a1 := ga
  have NN := Fr.nil n0
  have ZZ := Z0
  have KK := Keep.refl h0 [a1]
  refine o_aloadN X0 hx (pc' := 1) (hb hby d2_0) rfl rfl rfl ?_
  refine o_initO X0 hx hZ hown (hw _ (List.mem_of_getElem? (i := 11) rfl)) (hw _ (List.mem_of_getElem? (i := 12) rfl)) (hw _ (List.mem_of_getElem? (i := 13) rfl)) e0 (by rw [hml]; rfl) (hb hby d2_1) (pc' := 4) rfl (by decide) (W := 0) (Nat.le_of_eq rfl) (by decide) ?_
  intro T1 X1 e1
  refine o_aloadN X1 hx (pc' := 5) (hb hby d2_4) rfl rfl rfl ?_
  refine o_aloadN X1 hx (pc' := 6) (hb hby d2_5) rfl rfl rfl ?_
  refine o_putfield X1 hx hZ hown (hw _ (List.mem_of_getElem? (i := 14) rfl)) e1 pPi hE (Or.inr ⟨(hw _ (List.mem_of_getElem? (i := 15) rfl)), rfl, hnm⟩) (hw _ (List.mem_of_getElem? (i := 6) rfl)) (ty := (.array .long)) (v' := (.ref a2)) (by decide) rfl rfl (hb hby d2_6) (pc' := 9) rfl ?_
  intro T2 h2 X2 e2 W2 F2 E2
  have NN := Fr.snoc X2 NN g_a1
  have KK := KK.wr W2 (Or.inl (List.mem_of_getElem? (i := 0) rfl))
  have ZZ := Nat.le_trans ZZ (Keep.of_wr W2).1
  have pCo := pCo.other W2 (Or.inr (slot_ne (Or.inr (hw _ (List.mem_of_getElem? (i := 17) rfl))) (Or.inr (hw _ (List.mem_of_getElem? (i := 15) rfl))) (by decide) (t := (.array .long)) (t' := (.array .long)) (by decide) (by decide)))
  have pSi := pSi.other W2 (Or.inr (slot_ne (Or.inr (hw _ (List.mem_of_getElem? (i := 19) rfl))) (Or.inr (hw _ (List.mem_of_getElem? (i := 15) rfl))) (by decide) (t := .int) (t' := (.array .long)) (by decide) (by decide)))
  have pCa := pCa.other W2 (Or.inr (slot_ne (Or.inr (hw _ (List.mem_of_getElem? (i := 21) rfl))) (Or.inr (hw _ (List.mem_of_getElem? (i := 15) rfl))) (by decide) (t := .long) (t' := (.array .long)) (by decide) (by decide)))
  have pEn := pEn.other W2 (Or.inr (slot_ne (Or.inr (hw _ (List.mem_of_getElem? (i := 23) rfl))) (Or.inr (hw _ (List.mem_of_getElem? (i := 15) rfl))) (by decide) (t := .int) (t' := (.array .long)) (by decide) (by decide)))
  have pHa := pHa.other W2 (Or.inr (slot_ne (Or.inr (hw _ (List.mem_of_getElem? (i := 25) rfl))) (Or.inr (hw _ (List.mem_of_getElem? (i := 15) rfl))) (by decide) (t := .int) (t' := (.array .long)) (by decide) (by decide)))
  have pMo := pMo.other W2 (Or.inr (slot_ne (Or.inr (hw _ (List.mem_of_getElem? (i := 27) rfl))) (Or.inr (hw _ (List.mem_of_getElem? (i := 15) rfl))) (by decide) (t := .int) (t' := (.array .long)) (by decide) (by decide)))
  have pC9 := pC9.other W2 (Or.inr (slot_ne (Or.inr (hw _ (List.mem_of_getElem? (i := 29) rfl))) (Or.inr (hw _ (List.mem_of_getElem? (i := 15) rfl))) (by decide) (t := .boolean) (t' := (.array .long)) (by decide) (by decide)))
  have pPi := F2
  have hE := E2
  refine o_aloadN X2 hx (pc' := 10) (hb hby d2_9) rfl rfl rfl ?_
  refine o_aloadN X2 hx (pc' := 11) (hb hby d2_10) rfl rfl rfl ?_
  refine o_putfield X2 hx hZ hown (hw _ (List.mem_of_getElem? (i := 16) rfl)) e2 pCo hE (Or.inr ⟨(hw _ (List.mem_of_getElem? (i := 17) rfl)), rfl, hnm⟩) (hw _ (List.mem_of_getElem? (i := 6) rfl)) (ty := (.array .long)) (v' := (.ref a3)) (by decide) rfl rfl (hb hby d2_11) (pc' := 14) rfl ?_
  intro T3 h3 X3 e3 W3 F3 E3
  have NN := Fr.snoc X3 NN g_a1
  have KK := KK.wr W3 (Or.inl (List.mem_of_getElem? (i := 0) rfl))
  have ZZ := Nat.le_trans ZZ (Keep.of_wr W3).1
  have pPi := pPi.other W3 (Or.inr (slot_ne (Or.inr (hw _ (List.mem_of_getElem? (i := 15) rfl))) (Or.inr (hw _ (List.mem_of_getElem? (i := 17) rfl))) (by decide) (t := (.array .long)) (t' := (.array .long)) (by decide) (by decide)))
  have pSi := pSi.other W3 (Or.inr (slot_ne (Or.inr (hw _ (List.mem_of_getElem? (i := 19) rfl))) (Or.inr (hw _ (List.mem_of_getElem? (i := 17) rfl))) (by decide) (t := .int) (t' := (.array .long)) (by decide) (by decide)))
  have pCa := pCa.other W3 (Or.inr (slot_ne (Or.inr (hw _ (List.mem_of_getElem? (i := 21) rfl))) (Or.inr (hw _ (List.mem_of_getElem? (i := 17) rfl))) (by decide) (t := .long) (t' := (.array .long)) (by decide) (by decide)))
  have pEn := pEn.other W3 (Or.inr (slot_ne (Or.inr (hw _ (List.mem_of_getElem? (i := 23) rfl))) (Or.inr (hw _ (List.mem_of_getElem? (i := 17) rfl))) (by decide) (t := .int) (t' := (.array .long)) (by decide) (by decide)))
  have pHa := pHa.other W3 (Or.inr (slot_ne (Or.inr (hw _ (List.mem_of_getElem? (i := 25) rfl))) (Or.inr (hw _ (List.mem_of_getElem? (i := 17) rfl))) (by decide) (t := .int) (t' := (.array .long)) (by decide) (by decide)))
  have pMo := pMo.other W3 (Or.inr (slot_ne (Or.inr (hw _ (List.mem_of_getElem? (i := 27) rfl))) (Or.inr (hw _ (List.mem_of_getElem? (i := 17) rfl))) (by decide) (t := .int) (t' := (.array .long)) (by decide) (by decide)))
  have pC9 := pC9.other W3 (Or.inr (slot_ne (Or.inr (hw _ (List.mem_of_getElem? (i := 29) rfl))) (Or.inr (hw _ (List.mem_of_getElem? (i := 17) rfl))) (by decide) (t := .boolean) (t' := (.array .long)) (by decide) (by decide)))
  have pCo := F3
  have hE := E3
  refine o_aloadN X3 hx (pc' := 15) (hb hby d2_14) rfl rfl rfl ?_
  refine o_iloadN X3 hx (pc' := 16) (hb hby d2_15) rfl rfl ?_
  refine o_putfield X3 hx hZ hown (hw _ (List.mem_of_getElem? (i := 18) rfl)) e3 pSi hE (Or.inr ⟨(hw _ (List.mem_of_getElem? (i := 19) rfl)), rfl, hnm⟩) (hw _ (List.mem_of_getElem? (i := 6) rfl)) (ty := .int) (v' := (.int (0 : Int32))) (by decide) rfl rfl (hb hby d2_16) (pc' := 19) rfl ?_
  intro T4 h4 X4 e4 W4 F4 E4
  have NN := Fr.snoc X4 NN g_a1
  have KK := KK.wr W4 (Or.inl (List.mem_of_getElem? (i := 0) rfl))
  have ZZ := Nat.le_trans ZZ (Keep.of_wr W4).1
  have pPi := pPi.other W4 (Or.inr (slot_ne (Or.inr (hw _ (List.mem_of_getElem? (i := 15) rfl))) (Or.inr (hw _ (List.mem_of_getElem? (i := 19) rfl))) (by decide) (t := (.array .long)) (t' := .int) (by decide) (by decide)))
  have pCo := pCo.other W4 (Or.inr (slot_ne (Or.inr (hw _ (List.mem_of_getElem? (i := 17) rfl))) (Or.inr (hw _ (List.mem_of_getElem? (i := 19) rfl))) (by decide) (t := (.array .long)) (t' := .int) (by decide) (by decide)))
  have pCa := pCa.other W4 (Or.inr (slot_ne (Or.inr (hw _ (List.mem_of_getElem? (i := 21) rfl))) (Or.inr (hw _ (List.mem_of_getElem? (i := 19) rfl))) (by decide) (t := .long) (t' := .int) (by decide) (by decide)))
  have pEn := pEn.other W4 (Or.inr (slot_ne (Or.inr (hw _ (List.mem_of_getElem? (i := 23) rfl))) (Or.inr (hw _ (List.mem_of_getElem? (i := 19) rfl))) (by decide) (t := .int) (t' := .int) (by decide) (by decide)))
  have pHa := pHa.other W4 (Or.inr (slot_ne (Or.inr (hw _ (List.mem_of_getElem? (i := 25) rfl))) (Or.inr (hw _ (List.mem_of_getElem? (i := 19) rfl))) (by decide) (t := .int) (t' := .int) (by decide) (by decide)))
  have pMo := pMo.other W4 (Or.inr (slot_ne (Or.inr (hw _ (List.mem_of_getElem? (i := 27) rfl))) (Or.inr (hw _ (List.mem_of_getElem? (i := 19) rfl))) (by decide) (t := .int) (t' := .int) (by decide) (by decide)))
  have pC9 := pC9.other W4 (Or.inr (slot_ne (Or.inr (hw _ (List.mem_of_getElem? (i := 29) rfl))) (Or.inr (hw _ (List.mem_of_getElem? (i := 19) rfl))) (by decide) (t := .boolean) (t' := .int) (by decide) (by decide)))
  have pSi := F4
  have hE := E4
  refine o_aloadN X4 hx (pc' := 20) (hb hby d2_19) rfl rfl rfl ?_
  refine o_lload X4 hx (pc' := 22) (hb hby d2_20) rfl rfl ?_
  refine o_putfield X4 hx hZ hown (hw _ (List.mem_of_getElem? (i := 20) rfl)) e4 pCa hE (Or.inr ⟨(hw _ (List.mem_of_getElem? (i := 21) rfl)), rfl, hnm⟩) (hw _ (List.mem_of_getElem? (i := 6) rfl)) (ty := .long) (v' := (.long (0 : Int64))) (by decide) rfl rfl (hb hby d2_22) (pc' := 25) rfl ?_
  intro T5 h5 X5 e5 W5 F5 E5
  have NN := Fr.snoc X5 NN g_a1
  have KK := KK.wr W5 (Or.inl (List.mem_of_getElem? (i := 0) rfl))
  have ZZ := Nat.le_trans ZZ (Keep.of_wr W5).1
  have pPi := pPi.other W5 (Or.inr (slot_ne (Or.inr (hw _ (List.mem_of_getElem? (i := 15) rfl))) (Or.inr (hw _ (List.mem_of_getElem? (i := 21) rfl))) (by decide) (t := (.array .long)) (t' := .long) (by decide) (by decide)))
  have pCo := pCo.other W5 (Or.inr (slot_ne (Or.inr (hw _ (List.mem_of_getElem? (i := 17) rfl))) (Or.inr (hw _ (List.mem_of_getElem? (i := 21) rfl))) (by decide) (t := (.array .long)) (t' := .long) (by decide) (by decide)))
  have pSi := pSi.other W5 (Or.inr (slot_ne (Or.inr (hw _ (List.mem_of_getElem? (i := 19) rfl))) (Or.inr (hw _ (List.mem_of_getElem? (i := 21) rfl))) (by decide) (t := .int) (t' := .long) (by decide) (by decide)))
  have pEn := pEn.other W5 (Or.inr (slot_ne (Or.inr (hw _ (List.mem_of_getElem? (i := 23) rfl))) (Or.inr (hw _ (List.mem_of_getElem? (i := 21) rfl))) (by decide) (t := .int) (t' := .long) (by decide) (by decide)))
  have pHa := pHa.other W5 (Or.inr (slot_ne (Or.inr (hw _ (List.mem_of_getElem? (i := 25) rfl))) (Or.inr (hw _ (List.mem_of_getElem? (i := 21) rfl))) (by decide) (t := .int) (t' := .long) (by decide) (by decide)))
  have pMo := pMo.other W5 (Or.inr (slot_ne (Or.inr (hw _ (List.mem_of_getElem? (i := 27) rfl))) (Or.inr (hw _ (List.mem_of_getElem? (i := 21) rfl))) (by decide) (t := .int) (t' := .long) (by decide) (by decide)))
  have pC9 := pC9.other W5 (Or.inr (slot_ne (Or.inr (hw _ (List.mem_of_getElem? (i := 29) rfl))) (Or.inr (hw _ (List.mem_of_getElem? (i := 21) rfl))) (by decide) (t := .boolean) (t' := .long) (by decide) (by decide)))
  have pCa := F5
  have hE := E5
  refine o_aloadN X5 hx (pc' := 26) (hb hby d2_25) rfl rfl rfl ?_
  refine o_iload X5 hx (pc' := 28) (hb hby d2_26) rfl rfl ?_
  refine o_putfield X5 hx hZ hown (hw _ (List.mem_of_getElem? (i := 22) rfl)) e5 pEn hE (Or.inr ⟨(hw _ (List.mem_of_getElem? (i := 23) rfl)), rfl, hnm⟩) (hw _ (List.mem_of_getElem? (i := 6) rfl)) (ty := .int) (v' := (.int (-1 : Int32))) (by decide) rfl rfl (hb hby d2_28) (pc' := 31) rfl ?_
  intro T6 h6 X6 e6 W6 F6 E6
  have NN := Fr.snoc X6 NN g_a1
  have KK := KK.wr W6 (Or.inl (List.mem_of_getElem? (i := 0) rfl))
  have ZZ := Nat.le_trans ZZ (Keep.of_wr W6).1
  have pPi := pPi.other W6 (Or.inr (slot_ne (Or.inr (hw _ (List.mem_of_getElem? (i := 15) rfl))) (Or.inr (hw _ (List.mem_of_getElem? (i := 23) rfl))) (by decide) (t := (.array .long)) (t' := .int) (by decide) (by decide)))
  have pCo := pCo.other W6 (Or.inr (slot_ne (Or.inr (hw _ (List.mem_of_getElem? (i := 17) rfl))) (Or.inr (hw _ (List.mem_of_getElem? (i := 23) rfl))) (by decide) (t := (.array .long)) (t' := .int) (by decide) (by decide)))
  have pSi := pSi.other W6 (Or.inr (slot_ne (Or.inr (hw _ (List.mem_of_getElem? (i := 19) rfl))) (Or.inr (hw _ (List.mem_of_getElem? (i := 23) rfl))) (by decide) (t := .int) (t' := .int) (by decide) (by decide)))
  have pCa := pCa.other W6 (Or.inr (slot_ne (Or.inr (hw _ (List.mem_of_getElem? (i := 21) rfl))) (Or.inr (hw _ (List.mem_of_getElem? (i := 23) rfl))) (by decide) (t := .long) (t' := .int) (by decide) (by decide)))
  have pHa := pHa.other W6 (Or.inr (slot_ne (Or.inr (hw _ (List.mem_of_getElem? (i := 25) rfl))) (Or.inr (hw _ (List.mem_of_getElem? (i := 23) rfl))) (by decide) (t := .int) (t' := .int) (by decide) (by decide)))
  have pMo := pMo.other W6 (Or.inr (slot_ne (Or.inr (hw _ (List.mem_of_getElem? (i := 27) rfl))) (Or.inr (hw _ (List.mem_of_getElem? (i := 23) rfl))) (by decide) (t := .int) (t' := .int) (by decide) (by decide)))
  have pC9 := pC9.other W6 (Or.inr (slot_ne (Or.inr (hw _ (List.mem_of_getElem? (i := 29) rfl))) (Or.inr (hw _ (List.mem_of_getElem? (i := 23) rfl))) (by decide) (t := .boolean) (t' := .int) (by decide) (by decide)))
  have pEn := F6
  have hE := E6
  refine o_aloadN X6 hx (pc' := 32) (hb hby d2_31) rfl rfl rfl ?_
  refine o_iload X6 hx (pc' := 34) (hb hby d2_32) rfl rfl ?_
  refine o_putfield X6 hx hZ hown (hw _ (List.mem_of_getElem? (i := 24) rfl)) e6 pHa hE (Or.inr ⟨(hw _ (List.mem_of_getElem? (i := 25) rfl)), rfl, hnm⟩) (hw _ (List.mem_of_getElem? (i := 6) rfl)) (ty := .int) (v' := (.int (0 : Int32))) (by decide) rfl rfl (hb hby d2_34) (pc' := 37) rfl ?_
  intro T7 h7 X7 e7 W7 F7 E7
  have NN := Fr.snoc X7 NN g_a1
  have KK := KK.wr W7 (Or.inl (List.mem_of_getElem? (i := 0) rfl))
  have ZZ := Nat.le_trans ZZ (Keep.of_wr W7).1
  have pPi := pPi.other W7 (Or.inr (slot_ne (Or.inr (hw _ (List.mem_of_getElem? (i := 15) rfl))) (Or.inr (hw _ (List.mem_of_getElem? (i := 25) rfl))) (by decide) (t := (.array .long)) (t' := .int) (by decide) (by decide)))
  have pCo := pCo.other W7 (Or.inr (slot_ne (Or.inr (hw _ (List.mem_of_getElem? (i := 17) rfl))) (Or.inr (hw _ (List.mem_of_getElem? (i := 25) rfl))) (by decide) (t := (.array .long)) (t' := .int) (by decide) (by decide)))
  have pSi := pSi.other W7 (Or.inr (slot_ne (Or.inr (hw _ (List.mem_of_getElem? (i := 19) rfl))) (Or.inr (hw _ (List.mem_of_getElem? (i := 25) rfl))) (by decide) (t := .int) (t' := .int) (by decide) (by decide)))
  have pCa := pCa.other W7 (Or.inr (slot_ne (Or.inr (hw _ (List.mem_of_getElem? (i := 21) rfl))) (Or.inr (hw _ (List.mem_of_getElem? (i := 25) rfl))) (by decide) (t := .long) (t' := .int) (by decide) (by decide)))
  have pEn := pEn.other W7 (Or.inr (slot_ne (Or.inr (hw _ (List.mem_of_getElem? (i := 23) rfl))) (Or.inr (hw _ (List.mem_of_getElem? (i := 25) rfl))) (by decide) (t := .int) (t' := .int) (by decide) (by decide)))
  have pMo := pMo.other W7 (Or.inr (slot_ne (Or.inr (hw _ (List.mem_of_getElem? (i := 27) rfl))) (Or.inr (hw _ (List.mem_of_getElem? (i := 25) rfl))) (by decide) (t := .int) (t' := .int) (by decide) (by decide)))
  have pC9 := pC9.other W7 (Or.inr (slot_ne (Or.inr (hw _ (List.mem_of_getElem? (i := 29) rfl))) (Or.inr (hw _ (List.mem_of_getElem? (i := 25) rfl))) (by decide) (t := .boolean) (t' := .int) (by decide) (by decide)))
  have pHa := F7
  have hE := E7
  refine o_aloadN X7 hx (pc' := 38) (hb hby d2_37) rfl rfl rfl ?_
  refine o_iload X7 hx (pc' := 40) (hb hby d2_38) rfl rfl ?_
  refine o_putfield X7 hx hZ hown (hw _ (List.mem_of_getElem? (i := 26) rfl)) e7 pMo hE (Or.inr ⟨(hw _ (List.mem_of_getElem? (i := 27) rfl)), rfl, hnm⟩) (hw _ (List.mem_of_getElem? (i := 6) rfl)) (ty := .int) (v' := (.int (1 : Int32))) (by decide) rfl rfl (hb hby d2_40) (pc' := 43) rfl ?_
  intro T8 h8 X8 e8 W8 F8 E8
  have NN := Fr.snoc X8 NN g_a1
  have KK := KK.wr W8 (Or.inl (List.mem_of_getElem? (i := 0) rfl))
  have ZZ := Nat.le_trans ZZ (Keep.of_wr W8).1
  have pPi := pPi.other W8 (Or.inr (slot_ne (Or.inr (hw _ (List.mem_of_getElem? (i := 15) rfl))) (Or.inr (hw _ (List.mem_of_getElem? (i := 27) rfl))) (by decide) (t := (.array .long)) (t' := .int) (by decide) (by decide)))
  have pCo := pCo.other W8 (Or.inr (slot_ne (Or.inr (hw _ (List.mem_of_getElem? (i := 17) rfl))) (Or.inr (hw _ (List.mem_of_getElem? (i := 27) rfl))) (by decide) (t := (.array .long)) (t' := .int) (by decide) (by decide)))
  have pSi := pSi.other W8 (Or.inr (slot_ne (Or.inr (hw _ (List.mem_of_getElem? (i := 19) rfl))) (Or.inr (hw _ (List.mem_of_getElem? (i := 27) rfl))) (by decide) (t := .int) (t' := .int) (by decide) (by decide)))
  have pCa := pCa.other W8 (Or.inr (slot_ne (Or.inr (hw _ (List.mem_of_getElem? (i := 21) rfl))) (Or.inr (hw _ (List.mem_of_getElem? (i := 27) rfl))) (by decide) (t := .long) (t' := .int) (by decide) (by decide)))
  have pEn := pEn.other W8 (Or.inr (slot_ne (Or.inr (hw _ (List.mem_of_getElem? (i := 23) rfl))) (Or.inr (hw _ (List.mem_of_getElem? (i := 27) rfl))) (by decide) (t := .int) (t' := .int) (by decide) (by decide)))
  have pHa := pHa.other W8 (Or.inr (slot_ne (Or.inr (hw _ (List.mem_of_getElem? (i := 25) rfl))) (Or.inr (hw _ (List.mem_of_getElem? (i := 27) rfl))) (by decide) (t := .int) (t' := .int) (by decide) (by decide)))
  have pC9 := pC9.other W8 (Or.inr (slot_ne (Or.inr (hw _ (List.mem_of_getElem? (i := 29) rfl))) (Or.inr (hw _ (List.mem_of_getElem? (i := 27) rfl))) (by decide) (t := .boolean) (t' := .int) (by decide) (by decide)))
  have pMo := F8
  have hE := E8
  refine o_aloadN X8 hx (pc' := 44) (hb hby d2_43) rfl rfl rfl ?_
  refine o_iload X8 hx (pc' := 46) (hb hby d2_44) rfl rfl ?_
  refine o_putfield X8 hx hZ hown (hw _ (List.mem_of_getElem? (i := 28) rfl)) e8 pC9 hE (Or.inr ⟨(hw _ (List.mem_of_getElem? (i := 29) rfl)), rfl, hnm⟩) (hw _ (List.mem_of_getElem? (i := 6) rfl)) (ty := .boolean) (v' := (.int (0 : Int32))) (by decide) rfl rfl (hb hby d2_46) (pc' := 49) rfl ?_
  intro T9 h9 X9 e9 W9 F9 E9
  have NN := Fr.snoc X9 NN g_a1
  have KK := KK.wr W9 (Or.inl (List.mem_of_getElem? (i := 0) rfl))
  have ZZ := Nat.le_trans ZZ (Keep.of_wr W9).1
  have pPi := pPi.other W9 (Or.inr (slot_ne (Or.inr (hw _ (List.mem_of_getElem? (i := 15) rfl))) (Or.inr (hw _ (List.mem_of_getElem? (i := 29) rfl))) (by decide) (t := (.array .long)) (t' := .boolean) (by decide) (by decide)))
  have pCo := pCo.other W9 (Or.inr (slot_ne (Or.inr (hw _ (List.mem_of_getElem? (i := 17) rfl))) (Or.inr (hw _ (List.mem_of_getElem? (i := 29) rfl))) (by decide) (t := (.array .long)) (t' := .boolean) (by decide) (by decide)))
  have pSi := pSi.other W9 (Or.inr (slot_ne (Or.inr (hw _ (List.mem_of_getElem? (i := 19) rfl))) (Or.inr (hw _ (List.mem_of_getElem? (i := 29) rfl))) (by decide) (t := .int) (t' := .boolean) (by decide) (by decide)))
  have pCa := pCa.other W9 (Or.inr (slot_ne (Or.inr (hw _ (List.mem_of_getElem? (i := 21) rfl))) (Or.inr (hw _ (List.mem_of_getElem? (i := 29) rfl))) (by decide) (t := .long) (t' := .boolean) (by decide) (by decide)))
  have pEn := pEn.other W9 (Or.inr (slot_ne (Or.inr (hw _ (List.mem_of_getElem? (i := 23) rfl))) (Or.inr (hw _ (List.mem_of_getElem? (i := 29) rfl))) (by decide) (t := .int) (t' := .boolean) (by decide) (by decide)))
  have pHa := pHa.other W9 (Or.inr (slot_ne (Or.inr (hw _ (List.mem_of_getElem? (i := 25) rfl))) (Or.inr (hw _ (List.mem_of_getElem? (i := 29) rfl))) (by decide) (t := .int) (t' := .boolean) (by decide) (by decide)))
  have pMo := pMo.other W9 (Or.inr (slot_ne (Or.inr (hw _ (List.mem_of_getElem? (i := 27) rfl))) (Or.inr (hw _ (List.mem_of_getElem? (i := 29) rfl))) (by decide) (t := .int) (t' := .boolean) (by decide) (by decide)))
  have pC9 := F9
  have hE := E9
  exact finV X9 hx hlk hret (hb hby d2_49) (by decide) (by decide) ⟨rfl, NN, by rw [e9]; exact KK, by rw [e9]; exact ⟨pPi, pCo, pSi, pCa, pEn, pC9⟩⟩
theorem pd_9 : parseMethodDescriptor "([J[JIJIIIZ)V" = some ⟨[(.array .long), (.array .long), .int, .long, .int, .int, .int, .boolean], none⟩ := by decide +kernel
theorem d1_0 : decode method_3_code 0 = .ok (.bipush 6, 2) := by decide +kernel
theorem d1_2 : decode method_3_code 2 = .ok (.newarray .long, 2) := by decide +kernel
theorem d1_4 : decode method_3_code 4 = .ok (.astore_n 1, 1) := by decide +kernel
theorem d1_5 : decode method_3_code 5 = .ok (.aload_n 1, 1) := by decide +kernel
theorem d1_6 : decode method_3_code 6 = .ok (.iconst 5, 1) := by decide +kernel
theorem d1_7 : decode method_3_code 7 = .ok (.lconst 1, 1) := by decide +kernel
theorem d1_8 : decode method_3_code 8 = .ok (.iload_n 0, 1) := by decide +kernel
theorem d1_9 : decode method_3_code 9 = .ok (.lshl, 1) := by decide +kernel
theorem d1_10 : decode method_3_code 10 = .ok (.lastore, 1) := by decide +kernel
theorem d1_11 : decode method_3_code 11 = .ok (.iconst 2, 1) := by decide +kernel
theorem d1_12 : decode method_3_code 12 = .ok (.newarray .long, 2) := by decide +kernel
theorem d1_14 : decode method_3_code 14 = .ok (.dup, 1) := by decide +kernel
theorem d1_15 : decode method_3_code 15 = .ok (.iconst 0, 1) := by decide +kernel
theorem d1_16 : decode method_3_code 16 = .ok (.lconst 1, 1) := by decide +kernel
theorem d1_17 : decode method_3_code 17 = .ok (.iload_n 0, 1) := by decide +kernel
theorem d1_18 : decode method_3_code 18 = .ok (.lshl, 1) := by decide +kernel
theorem d1_19 : decode method_3_code 19 = .ok (.lastore, 1) := by decide +kernel
theorem d1_20 : decode method_3_code 20 = .ok (.dup, 1) := by decide +kernel
theorem d1_21 : decode method_3_code 21 = .ok (.iconst 1, 1) := by decide +kernel
theorem d1_22 : decode method_3_code 22 = .ok (.lconst 0, 1) := by decide +kernel
theorem d1_23 : decode method_3_code 23 = .ok (.lastore, 1) := by decide +kernel
theorem d1_24 : decode method_3_code 24 = .ok (.astore_n 2, 1) := by decide +kernel
theorem d1_25 : decode method_3_code 25 = .ok (.new 30, 3) := by decide +kernel
theorem d1_28 : decode method_3_code 28 = .ok (.dup, 1) := by decide +kernel
theorem d1_29 : decode method_3_code 29 = .ok (.aload_n 1, 1) := by decide +kernel
theorem d1_30 : decode method_3_code 30 = .ok (.aload_n 2, 1) := by decide +kernel
theorem d1_31 : decode method_3_code 31 = .ok (.iconst 0, 1) := by decide +kernel
theorem d1_32 : decode method_3_code 32 = .ok (.lconst 0, 1) := by decide +kernel
theorem d1_33 : decode method_3_code 33 = .ok (.iconst (-1), 1) := by decide +kernel
theorem d1_34 : decode method_3_code 34 = .ok (.iconst 0, 1) := by decide +kernel
theorem d1_35 : decode method_3_code 35 = .ok (.iconst 1, 1) := by decide +kernel
theorem d1_36 : decode method_3_code 36 = .ok (.iconst 0, 1) := by decide +kernel
theorem d1_37 : decode method_3_code 37 = .ok (.invokespecial 32, 3) := by decide +kernel
theorem d1_40 : decode method_3_code 40 = .ok (.areturn, 1) := by decide +kernel
theorem pn_1 : plainFor (⟨"com/example/jadoube/jadoube/PositionTableMovesToPinLaw", "king", "(I)Lcom/example/jadoube/jadoube/Position;"⟩ : MethodName) = true := plainFor_of_name (by show plainName "com/example/jadoube/jadoube/PositionTableMovesToPinLaw" = true; first | (simp [plainName, overriddenIn]; done) | decide +kernel)
theorem ef_1_0 (m : MethodId)  : entryFrame m #[(.int (0 : Int32))] 3 = mkF m 0 #[.val (.int (0 : Int32)), .unset, .unset] [] := by first | (simp [entryFrame, mkF, argsToLocals, Value.category]; done) | rfl
set_option maxRecDepth 65536 in
set_option maxHeartbeats 40000000 in
theorem rmK0 (l : Launch) (Z : State) (a0 : Array Value) (hw : ∀ d ∈ tables_1, d.before a0 Z = true) (h0 : Heap) (n0 : Nat) (Z0 : n0 ≤ h0.size)   : Ctr l Z (⟨"com/example/jadoube/jadoube/PositionTableMovesToPinLaw", "king", "(I)Lcom/example/jadoube/jadoube/Position;"⟩ : MethodName) method_3_code 3 (some (.object "com/example/jadoube/jadoube/Position")) [] ({ frames := 2, cells := 3, slots := 16, locals := 34 } : Room) #[(.int (0 : Int32))] h0 (fun v h L => ∃ a, v = some (.ref a) ∧ Fr n0 L ∧ Keep h0 h [] ∧ Pos Z h h.size a 1) := by
  refine ctr_mk pn_1 (own := "com/example/jadoube/jadoube/PositionTableMovesToPinLaw") (mn := "king") rfl rfl ?_
  intro p e s m below meth c T0 X0 hx hby hml hZ hown hnm hret hlk e0
  refine o_entry (ef_1_0 m ) ?_
  have NN := Fr.nil n0
  have ZZ := Z0
  have KK := Keep.refl h0 []
  refine o_bipush X0 hx (pc' := 2) (v := (6 : Int32)) (hb hby d1_0) rfl rfl ?_
  refine o_newarray X0 hx hZ e0 (hw _ (List.mem_of_getElem? (i := 4) rfl)) (hb hby d1_2) (pc' := 4) rfl (by decide) 6 (by decide) (by decide) (by decide) (by decide) ?_
  intro T1 h1 b1 k1 g1 X1 e1 E1 V1
  have g_b1 : n0 ≤ b1 := Nat.le_trans ZZ (Nat.le_of_eq g1.symm)
  have sz_b1 : h0.size ≤ b1 := Nat.le_trans KK.1 (Nat.le_of_eq g1.symm)
  have KK := KK.ext E1
  have ZZ := Nat.le_trans ZZ E1.1
  have v1 : Arv Z h1 b1 k1 .long (6 : Int32) [.long 0, .long 0, .long 0, .long 0, .long 0, .long 0] (.long 0) := V1.pad (pad_rep [] _ 6)
  refine o_astoreN X1 hx (pc' := 5) (Ls' := #[.val (.int (0 : Int32)), .val (.ref b1), .unset]) (hb hby d1_4) rfl rfl rfl ?_
  refine o_aloadN X1 hx (pc' := 6) (hb hby d1_5) rfl rfl rfl ?_
  refine o_iconst X1 hx (pc' := 7) (v := (5 : Int32)) (hb hby d1_6) rfl rfl ?_
  refine o_lconst X1 hx (pc' := 8) (v := (1 : Int64)) (hb hby d1_7) rfl rfl ?_
  refine o_iloadN X1 hx (pc' := 9) (hb hby d1_8) rfl rfl ?_
  refine o_lshl X1 hx (pc' := 10) (hb hby d1_9) rfl ?_
  rw [show ((1 : Int64) <<< ((0 : Int32) &&& 0x3f).toInt64) = (1 : Int64) from by decide +kernel]
  refine o_lastore X1 hx hZ e1 v1 (by decide) 5 rfl (Nat.le_of_ble_eq_true rfl) (hb hby d1_10) (pc' := 11) rfl ?_
  intro T2 h2 X2 e2 W2 V2
  have NN := Fr.snoc X2 NN g_b1
  have KK := KK.wr W2 (Or.inr sz_b1)
  have ZZ := Nat.le_trans ZZ (Keep.of_wr W2).1
  have v1 : Arv Z h2 b1 k1 .long 6 [.long 0, .long 0, .long 0, .long 0, .long 0, .long 1] (.long 0) := V2
  refine o_iconst X2 hx (pc' := 12) (v := (2 : Int32)) (hb hby d1_11) rfl rfl ?_
  refine o_newarray X2 hx hZ e2 (hw _ (List.mem_of_getElem? (i := 4) rfl)) (hb hby d1_12) (pc' := 14) rfl (by decide) 2 (by decide) (by decide) (by decide) (by decide) ?_
  intro T3 h3 b3 k3 g3 X3 e3 E3 V3
  have lt_b1_b3 : b1 < b3 := Nat.lt_of_lt_of_le v1.lt (Nat.le_of_eq g3.symm)
  have ne_b1_b3 : b1 ≠ b3 := Nat.ne_of_lt lt_b1_b3
  have g_b3 : n0 ≤ b3 := Nat.le_trans ZZ (Nat.le_of_eq g3.symm)
  have sz_b3 : h0.size ≤ b3 := Nat.le_trans KK.1 (Nat.le_of_eq g3.symm)
  have KK := KK.ext E3
  have ZZ := Nat.le_trans ZZ E3.1
  have v1 := v1.ext E3
  have v2 : Arv Z h3 b3 k3 .long (2 : Int32) [.long 0, .long 0] (.long 0) := V3.pad (pad_rep [] _ 2)
  refine o_dup X3 hx (pc' := 15) (hb hby d1_14) rfl rfl ?_
  refine o_iconst X3 hx (pc' := 16) (v := (0 : Int32)) (hb hby d1_15) rfl rfl ?_
  refine o_lconst X3 hx (pc' := 17) (v := (1 : Int64)) (hb hby d1_16) rfl rfl ?_
  refine o_iloadN X3 hx (pc' := 18) (hb hby d1_17) rfl rfl ?_
  refine o_lshl X3 hx (pc' := 19) (hb hby d1_18) rfl ?_
  rw [show ((1 : Int64) <<< ((0 : Int32) &&& 0x3f).toInt64) = (1 : Int64) from by decide +kernel]
  refine o_lastore X3 hx hZ e3 v2 (by decide) 0 rfl (Nat.le_of_ble_eq_true rfl) (hb hby d1_19) (pc' := 20) rfl ?_
  intro T4 h4 X4 e4 W4 V4
  have NN := Fr.snoc X4 NN g_b3
  have KK := KK.wr W4 (Or.inr sz_b3)
  have ZZ := Nat.le_trans ZZ (Keep.of_wr W4).1
  have v1 := v1.other W4 ne_b1_b3
  have v2 : Arv Z h4 b3 k3 .long 2 [.long 1, .long 0] (.long 0) := V4
  refine o_dup X4 hx (pc' := 21) (hb hby d1_20) rfl rfl ?_
  refine o_iconst X4 hx (pc' := 22) (v := (1 : Int32)) (hb hby d1_21) rfl rfl ?_
  refine o_lconst X4 hx (pc' := 23) (v := (0 : Int64)) (hb hby d1_22) rfl rfl ?_
  refine o_lastore X4 hx hZ e4 v2 (by decide) 1 rfl (Nat.le_of_ble_eq_true rfl) (hb hby d1_23) (pc' := 24) rfl ?_
  intro T5 h5 X5 e5 W5 V5
  have NN := Fr.snoc X5 NN g_b3
  have KK := KK.wr W5 (Or.inr sz_b3)
  have ZZ := Nat.le_trans ZZ (Keep.of_wr W5).1
  have v1 := v1.other W5 ne_b1_b3
  have v2 : Arv Z h5 b3 k3 .long 2 [.long 1, .long 0] (.long 0) := V5
  refine o_astoreN X5 hx (pc' := 25) (Ls' := #[.val (.int (0 : Int32)), .val (.ref b1), .val (.ref b3)]) (hb hby d1_24) rfl rfl rfl ?_
  refine o_new X5 hx hZ hown (hw _ (List.mem_of_getElem? (i := 5) rfl)) (hw _ (List.mem_of_getElem? (i := 6) rfl)) (hw _ (List.mem_of_getElem? (i := 7) rfl)) e5 (hb hby d1_25) (pc' := 28) rfl (by decide) (by decide) ?_
  intro T6 h6 b6 g6 X6 e6 E6 A6 D6
  have lt_b1_b6 : b1 < b6 := Nat.lt_of_lt_of_le v1.lt (Nat.le_of_eq g6.symm)
  have ne_b1_b6 : b1 ≠ b6 := Nat.ne_of_lt lt_b1_b6
  have lt_b3_b6 : b3 < b6 := Nat.lt_of_lt_of_le v2.lt (Nat.le_of_eq g6.symm)
  have ne_b3_b6 : b3 ≠ b6 := Nat.ne_of_lt lt_b3_b6
  have g_b6 : n0 ≤ b6 := Nat.le_trans ZZ (Nat.le_of_eq g6.symm)
  have sz_b6 : h0.size ≤ b6 := Nat.le_trans KK.1 (Nat.le_of_eq g6.symm)
  have KK := KK.ext E6
  have ZZ := Nat.le_trans ZZ E6.1
  have v1 := v1.ext E6
  have v2 := v2.ext E6
  have hE := A6
  have pPi : Fld Z h6 b6 "com/example/jadoube/jadoube/Position" "pieces" "[J" .null := D6 (Or.inr (hw _ (List.mem_of_getElem? (i := 15) rfl))) (ty := (.array .long)) (by decide)
  have pCo : Fld Z h6 b6 "com/example/jadoube/jadoube/Position" "colours" "[J" .null := D6 (Or.inr (hw _ (List.mem_of_getElem? (i := 17) rfl))) (ty := (.array .long)) (by decide)
  have pSi : Fld Z h6 b6 "com/example/jadoube/jadoube/Position" "sideToMove" "I" (.int 0) := D6 (Or.inr (hw _ (List.mem_of_getElem? (i := 19) rfl))) (ty := .int) (by decide)
  have pCa : Fld Z h6 b6 "com/example/jadoube/jadoube/Position" "castlingRooks" "J" (.long 0) := D6 (Or.inr (hw _ (List.mem_of_getElem? (i := 21) rfl))) (ty := .long) (by decide)
  have pEn : Fld Z h6 b6 "com/example/jadoube/jadoube/Position" "enPassant" "I" (.int 0) := D6 (Or.inr (hw _ (List.mem_of_getElem? (i := 23) rfl))) (ty := .int) (by decide)
  have pHa : Fld Z h6 b6 "com/example/jadoube/jadoube/Position" "halfmoveClock" "I" (.int 0) := D6 (Or.inr (hw _ (List.mem_of_getElem? (i := 25) rfl))) (ty := .int) (by decide)
  have pMo : Fld Z h6 b6 "com/example/jadoube/jadoube/Position" "moveNumber" "I" (.int 0) := D6 (Or.inr (hw _ (List.mem_of_getElem? (i := 27) rfl))) (ty := .int) (by decide)
  have pC9 : Fld Z h6 b6 "com/example/jadoube/jadoube/Position" "chess960" "Z" (.int 0) := D6 (Or.inr (hw _ (List.mem_of_getElem? (i := 29) rfl))) (ty := .boolean) (by decide)
  refine o_dup X6 hx (pc' := 29) (hb hby d1_28) rfl rfl ?_
  refine o_aloadN X6 hx (pc' := 30) (hb hby d1_29) rfl rfl rfl ?_
  refine o_aloadN X6 hx (pc' := 31) (hb hby d1_30) rfl rfl rfl ?_
  refine o_iconst X6 hx (pc' := 32) (v := (0 : Int32)) (hb hby d1_31) rfl rfl ?_
  refine o_lconst X6 hx (pc' := 33) (v := (0 : Int64)) (hb hby d1_32) rfl rfl ?_
  refine o_iconst X6 hx (pc' := 34) (v := (-1 : Int32)) (hb hby d1_33) rfl rfl ?_
  refine o_iconst X6 hx (pc' := 35) (v := (0 : Int32)) (hb hby d1_34) rfl rfl ?_
  refine o_iconst X6 hx (pc' := 36) (v := (1 : Int32)) (hb hby d1_35) rfl rfl ?_
  refine o_iconst X6 hx (pc' := 37) (v := (0 : Int32)) (hb hby d1_36) rfl rfl ?_
  refine o_callI X6 hx hZ b6 [(.ref b1), (.ref b3), (.int (0 : Int32)), (.long (0 : Int64)), (.int (-1 : Int32)), (.int (0 : Int32)), (.int (1 : Int32)), (.int (0 : Int32))] (rm2 l Z a0 hw h6 n0 ZZ b6 b1 b3 hE pPi pCo pSi pCa pEn pHa pMo pC9 g_b6) rfl hown (hw _ (List.mem_of_getElem? (i := 8) rfl)) (hw _ (List.mem_of_getElem? (i := 9) rfl)) (hw _ (List.mem_of_getElem? (i := 7) rfl)) (hw _ (List.mem_of_getElem? (i := 10) rfl)) (by decide) pd_9 e6 (by rw [hml]; rfl) rfl rfl rfl (hb hby d1_37) (pc' := 40) rfl 1 (Nat.le_of_eq rfl) (by decide) (by decide) (by decide) (by decide) ?_
  intro T7 v7 L7 X7 hQ7
  obtain ⟨rfl, Nq, Kq, pPi, pCo, pSi, pCa, pEn, pC9⟩ := hQ7
  have NN := Fr.app NN Nq
  have KK := KK.trans Kq (by intro x hx; simp only [List.mem_cons, List.not_mem_nil, or_false] at hx; subst hx; first | (left; simp; done) | (right; first | exact sz_b1 | exact sz_b3 | exact sz_b6))
  have ZZ := Nat.le_trans ZZ Kq.1
  have v1 := v1.keep Kq (by simp only [List.mem_cons, List.not_mem_nil, or_false, not_or]; exact ne_b1_b6)
  have v2 := v2.keep Kq (by simp only [List.mem_cons, List.not_mem_nil, or_false, not_or]; exact ne_b3_b6)
  have hE := hE.keep Kq
  show Dn p e below _ (T7.setTop (mkF m 40 #[.val (.int (0 : Int32)), .val (.ref b1), .val (.ref b3)] [(.ref b6)]))
  exact finA X7 hx hlk rfl hret rfl rfl (hb hby d1_40) (by decide) (by decide) ⟨b6, rfl, NN, KK, b1, b3, k1, k3, hE.lt, v1.lt, v2.lt, hE, pPi, pCo, pSi, pCa, pEn, pC9, v1, v2⟩
theorem ef_1_1 (m : MethodId)  : entryFrame m #[(.int (1 : Int32))] 3 = mkF m 0 #[.val (.int (1 : Int32)), .unset, .unset] [] := by first | (simp [entryFrame, mkF, argsToLocals, Value.category]; done) | rfl
set_option maxRecDepth 65536 in
set_option maxHeartbeats 40000000 in
theorem rmK1 (l : Launch) (Z : State) (a0 : Array Value) (hw : ∀ d ∈ tables_1, d.before a0 Z = true) (h0 : Heap) (n0 : Nat) (Z0 : n0 ≤ h0.size)   : Ctr l Z (⟨"com/example/jadoube/jadoube/PositionTableMovesToPinLaw", "king", "(I)Lcom/example/jadoube/jadoube/Position;"⟩ : MethodName) method_3_code 3 (some (.object "com/example/jadoube/jadoube/Position")) [] ({ frames := 2, cells := 3, slots := 16, locals := 34 } : Room) #[(.int (1 : Int32))] h0 (fun v h L => ∃ a, v = some (.ref a) ∧ Fr n0 L ∧ Keep h0 h [] ∧ Pos Z h h.size a 2) := by
  refine ctr_mk pn_1 (own := "com/example/jadoube/jadoube/PositionTableMovesToPinLaw") (mn := "king") rfl rfl ?_
  intro p e s m below meth c T0 X0 hx hby hml hZ hown hnm hret hlk e0
  refine o_entry (ef_1_1 m ) ?_
  have NN := Fr.nil n0
  have ZZ := Z0
  have KK := Keep.refl h0 []
  refine o_bipush X0 hx (pc' := 2) (v := (6 : Int32)) (hb hby d1_0) rfl rfl ?_
  refine o_newarray X0 hx hZ e0 (hw _ (List.mem_of_getElem? (i := 4) rfl)) (hb hby d1_2) (pc' := 4) rfl (by decide) 6 (by decide) (by decide) (by decide) (by decide) ?_
  intro T1 h1 b1 k1 g1 X1 e1 E1 V1
  have g_b1 : n0 ≤ b1 := Nat.le_trans ZZ (Nat.le_of_eq g1.symm)
  have sz_b1 : h0.size ≤ b1 := Nat.le_trans KK.1 (Nat.le_of_eq g1.symm)
  have KK := KK.ext E1
  have ZZ := Nat.le_trans ZZ E1.1
  have v1 : Arv Z h1 b1 k1 .long (6 : Int32) [.long 0, .long 0, .long 0, .long 0, .long 0, .long 0] (.long 0) := V1.pad (pad_rep [] _ 6)
  refine o_astoreN X1 hx (pc' := 5) (Ls' := #[.val (.int (1 : Int32)), .val (.ref b1), .unset]) (hb hby d1_4) rfl rfl rfl ?_
  refine o_aloadN X1 hx (pc' := 6) (hb hby d1_5) rfl rfl rfl ?_
  refine o_iconst X1 hx (pc' := 7) (v := (5 : Int32)) (hb hby d1_6) rfl rfl ?_
  refine o_lconst X1 hx (pc' := 8) (v := (1 : Int64)) (hb hby d1_7) rfl rfl ?_
  refine o_iloadN X1 hx (pc' := 9) (hb hby d1_8) rfl rfl ?_
  refine o_lshl X1 hx (pc' := 10) (hb hby d1_9) rfl ?_
  rw [show ((1 : Int64) <<< ((1 : Int32) &&& 0x3f).toInt64) = (2 : Int64) from by decide +kernel]
  refine o_lastore X1 hx hZ e1 v1 (by decide) 5 rfl (Nat.le_of_ble_eq_true rfl) (hb hby d1_10) (pc' := 11) rfl ?_
  intro T2 h2 X2 e2 W2 V2
  have NN := Fr.snoc X2 NN g_b1
  have KK := KK.wr W2 (Or.inr sz_b1)
  have ZZ := Nat.le_trans ZZ (Keep.of_wr W2).1
  have v1 : Arv Z h2 b1 k1 .long 6 [.long 0, .long 0, .long 0, .long 0, .long 0, .long 2] (.long 0) := V2
  refine o_iconst X2 hx (pc' := 12) (v := (2 : Int32)) (hb hby d1_11) rfl rfl ?_
  refine o_newarray X2 hx hZ e2 (hw _ (List.mem_of_getElem? (i := 4) rfl)) (hb hby d1_12) (pc' := 14) rfl (by decide) 2 (by decide) (by decide) (by decide) (by decide) ?_
  intro T3 h3 b3 k3 g3 X3 e3 E3 V3
  have lt_b1_b3 : b1 < b3 := Nat.lt_of_lt_of_le v1.lt (Nat.le_of_eq g3.symm)
  have ne_b1_b3 : b1 ≠ b3 := Nat.ne_of_lt lt_b1_b3
  have g_b3 : n0 ≤ b3 := Nat.le_trans ZZ (Nat.le_of_eq g3.symm)
  have sz_b3 : h0.size ≤ b3 := Nat.le_trans KK.1 (Nat.le_of_eq g3.symm)
  have KK := KK.ext E3
  have ZZ := Nat.le_trans ZZ E3.1
  have v1 := v1.ext E3
  have v2 : Arv Z h3 b3 k3 .long (2 : Int32) [.long 0, .long 0] (.long 0) := V3.pad (pad_rep [] _ 2)
  refine o_dup X3 hx (pc' := 15) (hb hby d1_14) rfl rfl ?_
  refine o_iconst X3 hx (pc' := 16) (v := (0 : Int32)) (hb hby d1_15) rfl rfl ?_
  refine o_lconst X3 hx (pc' := 17) (v := (1 : Int64)) (hb hby d1_16) rfl rfl ?_
  refine o_iloadN X3 hx (pc' := 18) (hb hby d1_17) rfl rfl ?_
  refine o_lshl X3 hx (pc' := 19) (hb hby d1_18) rfl ?_
  rw [show ((1 : Int64) <<< ((1 : Int32) &&& 0x3f).toInt64) = (2 : Int64) from by decide +kernel]
  refine o_lastore X3 hx hZ e3 v2 (by decide) 0 rfl (Nat.le_of_ble_eq_true rfl) (hb hby d1_19) (pc' := 20) rfl ?_
  intro T4 h4 X4 e4 W4 V4
  have NN := Fr.snoc X4 NN g_b3
  have KK := KK.wr W4 (Or.inr sz_b3)
  have ZZ := Nat.le_trans ZZ (Keep.of_wr W4).1
  have v1 := v1.other W4 ne_b1_b3
  have v2 : Arv Z h4 b3 k3 .long 2 [.long 2, .long 0] (.long 0) := V4
  refine o_dup X4 hx (pc' := 21) (hb hby d1_20) rfl rfl ?_
  refine o_iconst X4 hx (pc' := 22) (v := (1 : Int32)) (hb hby d1_21) rfl rfl ?_
  refine o_lconst X4 hx (pc' := 23) (v := (0 : Int64)) (hb hby d1_22) rfl rfl ?_
  refine o_lastore X4 hx hZ e4 v2 (by decide) 1 rfl (Nat.le_of_ble_eq_true rfl) (hb hby d1_23) (pc' := 24) rfl ?_
  intro T5 h5 X5 e5 W5 V5
  have NN := Fr.snoc X5 NN g_b3
  have KK := KK.wr W5 (Or.inr sz_b3)
  have ZZ := Nat.le_trans ZZ (Keep.of_wr W5).1
  have v1 := v1.other W5 ne_b1_b3
  have v2 : Arv Z h5 b3 k3 .long 2 [.long 2, .long 0] (.long 0) := V5
  refine o_astoreN X5 hx (pc' := 25) (Ls' := #[.val (.int (1 : Int32)), .val (.ref b1), .val (.ref b3)]) (hb hby d1_24) rfl rfl rfl ?_
  refine o_new X5 hx hZ hown (hw _ (List.mem_of_getElem? (i := 5) rfl)) (hw _ (List.mem_of_getElem? (i := 6) rfl)) (hw _ (List.mem_of_getElem? (i := 7) rfl)) e5 (hb hby d1_25) (pc' := 28) rfl (by decide) (by decide) ?_
  intro T6 h6 b6 g6 X6 e6 E6 A6 D6
  have lt_b1_b6 : b1 < b6 := Nat.lt_of_lt_of_le v1.lt (Nat.le_of_eq g6.symm)
  have ne_b1_b6 : b1 ≠ b6 := Nat.ne_of_lt lt_b1_b6
  have lt_b3_b6 : b3 < b6 := Nat.lt_of_lt_of_le v2.lt (Nat.le_of_eq g6.symm)
  have ne_b3_b6 : b3 ≠ b6 := Nat.ne_of_lt lt_b3_b6
  have g_b6 : n0 ≤ b6 := Nat.le_trans ZZ (Nat.le_of_eq g6.symm)
  have sz_b6 : h0.size ≤ b6 := Nat.le_trans KK.1 (Nat.le_of_eq g6.symm)
  have KK := KK.ext E6
  have ZZ := Nat.le_trans ZZ E6.1
  have v1 := v1.ext E6
  have v2 := v2.ext E6
  have hE := A6
  have pPi : Fld Z h6 b6 "com/example/jadoube/jadoube/Position" "pieces" "[J" .null := D6 (Or.inr (hw _ (List.mem_of_getElem? (i := 15) rfl))) (ty := (.array .long)) (by decide)
  have pCo : Fld Z h6 b6 "com/example/jadoube/jadoube/Position" "colours" "[J" .null := D6 (Or.inr (hw _ (List.mem_of_getElem? (i := 17) rfl))) (ty := (.array .long)) (by decide)
  have pSi : Fld Z h6 b6 "com/example/jadoube/jadoube/Position" "sideToMove" "I" (.int 0) := D6 (Or.inr (hw _ (List.mem_of_getElem? (i := 19) rfl))) (ty := .int) (by decide)
  have pCa : Fld Z h6 b6 "com/example/jadoube/jadoube/Position" "castlingRooks" "J" (.long 0) := D6 (Or.inr (hw _ (List.mem_of_getElem? (i := 21) rfl))) (ty := .long) (by decide)
  have pEn : Fld Z h6 b6 "com/example/jadoube/jadoube/Position" "enPassant" "I" (.int 0) := D6 (Or.inr (hw _ (List.mem_of_getElem? (i := 23) rfl))) (ty := .int) (by decide)
  have pHa : Fld Z h6 b6 "com/example/jadoube/jadoube/Position" "halfmoveClock" "I" (.int 0) := D6 (Or.inr (hw _ (List.mem_of_getElem? (i := 25) rfl))) (ty := .int) (by decide)
  have pMo : Fld Z h6 b6 "com/example/jadoube/jadoube/Position" "moveNumber" "I" (.int 0) := D6 (Or.inr (hw _ (List.mem_of_getElem? (i := 27) rfl))) (ty := .int) (by decide)
  have pC9 : Fld Z h6 b6 "com/example/jadoube/jadoube/Position" "chess960" "Z" (.int 0) := D6 (Or.inr (hw _ (List.mem_of_getElem? (i := 29) rfl))) (ty := .boolean) (by decide)
  refine o_dup X6 hx (pc' := 29) (hb hby d1_28) rfl rfl ?_
  refine o_aloadN X6 hx (pc' := 30) (hb hby d1_29) rfl rfl rfl ?_
  refine o_aloadN X6 hx (pc' := 31) (hb hby d1_30) rfl rfl rfl ?_
  refine o_iconst X6 hx (pc' := 32) (v := (0 : Int32)) (hb hby d1_31) rfl rfl ?_
  refine o_lconst X6 hx (pc' := 33) (v := (0 : Int64)) (hb hby d1_32) rfl rfl ?_
  refine o_iconst X6 hx (pc' := 34) (v := (-1 : Int32)) (hb hby d1_33) rfl rfl ?_
  refine o_iconst X6 hx (pc' := 35) (v := (0 : Int32)) (hb hby d1_34) rfl rfl ?_
  refine o_iconst X6 hx (pc' := 36) (v := (1 : Int32)) (hb hby d1_35) rfl rfl ?_
  refine o_iconst X6 hx (pc' := 37) (v := (0 : Int32)) (hb hby d1_36) rfl rfl ?_
  refine o_callI X6 hx hZ b6 [(.ref b1), (.ref b3), (.int (0 : Int32)), (.long (0 : Int64)), (.int (-1 : Int32)), (.int (0 : Int32)), (.int (1 : Int32)), (.int (0 : Int32))] (rm2 l Z a0 hw h6 n0 ZZ b6 b1 b3 hE pPi pCo pSi pCa pEn pHa pMo pC9 g_b6) rfl hown (hw _ (List.mem_of_getElem? (i := 8) rfl)) (hw _ (List.mem_of_getElem? (i := 9) rfl)) (hw _ (List.mem_of_getElem? (i := 7) rfl)) (hw _ (List.mem_of_getElem? (i := 10) rfl)) (by decide) pd_9 e6 (by rw [hml]; rfl) rfl rfl rfl (hb hby d1_37) (pc' := 40) rfl 1 (Nat.le_of_eq rfl) (by decide) (by decide) (by decide) (by decide) ?_
  intro T7 v7 L7 X7 hQ7
  obtain ⟨rfl, Nq, Kq, pPi, pCo, pSi, pCa, pEn, pC9⟩ := hQ7
  have NN := Fr.app NN Nq
  have KK := KK.trans Kq (by intro x hx; simp only [List.mem_cons, List.not_mem_nil, or_false] at hx; subst hx; first | (left; simp; done) | (right; first | exact sz_b1 | exact sz_b3 | exact sz_b6))
  have ZZ := Nat.le_trans ZZ Kq.1
  have v1 := v1.keep Kq (by simp only [List.mem_cons, List.not_mem_nil, or_false, not_or]; exact ne_b1_b6)
  have v2 := v2.keep Kq (by simp only [List.mem_cons, List.not_mem_nil, or_false, not_or]; exact ne_b3_b6)
  have hE := hE.keep Kq
  show Dn p e below _ (T7.setTop (mkF m 40 #[.val (.int (1 : Int32)), .val (.ref b1), .val (.ref b3)] [(.ref b6)]))
  exact finA X7 hx hlk rfl hret rfl rfl (hb hby d1_40) (by decide) (by decide) ⟨b6, rfl, NN, KK, b1, b3, k1, k3, hE.lt, v1.lt, v2.lt, hE, pPi, pCo, pSi, pCa, pEn, pC9, v1, v2⟩
theorem ef_1_2 (m : MethodId)  : entryFrame m #[(.int (2 : Int32))] 3 = mkF m 0 #[.val (.int (2 : Int32)), .unset, .unset] [] := by first | (simp [entryFrame, mkF, argsToLocals, Value.category]; done) | rfl
set_option maxRecDepth 65536 in
set_option maxHeartbeats 40000000 in
theorem rmK2 (l : Launch) (Z : State) (a0 : Array Value) (hw : ∀ d ∈ tables_1, d.before a0 Z = true) (h0 : Heap) (n0 : Nat) (Z0 : n0 ≤ h0.size)   : Ctr l Z (⟨"com/example/jadoube/jadoube/PositionTableMovesToPinLaw", "king", "(I)Lcom/example/jadoube/jadoube/Position;"⟩ : MethodName) method_3_code 3 (some (.object "com/example/jadoube/jadoube/Position")) [] ({ frames := 2, cells := 3, slots := 16, locals := 34 } : Room) #[(.int (2 : Int32))] h0 (fun v h L => ∃ a, v = some (.ref a) ∧ Fr n0 L ∧ Keep h0 h [] ∧ Pos Z h h.size a 4) := by
  refine ctr_mk pn_1 (own := "com/example/jadoube/jadoube/PositionTableMovesToPinLaw") (mn := "king") rfl rfl ?_
  intro p e s m below meth c T0 X0 hx hby hml hZ hown hnm hret hlk e0
  refine o_entry (ef_1_2 m ) ?_
  have NN := Fr.nil n0
  have ZZ := Z0
  have KK := Keep.refl h0 []
  refine o_bipush X0 hx (pc' := 2) (v := (6 : Int32)) (hb hby d1_0) rfl rfl ?_
  refine o_newarray X0 hx hZ e0 (hw _ (List.mem_of_getElem? (i := 4) rfl)) (hb hby d1_2) (pc' := 4) rfl (by decide) 6 (by decide) (by decide) (by decide) (by decide) ?_
  intro T1 h1 b1 k1 g1 X1 e1 E1 V1
  have g_b1 : n0 ≤ b1 := Nat.le_trans ZZ (Nat.le_of_eq g1.symm)
  have sz_b1 : h0.size ≤ b1 := Nat.le_trans KK.1 (Nat.le_of_eq g1.symm)
  have KK := KK.ext E1
  have ZZ := Nat.le_trans ZZ E1.1
  have v1 : Arv Z h1 b1 k1 .long (6 : Int32) [.long 0, .long 0, .long 0, .long 0, .long 0, .long 0] (.long 0) := V1.pad (pad_rep [] _ 6)
  refine o_astoreN X1 hx (pc' := 5) (Ls' := #[.val (.int (2 : Int32)), .val (.ref b1), .unset]) (hb hby d1_4) rfl rfl rfl ?_
  refine o_aloadN X1 hx (pc' := 6) (hb hby d1_5) rfl rfl rfl ?_
  refine o_iconst X1 hx (pc' := 7) (v := (5 : Int32)) (hb hby d1_6) rfl rfl ?_
  refine o_lconst X1 hx (pc' := 8) (v := (1 : Int64)) (hb hby d1_7) rfl rfl ?_
  refine o_iloadN X1 hx (pc' := 9) (hb hby d1_8) rfl rfl ?_
  refine o_lshl X1 hx (pc' := 10) (hb hby d1_9) rfl ?_
  rw [show ((1 : Int64) <<< ((2 : Int32) &&& 0x3f).toInt64) = (4 : Int64) from by decide +kernel]
  refine o_lastore X1 hx hZ e1 v1 (by decide) 5 rfl (Nat.le_of_ble_eq_true rfl) (hb hby d1_10) (pc' := 11) rfl ?_
  intro T2 h2 X2 e2 W2 V2
  have NN := Fr.snoc X2 NN g_b1
  have KK := KK.wr W2 (Or.inr sz_b1)
  have ZZ := Nat.le_trans ZZ (Keep.of_wr W2).1
  have v1 : Arv Z h2 b1 k1 .long 6 [.long 0, .long 0, .long 0, .long 0, .long 0, .long 4] (.long 0) := V2
  refine o_iconst X2 hx (pc' := 12) (v := (2 : Int32)) (hb hby d1_11) rfl rfl ?_
  refine o_newarray X2 hx hZ e2 (hw _ (List.mem_of_getElem? (i := 4) rfl)) (hb hby d1_12) (pc' := 14) rfl (by decide) 2 (by decide) (by decide) (by decide) (by decide) ?_
  intro T3 h3 b3 k3 g3 X3 e3 E3 V3
  have lt_b1_b3 : b1 < b3 := Nat.lt_of_lt_of_le v1.lt (Nat.le_of_eq g3.symm)
  have ne_b1_b3 : b1 ≠ b3 := Nat.ne_of_lt lt_b1_b3
  have g_b3 : n0 ≤ b3 := Nat.le_trans ZZ (Nat.le_of_eq g3.symm)
  have sz_b3 : h0.size ≤ b3 := Nat.le_trans KK.1 (Nat.le_of_eq g3.symm)
  have KK := KK.ext E3
  have ZZ := Nat.le_trans ZZ E3.1
  have v1 := v1.ext E3
  have v2 : Arv Z h3 b3 k3 .long (2 : Int32) [.long 0, .long 0] (.long 0) := V3.pad (pad_rep [] _ 2)
  refine o_dup X3 hx (pc' := 15) (hb hby d1_14) rfl rfl ?_
  refine o_iconst X3 hx (pc' := 16) (v := (0 : Int32)) (hb hby d1_15) rfl rfl ?_
  refine o_lconst X3 hx (pc' := 17) (v := (1 : Int64)) (hb hby d1_16) rfl rfl ?_
  refine o_iloadN X3 hx (pc' := 18) (hb hby d1_17) rfl rfl ?_
  refine o_lshl X3 hx (pc' := 19) (hb hby d1_18) rfl ?_
  rw [show ((1 : Int64) <<< ((2 : Int32) &&& 0x3f).toInt64) = (4 : Int64) from by decide +kernel]
  refine o_lastore X3 hx hZ e3 v2 (by decide) 0 rfl (Nat.le_of_ble_eq_true rfl) (hb hby d1_19) (pc' := 20) rfl ?_
  intro T4 h4 X4 e4 W4 V4
  have NN := Fr.snoc X4 NN g_b3
  have KK := KK.wr W4 (Or.inr sz_b3)
  have ZZ := Nat.le_trans ZZ (Keep.of_wr W4).1
  have v1 := v1.other W4 ne_b1_b3
  have v2 : Arv Z h4 b3 k3 .long 2 [.long 4, .long 0] (.long 0) := V4
  refine o_dup X4 hx (pc' := 21) (hb hby d1_20) rfl rfl ?_
  refine o_iconst X4 hx (pc' := 22) (v := (1 : Int32)) (hb hby d1_21) rfl rfl ?_
  refine o_lconst X4 hx (pc' := 23) (v := (0 : Int64)) (hb hby d1_22) rfl rfl ?_
  refine o_lastore X4 hx hZ e4 v2 (by decide) 1 rfl (Nat.le_of_ble_eq_true rfl) (hb hby d1_23) (pc' := 24) rfl ?_
  intro T5 h5 X5 e5 W5 V5
  have NN := Fr.snoc X5 NN g_b3
  have KK := KK.wr W5 (Or.inr sz_b3)
  have ZZ := Nat.le_trans ZZ (Keep.of_wr W5).1
  have v1 := v1.other W5 ne_b1_b3
  have v2 : Arv Z h5 b3 k3 .long 2 [.long 4, .long 0] (.long 0) := V5
  refine o_astoreN X5 hx (pc' := 25) (Ls' := #[.val (.int (2 : Int32)), .val (.ref b1), .val (.ref b3)]) (hb hby d1_24) rfl rfl rfl ?_
  refine o_new X5 hx hZ hown (hw _ (List.mem_of_getElem? (i := 5) rfl)) (hw _ (List.mem_of_getElem? (i := 6) rfl)) (hw _ (List.mem_of_getElem? (i := 7) rfl)) e5 (hb hby d1_25) (pc' := 28) rfl (by decide) (by decide) ?_
  intro T6 h6 b6 g6 X6 e6 E6 A6 D6
  have lt_b1_b6 : b1 < b6 := Nat.lt_of_lt_of_le v1.lt (Nat.le_of_eq g6.symm)
  have ne_b1_b6 : b1 ≠ b6 := Nat.ne_of_lt lt_b1_b6
  have lt_b3_b6 : b3 < b6 := Nat.lt_of_lt_of_le v2.lt (Nat.le_of_eq g6.symm)
  have ne_b3_b6 : b3 ≠ b6 := Nat.ne_of_lt lt_b3_b6
  have g_b6 : n0 ≤ b6 := Nat.le_trans ZZ (Nat.le_of_eq g6.symm)
  have sz_b6 : h0.size ≤ b6 := Nat.le_trans KK.1 (Nat.le_of_eq g6.symm)
  have KK := KK.ext E6
  have ZZ := Nat.le_trans ZZ E6.1
  have v1 := v1.ext E6
  have v2 := v2.ext E6
  have hE := A6
  have pPi : Fld Z h6 b6 "com/example/jadoube/jadoube/Position" "pieces" "[J" .null := D6 (Or.inr (hw _ (List.mem_of_getElem? (i := 15) rfl))) (ty := (.array .long)) (by decide)
  have pCo : Fld Z h6 b6 "com/example/jadoube/jadoube/Position" "colours" "[J" .null := D6 (Or.inr (hw _ (List.mem_of_getElem? (i := 17) rfl))) (ty := (.array .long)) (by decide)
  have pSi : Fld Z h6 b6 "com/example/jadoube/jadoube/Position" "sideToMove" "I" (.int 0) := D6 (Or.inr (hw _ (List.mem_of_getElem? (i := 19) rfl))) (ty := .int) (by decide)
  have pCa : Fld Z h6 b6 "com/example/jadoube/jadoube/Position" "castlingRooks" "J" (.long 0) := D6 (Or.inr (hw _ (List.mem_of_getElem? (i := 21) rfl))) (ty := .long) (by decide)
  have pEn : Fld Z h6 b6 "com/example/jadoube/jadoube/Position" "enPassant" "I" (.int 0) := D6 (Or.inr (hw _ (List.mem_of_getElem? (i := 23) rfl))) (ty := .int) (by decide)
  have pHa : Fld Z h6 b6 "com/example/jadoube/jadoube/Position" "halfmoveClock" "I" (.int 0) := D6 (Or.inr (hw _ (List.mem_of_getElem? (i := 25) rfl))) (ty := .int) (by decide)
  have pMo : Fld Z h6 b6 "com/example/jadoube/jadoube/Position" "moveNumber" "I" (.int 0) := D6 (Or.inr (hw _ (List.mem_of_getElem? (i := 27) rfl))) (ty := .int) (by decide)
  have pC9 : Fld Z h6 b6 "com/example/jadoube/jadoube/Position" "chess960" "Z" (.int 0) := D6 (Or.inr (hw _ (List.mem_of_getElem? (i := 29) rfl))) (ty := .boolean) (by decide)
  refine o_dup X6 hx (pc' := 29) (hb hby d1_28) rfl rfl ?_
  refine o_aloadN X6 hx (pc' := 30) (hb hby d1_29) rfl rfl rfl ?_
  refine o_aloadN X6 hx (pc' := 31) (hb hby d1_30) rfl rfl rfl ?_
  refine o_iconst X6 hx (pc' := 32) (v := (0 : Int32)) (hb hby d1_31) rfl rfl ?_
  refine o_lconst X6 hx (pc' := 33) (v := (0 : Int64)) (hb hby d1_32) rfl rfl ?_
  refine o_iconst X6 hx (pc' := 34) (v := (-1 : Int32)) (hb hby d1_33) rfl rfl ?_
  refine o_iconst X6 hx (pc' := 35) (v := (0 : Int32)) (hb hby d1_34) rfl rfl ?_
  refine o_iconst X6 hx (pc' := 36) (v := (1 : Int32)) (hb hby d1_35) rfl rfl ?_
  refine o_iconst X6 hx (pc' := 37) (v := (0 : Int32)) (hb hby d1_36) rfl rfl ?_
  refine o_callI X6 hx hZ b6 [(.ref b1), (.ref b3), (.int (0 : Int32)), (.long (0 : Int64)), (.int (-1 : Int32)), (.int (0 : Int32)), (.int (1 : Int32)), (.int (0 : Int32))] (rm2 l Z a0 hw h6 n0 ZZ b6 b1 b3 hE pPi pCo pSi pCa pEn pHa pMo pC9 g_b6) rfl hown (hw _ (List.mem_of_getElem? (i := 8) rfl)) (hw _ (List.mem_of_getElem? (i := 9) rfl)) (hw _ (List.mem_of_getElem? (i := 7) rfl)) (hw _ (List.mem_of_getElem? (i := 10) rfl)) (by decide) pd_9 e6 (by rw [hml]; rfl) rfl rfl rfl (hb hby d1_37) (pc' := 40) rfl 1 (Nat.le_of_eq rfl) (by decide) (by decide) (by decide) (by decide) ?_
  intro T7 v7 L7 X7 hQ7
  obtain ⟨rfl, Nq, Kq, pPi, pCo, pSi, pCa, pEn, pC9⟩ := hQ7
  have NN := Fr.app NN Nq
  have KK := KK.trans Kq (by intro x hx; simp only [List.mem_cons, List.not_mem_nil, or_false] at hx; subst hx; first | (left; simp; done) | (right; first | exact sz_b1 | exact sz_b3 | exact sz_b6))
  have ZZ := Nat.le_trans ZZ Kq.1
  have v1 := v1.keep Kq (by simp only [List.mem_cons, List.not_mem_nil, or_false, not_or]; exact ne_b1_b6)
  have v2 := v2.keep Kq (by simp only [List.mem_cons, List.not_mem_nil, or_false, not_or]; exact ne_b3_b6)
  have hE := hE.keep Kq
  show Dn p e below _ (T7.setTop (mkF m 40 #[.val (.int (2 : Int32)), .val (.ref b1), .val (.ref b3)] [(.ref b6)]))
  exact finA X7 hx hlk rfl hret rfl rfl (hb hby d1_40) (by decide) (by decide) ⟨b6, rfl, NN, KK, b1, b3, k1, k3, hE.lt, v1.lt, v2.lt, hE, pPi, pCo, pSi, pCa, pEn, pC9, v1, v2⟩
theorem ef_1_3 (m : MethodId)  : entryFrame m #[(.int (3 : Int32))] 3 = mkF m 0 #[.val (.int (3 : Int32)), .unset, .unset] [] := by first | (simp [entryFrame, mkF, argsToLocals, Value.category]; done) | rfl
set_option maxRecDepth 65536 in
set_option maxHeartbeats 40000000 in
theorem rmK3 (l : Launch) (Z : State) (a0 : Array Value) (hw : ∀ d ∈ tables_1, d.before a0 Z = true) (h0 : Heap) (n0 : Nat) (Z0 : n0 ≤ h0.size)   : Ctr l Z (⟨"com/example/jadoube/jadoube/PositionTableMovesToPinLaw", "king", "(I)Lcom/example/jadoube/jadoube/Position;"⟩ : MethodName) method_3_code 3 (some (.object "com/example/jadoube/jadoube/Position")) [] ({ frames := 2, cells := 3, slots := 16, locals := 34 } : Room) #[(.int (3 : Int32))] h0 (fun v h L => ∃ a, v = some (.ref a) ∧ Fr n0 L ∧ Keep h0 h [] ∧ Pos Z h h.size a 8) := by
  refine ctr_mk pn_1 (own := "com/example/jadoube/jadoube/PositionTableMovesToPinLaw") (mn := "king") rfl rfl ?_
  intro p e s m below meth c T0 X0 hx hby hml hZ hown hnm hret hlk e0
  refine o_entry (ef_1_3 m ) ?_
  have NN := Fr.nil n0
  have ZZ := Z0
  have KK := Keep.refl h0 []
  refine o_bipush X0 hx (pc' := 2) (v := (6 : Int32)) (hb hby d1_0) rfl rfl ?_
  refine o_newarray X0 hx hZ e0 (hw _ (List.mem_of_getElem? (i := 4) rfl)) (hb hby d1_2) (pc' := 4) rfl (by decide) 6 (by decide) (by decide) (by decide) (by decide) ?_
  intro T1 h1 b1 k1 g1 X1 e1 E1 V1
  have g_b1 : n0 ≤ b1 := Nat.le_trans ZZ (Nat.le_of_eq g1.symm)
  have sz_b1 : h0.size ≤ b1 := Nat.le_trans KK.1 (Nat.le_of_eq g1.symm)
  have KK := KK.ext E1
  have ZZ := Nat.le_trans ZZ E1.1
  have v1 : Arv Z h1 b1 k1 .long (6 : Int32) [.long 0, .long 0, .long 0, .long 0, .long 0, .long 0] (.long 0) := V1.pad (pad_rep [] _ 6)
  refine o_astoreN X1 hx (pc' := 5) (Ls' := #[.val (.int (3 : Int32)), .val (.ref b1), .unset]) (hb hby d1_4) rfl rfl rfl ?_
  refine o_aloadN X1 hx (pc' := 6) (hb hby d1_5) rfl rfl rfl ?_
  refine o_iconst X1 hx (pc' := 7) (v := (5 : Int32)) (hb hby d1_6) rfl rfl ?_
  refine o_lconst X1 hx (pc' := 8) (v := (1 : Int64)) (hb hby d1_7) rfl rfl ?_
  refine o_iloadN X1 hx (pc' := 9) (hb hby d1_8) rfl rfl ?_
  refine o_lshl X1 hx (pc' := 10) (hb hby d1_9) rfl ?_
  rw [show ((1 : Int64) <<< ((3 : Int32) &&& 0x3f).toInt64) = (8 : Int64) from by decide +kernel]
  refine o_lastore X1 hx hZ e1 v1 (by decide) 5 rfl (Nat.le_of_ble_eq_true rfl) (hb hby d1_10) (pc' := 11) rfl ?_
  intro T2 h2 X2 e2 W2 V2
  have NN := Fr.snoc X2 NN g_b1
  have KK := KK.wr W2 (Or.inr sz_b1)
  have ZZ := Nat.le_trans ZZ (Keep.of_wr W2).1
  have v1 : Arv Z h2 b1 k1 .long 6 [.long 0, .long 0, .long 0, .long 0, .long 0, .long 8] (.long 0) := V2
  refine o_iconst X2 hx (pc' := 12) (v := (2 : Int32)) (hb hby d1_11) rfl rfl ?_
  refine o_newarray X2 hx hZ e2 (hw _ (List.mem_of_getElem? (i := 4) rfl)) (hb hby d1_12) (pc' := 14) rfl (by decide) 2 (by decide) (by decide) (by decide) (by decide) ?_
  intro T3 h3 b3 k3 g3 X3 e3 E3 V3
  have lt_b1_b3 : b1 < b3 := Nat.lt_of_lt_of_le v1.lt (Nat.le_of_eq g3.symm)
  have ne_b1_b3 : b1 ≠ b3 := Nat.ne_of_lt lt_b1_b3
  have g_b3 : n0 ≤ b3 := Nat.le_trans ZZ (Nat.le_of_eq g3.symm)
  have sz_b3 : h0.size ≤ b3 := Nat.le_trans KK.1 (Nat.le_of_eq g3.symm)
  have KK := KK.ext E3
  have ZZ := Nat.le_trans ZZ E3.1
  have v1 := v1.ext E3
  have v2 : Arv Z h3 b3 k3 .long (2 : Int32) [.long 0, .long 0] (.long 0) := V3.pad (pad_rep [] _ 2)
  refine o_dup X3 hx (pc' := 15) (hb hby d1_14) rfl rfl ?_
  refine o_iconst X3 hx (pc' := 16) (v := (0 : Int32)) (hb hby d1_15) rfl rfl ?_
  refine o_lconst X3 hx (pc' := 17) (v := (1 : Int64)) (hb hby d1_16) rfl rfl ?_
  refine o_iloadN X3 hx (pc' := 18) (hb hby d1_17) rfl rfl ?_
  refine o_lshl X3 hx (pc' := 19) (hb hby d1_18) rfl ?_
  rw [show ((1 : Int64) <<< ((3 : Int32) &&& 0x3f).toInt64) = (8 : Int64) from by decide +kernel]
  refine o_lastore X3 hx hZ e3 v2 (by decide) 0 rfl (Nat.le_of_ble_eq_true rfl) (hb hby d1_19) (pc' := 20) rfl ?_
  intro T4 h4 X4 e4 W4 V4
  have NN := Fr.snoc X4 NN g_b3
  have KK := KK.wr W4 (Or.inr sz_b3)
  have ZZ := Nat.le_trans ZZ (Keep.of_wr W4).1
  have v1 := v1.other W4 ne_b1_b3
  have v2 : Arv Z h4 b3 k3 .long 2 [.long 8, .long 0] (.long 0) := V4
  refine o_dup X4 hx (pc' := 21) (hb hby d1_20) rfl rfl ?_
  refine o_iconst X4 hx (pc' := 22) (v := (1 : Int32)) (hb hby d1_21) rfl rfl ?_
  refine o_lconst X4 hx (pc' := 23) (v := (0 : Int64)) (hb hby d1_22) rfl rfl ?_
  refine o_lastore X4 hx hZ e4 v2 (by decide) 1 rfl (Nat.le_of_ble_eq_true rfl) (hb hby d1_23) (pc' := 24) rfl ?_
  intro T5 h5 X5 e5 W5 V5
  have NN := Fr.snoc X5 NN g_b3
  have KK := KK.wr W5 (Or.inr sz_b3)
  have ZZ := Nat.le_trans ZZ (Keep.of_wr W5).1
  have v1 := v1.other W5 ne_b1_b3
  have v2 : Arv Z h5 b3 k3 .long 2 [.long 8, .long 0] (.long 0) := V5
  refine o_astoreN X5 hx (pc' := 25) (Ls' := #[.val (.int (3 : Int32)), .val (.ref b1), .val (.ref b3)]) (hb hby d1_24) rfl rfl rfl ?_
  refine o_new X5 hx hZ hown (hw _ (List.mem_of_getElem? (i := 5) rfl)) (hw _ (List.mem_of_getElem? (i := 6) rfl)) (hw _ (List.mem_of_getElem? (i := 7) rfl)) e5 (hb hby d1_25) (pc' := 28) rfl (by decide) (by decide) ?_
  intro T6 h6 b6 g6 X6 e6 E6 A6 D6
  have lt_b1_b6 : b1 < b6 := Nat.lt_of_lt_of_le v1.lt (Nat.le_of_eq g6.symm)
  have ne_b1_b6 : b1 ≠ b6 := Nat.ne_of_lt lt_b1_b6
  have lt_b3_b6 : b3 < b6 := Nat.lt_of_lt_of_le v2.lt (Nat.le_of_eq g6.symm)
  have ne_b3_b6 : b3 ≠ b6 := Nat.ne_of_lt lt_b3_b6
  have g_b6 : n0 ≤ b6 := Nat.le_trans ZZ (Nat.le_of_eq g6.symm)
  have sz_b6 : h0.size ≤ b6 := Nat.le_trans KK.1 (Nat.le_of_eq g6.symm)
  have KK := KK.ext E6
  have ZZ := Nat.le_trans ZZ E6.1
  have v1 := v1.ext E6
  have v2 := v2.ext E6
  have hE := A6
  have pPi : Fld Z h6 b6 "com/example/jadoube/jadoube/Position" "pieces" "[J" .null := D6 (Or.inr (hw _ (List.mem_of_getElem? (i := 15) rfl))) (ty := (.array .long)) (by decide)
  have pCo : Fld Z h6 b6 "com/example/jadoube/jadoube/Position" "colours" "[J" .null := D6 (Or.inr (hw _ (List.mem_of_getElem? (i := 17) rfl))) (ty := (.array .long)) (by decide)
  have pSi : Fld Z h6 b6 "com/example/jadoube/jadoube/Position" "sideToMove" "I" (.int 0) := D6 (Or.inr (hw _ (List.mem_of_getElem? (i := 19) rfl))) (ty := .int) (by decide)
  have pCa : Fld Z h6 b6 "com/example/jadoube/jadoube/Position" "castlingRooks" "J" (.long 0) := D6 (Or.inr (hw _ (List.mem_of_getElem? (i := 21) rfl))) (ty := .long) (by decide)
  have pEn : Fld Z h6 b6 "com/example/jadoube/jadoube/Position" "enPassant" "I" (.int 0) := D6 (Or.inr (hw _ (List.mem_of_getElem? (i := 23) rfl))) (ty := .int) (by decide)
  have pHa : Fld Z h6 b6 "com/example/jadoube/jadoube/Position" "halfmoveClock" "I" (.int 0) := D6 (Or.inr (hw _ (List.mem_of_getElem? (i := 25) rfl))) (ty := .int) (by decide)
  have pMo : Fld Z h6 b6 "com/example/jadoube/jadoube/Position" "moveNumber" "I" (.int 0) := D6 (Or.inr (hw _ (List.mem_of_getElem? (i := 27) rfl))) (ty := .int) (by decide)
  have pC9 : Fld Z h6 b6 "com/example/jadoube/jadoube/Position" "chess960" "Z" (.int 0) := D6 (Or.inr (hw _ (List.mem_of_getElem? (i := 29) rfl))) (ty := .boolean) (by decide)
  refine o_dup X6 hx (pc' := 29) (hb hby d1_28) rfl rfl ?_
  refine o_aloadN X6 hx (pc' := 30) (hb hby d1_29) rfl rfl rfl ?_
  refine o_aloadN X6 hx (pc' := 31) (hb hby d1_30) rfl rfl rfl ?_
  refine o_iconst X6 hx (pc' := 32) (v := (0 : Int32)) (hb hby d1_31) rfl rfl ?_
  refine o_lconst X6 hx (pc' := 33) (v := (0 : Int64)) (hb hby d1_32) rfl rfl ?_
  refine o_iconst X6 hx (pc' := 34) (v := (-1 : Int32)) (hb hby d1_33) rfl rfl ?_
  refine o_iconst X6 hx (pc' := 35) (v := (0 : Int32)) (hb hby d1_34) rfl rfl ?_
  refine o_iconst X6 hx (pc' := 36) (v := (1 : Int32)) (hb hby d1_35) rfl rfl ?_
  refine o_iconst X6 hx (pc' := 37) (v := (0 : Int32)) (hb hby d1_36) rfl rfl ?_
  refine o_callI X6 hx hZ b6 [(.ref b1), (.ref b3), (.int (0 : Int32)), (.long (0 : Int64)), (.int (-1 : Int32)), (.int (0 : Int32)), (.int (1 : Int32)), (.int (0 : Int32))] (rm2 l Z a0 hw h6 n0 ZZ b6 b1 b3 hE pPi pCo pSi pCa pEn pHa pMo pC9 g_b6) rfl hown (hw _ (List.mem_of_getElem? (i := 8) rfl)) (hw _ (List.mem_of_getElem? (i := 9) rfl)) (hw _ (List.mem_of_getElem? (i := 7) rfl)) (hw _ (List.mem_of_getElem? (i := 10) rfl)) (by decide) pd_9 e6 (by rw [hml]; rfl) rfl rfl rfl (hb hby d1_37) (pc' := 40) rfl 1 (Nat.le_of_eq rfl) (by decide) (by decide) (by decide) (by decide) ?_
  intro T7 v7 L7 X7 hQ7
  obtain ⟨rfl, Nq, Kq, pPi, pCo, pSi, pCa, pEn, pC9⟩ := hQ7
  have NN := Fr.app NN Nq
  have KK := KK.trans Kq (by intro x hx; simp only [List.mem_cons, List.not_mem_nil, or_false] at hx; subst hx; first | (left; simp; done) | (right; first | exact sz_b1 | exact sz_b3 | exact sz_b6))
  have ZZ := Nat.le_trans ZZ Kq.1
  have v1 := v1.keep Kq (by simp only [List.mem_cons, List.not_mem_nil, or_false, not_or]; exact ne_b1_b6)
  have v2 := v2.keep Kq (by simp only [List.mem_cons, List.not_mem_nil, or_false, not_or]; exact ne_b3_b6)
  have hE := hE.keep Kq
  show Dn p e below _ (T7.setTop (mkF m 40 #[.val (.int (3 : Int32)), .val (.ref b1), .val (.ref b3)] [(.ref b6)]))
  exact finA X7 hx hlk rfl hret rfl rfl (hb hby d1_40) (by decide) (by decide) ⟨b6, rfl, NN, KK, b1, b3, k1, k3, hE.lt, v1.lt, v2.lt, hE, pPi, pCo, pSi, pCa, pEn, pC9, v1, v2⟩
theorem pd_10 : parseMethodDescriptor "()V" = some ⟨[], none⟩ := by decide +kernel
theorem d7_0 : decode jdk_35_method_50_code 0 = .ok (.lload_n 0, 1) := by decide +kernel
theorem d7_1 : decode jdk_35_method_50_code 1 = .ok (.lload_n 0, 1) := by decide +kernel
theorem d7_2 : decode jdk_35_method_50_code 2 = .ok (.iconst 1, 1) := by decide +kernel
theorem d7_3 : decode jdk_35_method_50_code 3 = .ok (.lushr, 1) := by decide +kernel
theorem d7_4 : decode jdk_35_method_50_code 4 = .ok (.ldc2_w 314, 3) := by decide +kernel
theorem d7_7 : decode jdk_35_method_50_code 7 = .ok (.land, 1) := by decide +kernel
theorem d7_8 : decode jdk_35_method_50_code 8 = .ok (.lsub, 1) := by decide +kernel
theorem d7_9 : decode jdk_35_method_50_code 9 = .ok (.lstore_n 0, 1) := by decide +kernel
theorem d7_10 : decode jdk_35_method_50_code 10 = .ok (.lload_n 0, 1) := by decide +kernel
theorem d7_11 : decode jdk_35_method_50_code 11 = .ok (.ldc2_w 316, 3) := by decide +kernel
theorem d7_14 : decode jdk_35_method_50_code 14 = .ok (.land, 1) := by decide +kernel
theorem d7_15 : decode jdk_35_method_50_code 15 = .ok (.lload_n 0, 1) := by decide +kernel
theorem d7_16 : decode jdk_35_method_50_code 16 = .ok (.iconst 2, 1) := by decide +kernel
theorem d7_17 : decode jdk_35_method_50_code 17 = .ok (.lushr, 1) := by decide +kernel
theorem d7_18 : decode jdk_35_method_50_code 18 = .ok (.ldc2_w 316, 3) := by decide +kernel
theorem d7_21 : decode jdk_35_method_50_code 21 = .ok (.land, 1) := by decide +kernel
theorem d7_22 : decode jdk_35_method_50_code 22 = .ok (.ladd, 1) := by decide +kernel
theorem d7_23 : decode jdk_35_method_50_code 23 = .ok (.lstore_n 0, 1) := by decide +kernel
theorem d7_24 : decode jdk_35_method_50_code 24 = .ok (.lload_n 0, 1) := by decide +kernel
theorem d7_25 : decode jdk_35_method_50_code 25 = .ok (.lload_n 0, 1) := by decide +kernel
theorem d7_26 : decode jdk_35_method_50_code 26 = .ok (.iconst 4, 1) := by decide +kernel
theorem d7_27 : decode jdk_35_method_50_code 27 = .ok (.lushr, 1) := by decide +kernel
theorem d7_28 : decode jdk_35_method_50_code 28 = .ok (.ladd, 1) := by decide +kernel
theorem d7_29 : decode jdk_35_method_50_code 29 = .ok (.ldc2_w 318, 3) := by decide +kernel
theorem d7_32 : decode jdk_35_method_50_code 32 = .ok (.land, 1) := by decide +kernel
theorem d7_33 : decode jdk_35_method_50_code 33 = .ok (.lstore_n 0, 1) := by decide +kernel
theorem d7_34 : decode jdk_35_method_50_code 34 = .ok (.lload_n 0, 1) := by decide +kernel
theorem d7_35 : decode jdk_35_method_50_code 35 = .ok (.lload_n 0, 1) := by decide +kernel
theorem d7_36 : decode jdk_35_method_50_code 36 = .ok (.bipush 8, 2) := by decide +kernel
theorem d7_38 : decode jdk_35_method_50_code 38 = .ok (.lushr, 1) := by decide +kernel
theorem d7_39 : decode jdk_35_method_50_code 39 = .ok (.ladd, 1) := by decide +kernel
theorem d7_40 : decode jdk_35_method_50_code 40 = .ok (.lstore_n 0, 1) := by decide +kernel
theorem d7_41 : decode jdk_35_method_50_code 41 = .ok (.lload_n 0, 1) := by decide +kernel
theorem d7_42 : decode jdk_35_method_50_code 42 = .ok (.lload_n 0, 1) := by decide +kernel
theorem d7_43 : decode jdk_35_method_50_code 43 = .ok (.bipush 16, 2) := by decide +kernel
theorem d7_45 : decode jdk_35_method_50_code 45 = .ok (.lushr, 1) := by decide +kernel
theorem d7_46 : decode jdk_35_method_50_code 46 = .ok (.ladd, 1) := by decide +kernel
theorem d7_47 : decode jdk_35_method_50_code 47 = .ok (.lstore_n 0, 1) := by decide +kernel
theorem d7_48 : decode jdk_35_method_50_code 48 = .ok (.lload_n 0, 1) := by decide +kernel
theorem d7_49 : decode jdk_35_method_50_code 49 = .ok (.lload_n 0, 1) := by decide +kernel
theorem d7_50 : decode jdk_35_method_50_code 50 = .ok (.bipush 32, 2) := by decide +kernel
theorem d7_52 : decode jdk_35_method_50_code 52 = .ok (.lushr, 1) := by decide +kernel
theorem d7_53 : decode jdk_35_method_50_code 53 = .ok (.ladd, 1) := by decide +kernel
theorem d7_54 : decode jdk_35_method_50_code 54 = .ok (.lstore_n 0, 1) := by decide +kernel
theorem d7_55 : decode jdk_35_method_50_code 55 = .ok (.lload_n 0, 1) := by decide +kernel
theorem d7_56 : decode jdk_35_method_50_code 56 = .ok (.l2i, 1) := by decide +kernel
theorem d7_57 : decode jdk_35_method_50_code 57 = .ok (.bipush 127, 2) := by decide +kernel
theorem d7_59 : decode jdk_35_method_50_code 59 = .ok (.iand, 1) := by decide +kernel
theorem d7_60 : decode jdk_35_method_50_code 60 = .ok (.ireturn, 1) := by decide +kernel
theorem pn_7 : plainFor (⟨"java/lang/Long", "bitCount", "(J)I"⟩ : MethodName) = true := plainFor_of_name (by show plainName "java/lang/Long" = true; first | (simp [plainName, overriddenIn]; done) | decide +kernel)
theorem ef_7_1 (m : MethodId)  : entryFrame m #[(.long (1 : Int64))] 2 = mkF m 0 #[.val (.long (1 : Int64)), .second] [] := by first | (simp [entryFrame, mkF, argsToLocals, Value.category]; done) | rfl
set_option maxRecDepth 65536 in
set_option maxHeartbeats 40000000 in
theorem rmP7_1 (l : Launch) (Z : State) (a0 : Array Value) (hw : ∀ d ∈ tables_1, d.before a0 Z = true) (h0 : Heap) (n0 : Nat) (Z0 : n0 ≤ h0.size)   : Ctr l Z (⟨"java/lang/Long", "bitCount", "(J)I"⟩ : MethodName) jdk_35_method_50_code 2 (some .int) [] ({ frames := 0, cells := 0, slots := 0, locals := 0 } : Room) #[(.long (1 : Int64))] h0 (Pure ((.int (1 : Int32))) h0) := by
  refine ctr_mk pn_7 (own := "java/lang/Long") (mn := "bitCount") rfl rfl ?_
  intro p e s m below meth c T0 X0 hx hby hml hZ hown hnm hret hlk e0
  refine o_entry (ef_7_1 m ) ?_
  refine o_lloadN X0 hx (pc' := 1) (hb hby d7_0) rfl rfl ?_
  refine o_lloadN X0 hx (pc' := 2) (hb hby d7_1) rfl rfl ?_
  refine o_iconst X0 hx (pc' := 3) (v := (1 : Int32)) (hb hby d7_2) rfl rfl ?_
  refine o_lushr X0 hx (pc' := 4) (hb hby d7_3) rfl ?_
  rw [show (((1 : Int64).toUInt64 >>> ((1 : Int32) &&& 0x3f).toInt64.toUInt64).toInt64) = (0 : Int64) from by decide +kernel]
  refine o_ldc2 X0 hx hZ hown (hw _ (List.mem_of_getElem? (i := 55) rfl)) (pc' := 7) (hb hby d7_4) rfl ?_
  refine o_land X0 hx (pc' := 8) (hb hby d7_7) rfl ?_
  rw [show ((0 : Int64) &&& (6148914691236517205 : Int64)) = (0 : Int64) from by decide +kernel]
  refine o_lsub X0 hx (pc' := 9) (hb hby d7_8) rfl ?_
  rw [show ((1 : Int64) - (0 : Int64)) = (1 : Int64) from by decide +kernel]
  refine o_lstoreN X0 hx (pc' := 10) (Ls' := #[.val (.long (1 : Int64)), .second]) (hb hby d7_9) rfl rfl ?_
  refine o_lloadN X0 hx (pc' := 11) (hb hby d7_10) rfl rfl ?_
  refine o_ldc2 X0 hx hZ hown (hw _ (List.mem_of_getElem? (i := 56) rfl)) (pc' := 14) (hb hby d7_11) rfl ?_
  refine o_land X0 hx (pc' := 15) (hb hby d7_14) rfl ?_
  rw [show ((1 : Int64) &&& (3689348814741910323 : Int64)) = (1 : Int64) from by decide +kernel]
  refine o_lloadN X0 hx (pc' := 16) (hb hby d7_15) rfl rfl ?_
  refine o_iconst X0 hx (pc' := 17) (v := (2 : Int32)) (hb hby d7_16) rfl rfl ?_
  refine o_lushr X0 hx (pc' := 18) (hb hby d7_17) rfl ?_
  rw [show (((1 : Int64).toUInt64 >>> ((2 : Int32) &&& 0x3f).toInt64.toUInt64).toInt64) = (0 : Int64) from by decide +kernel]
  refine o_ldc2 X0 hx hZ hown (hw _ (List.mem_of_getElem? (i := 56) rfl)) (pc' := 21) (hb hby d7_18) rfl ?_
  refine o_land X0 hx (pc' := 22) (hb hby d7_21) rfl ?_
  rw [show ((0 : Int64) &&& (3689348814741910323 : Int64)) = (0 : Int64) from by decide +kernel]
  refine o_ladd X0 hx (pc' := 23) (hb hby d7_22) rfl ?_
  rw [show ((1 : Int64) + (0 : Int64)) = (1 : Int64) from by decide +kernel]
  refine o_lstoreN X0 hx (pc' := 24) (Ls' := #[.val (.long (1 : Int64)), .second]) (hb hby d7_23) rfl rfl ?_
  refine o_lloadN X0 hx (pc' := 25) (hb hby d7_24) rfl rfl ?_
  refine o_lloadN X0 hx (pc' := 26) (hb hby d7_25) rfl rfl ?_
  refine o_iconst X0 hx (pc' := 27) (v := (4 : Int32)) (hb hby d7_26) rfl rfl ?_
  refine o_lushr X0 hx (pc' := 28) (hb hby d7_27) rfl ?_
  rw [show (((1 : Int64).toUInt64 >>> ((4 : Int32) &&& 0x3f).toInt64.toUInt64).toInt64) = (0 : Int64) from by decide +kernel]
  refine o_ladd X0 hx (pc' := 29) (hb hby d7_28) rfl ?_
  rw [show ((1 : Int64) + (0 : Int64)) = (1 : Int64) from by decide +kernel]
  refine o_ldc2 X0 hx hZ hown (hw _ (List.mem_of_getElem? (i := 57) rfl)) (pc' := 32) (hb hby d7_29) rfl ?_
  refine o_land X0 hx (pc' := 33) (hb hby d7_32) rfl ?_
  rw [show ((1 : Int64) &&& (1085102592571150095 : Int64)) = (1 : Int64) from by decide +kernel]
  refine o_lstoreN X0 hx (pc' := 34) (Ls' := #[.val (.long (1 : Int64)), .second]) (hb hby d7_33) rfl rfl ?_
  refine o_lloadN X0 hx (pc' := 35) (hb hby d7_34) rfl rfl ?_
  refine o_lloadN X0 hx (pc' := 36) (hb hby d7_35) rfl rfl ?_
  refine o_bipush X0 hx (pc' := 38) (v := (8 : Int32)) (hb hby d7_36) rfl rfl ?_
  refine o_lushr X0 hx (pc' := 39) (hb hby d7_38) rfl ?_
  rw [show (((1 : Int64).toUInt64 >>> ((8 : Int32) &&& 0x3f).toInt64.toUInt64).toInt64) = (0 : Int64) from by decide +kernel]
  refine o_ladd X0 hx (pc' := 40) (hb hby d7_39) rfl ?_
  rw [show ((1 : Int64) + (0 : Int64)) = (1 : Int64) from by decide +kernel]
  refine o_lstoreN X0 hx (pc' := 41) (Ls' := #[.val (.long (1 : Int64)), .second]) (hb hby d7_40) rfl rfl ?_
  refine o_lloadN X0 hx (pc' := 42) (hb hby d7_41) rfl rfl ?_
  refine o_lloadN X0 hx (pc' := 43) (hb hby d7_42) rfl rfl ?_
  refine o_bipush X0 hx (pc' := 45) (v := (16 : Int32)) (hb hby d7_43) rfl rfl ?_
  refine o_lushr X0 hx (pc' := 46) (hb hby d7_45) rfl ?_
  rw [show (((1 : Int64).toUInt64 >>> ((16 : Int32) &&& 0x3f).toInt64.toUInt64).toInt64) = (0 : Int64) from by decide +kernel]
  refine o_ladd X0 hx (pc' := 47) (hb hby d7_46) rfl ?_
  rw [show ((1 : Int64) + (0 : Int64)) = (1 : Int64) from by decide +kernel]
  refine o_lstoreN X0 hx (pc' := 48) (Ls' := #[.val (.long (1 : Int64)), .second]) (hb hby d7_47) rfl rfl ?_
  refine o_lloadN X0 hx (pc' := 49) (hb hby d7_48) rfl rfl ?_
  refine o_lloadN X0 hx (pc' := 50) (hb hby d7_49) rfl rfl ?_
  refine o_bipush X0 hx (pc' := 52) (v := (32 : Int32)) (hb hby d7_50) rfl rfl ?_
  refine o_lushr X0 hx (pc' := 53) (hb hby d7_52) rfl ?_
  rw [show (((1 : Int64).toUInt64 >>> ((32 : Int32) &&& 0x3f).toInt64.toUInt64).toInt64) = (0 : Int64) from by decide +kernel]
  refine o_ladd X0 hx (pc' := 54) (hb hby d7_53) rfl ?_
  rw [show ((1 : Int64) + (0 : Int64)) = (1 : Int64) from by decide +kernel]
  refine o_lstoreN X0 hx (pc' := 55) (Ls' := #[.val (.long (1 : Int64)), .second]) (hb hby d7_54) rfl rfl ?_
  refine o_lloadN X0 hx (pc' := 56) (hb hby d7_55) rfl rfl ?_
  refine o_l2i X0 hx (pc' := 57) (hb hby d7_56) rfl ?_
  rw [show ((1 : Int64).toInt32) = (1 : Int32) from by decide +kernel]
  refine o_bipush X0 hx (pc' := 59) (v := (127 : Int32)) (hb hby d7_57) rfl rfl ?_
  refine o_iand X0 hx (pc' := 60) (hb hby d7_59) rfl ?_
  rw [show ((1 : Int32) &&& (127 : Int32)) = (1 : Int32) from by decide +kernel]
  exact finI X0 hx hlk hret (hb hby d7_60) (by decide) (by decide) ⟨rfl, rfl, e0⟩
theorem pd_11 : parseMethodDescriptor "()J" = some ⟨[], some .long⟩ := by decide +kernel
theorem pd_12 : parseMethodDescriptor "()Z" = some ⟨[], some .boolean⟩ := by decide +kernel
theorem d4_0 : decode prog_33_method_1_code 0 = .ok (.aload_n 0, 1) := by decide +kernel
theorem d4_1 : decode prog_33_method_1_code 1 = .ok (.invokespecial 3, 3) := by decide +kernel
theorem d4_4 : decode prog_33_method_1_code 4 = .ok (.aload_n 0, 1) := by decide +kernel
theorem d4_5 : decode prog_33_method_1_code 5 = .ok (.new 9, 3) := by decide +kernel
theorem d4_8 : decode prog_33_method_1_code 8 = .ok (.dup, 1) := by decide +kernel
theorem d4_9 : decode prog_33_method_1_code 9 = .ok (.invokespecial 11, 3) := by decide +kernel
theorem d4_12 : decode prog_33_method_1_code 12 = .ok (.putfield 12, 3) := by decide +kernel
theorem d4_15 : decode prog_33_method_1_code 15 = .ok (.aload_n 1, 1) := by decide +kernel
theorem d4_16 : decode prog_33_method_1_code 16 = .ok (.iconst 0, 1) := by decide +kernel
theorem d4_17 : decode prog_33_method_1_code 17 = .ok (.invokevirtual 18, 3) := by decide +kernel
theorem d4_20 : decode prog_33_method_1_code 20 = .ok (.aload_n 1, 1) := by decide +kernel
theorem d4_21 : decode prog_33_method_1_code 21 = .ok (.iconst 1, 1) := by decide +kernel
theorem d4_22 : decode prog_33_method_1_code 22 = .ok (.invokevirtual 18, 3) := by decide +kernel
theorem d4_25 : decode prog_33_method_1_code 25 = .ok (.lor, 1) := by decide +kernel
theorem d4_26 : decode prog_33_method_1_code 26 = .ok (.invokestatic 22, 3) := by decide +kernel
theorem d4_29 : decode prog_33_method_1_code 29 = .ok (.istore_n 2, 1) := by decide +kernel
theorem d4_30 : decode prog_33_method_1_code 30 = .ok (.aload_n 0, 1) := by decide +kernel
theorem d4_31 : decode prog_33_method_1_code 31 = .ok (.iconst 1, 1) := by decide +kernel
theorem d4_32 : decode prog_33_method_1_code 32 = .ok (.iconst 4, 1) := by decide +kernel
theorem d4_33 : decode prog_33_method_1_code 33 = .ok (.iload_n 2, 1) := by decide +kernel
theorem d4_34 : decode prog_33_method_1_code 34 = .ok (.imul, 1) := by decide +kernel
theorem d4_35 : decode prog_33_method_1_code 35 = .ok (.bipush 9, 2) := by decide +kernel
theorem d4_37 : decode prog_33_method_1_code 37 = .ok (.iadd, 1) := by decide +kernel
theorem d4_38 : decode prog_33_method_1_code 38 = .ok (.bipush 63, 2) := by decide +kernel
theorem d4_40 : decode prog_33_method_1_code 40 = .ok (.iadd, 1) := by decide +kernel
theorem d4_41 : decode prog_33_method_1_code 41 = .ok (.bipush 64, 2) := by decide +kernel
theorem d4_43 : decode prog_33_method_1_code 43 = .ok (.idiv, 1) := by decide +kernel
theorem d4_44 : decode prog_33_method_1_code 44 = .ok (.iadd, 1) := by decide +kernel
theorem d4_45 : decode prog_33_method_1_code 45 = .ok (.putfield 28, 3) := by decide +kernel
theorem d4_48 : decode prog_33_method_1_code 48 = .ok (.aload_n 0, 1) := by decide +kernel
theorem d4_49 : decode prog_33_method_1_code 49 = .ok (.aload_n 1, 1) := by decide +kernel
theorem d4_50 : decode prog_33_method_1_code 50 = .ok (.invokevirtual 32, 3) := by decide +kernel
theorem d4_53 : decode prog_33_method_1_code 53 = .ok (.putfield 36, 3) := by decide +kernel
theorem d4_56 : decode prog_33_method_1_code 56 = .ok (.aload_n 0, 1) := by decide +kernel
theorem d4_57 : decode prog_33_method_1_code 57 = .ok (.aload_n 1, 1) := by decide +kernel
theorem d4_58 : decode prog_33_method_1_code 58 = .ok (.invokevirtual 39, 3) := by decide +kernel
theorem d4_61 : decode prog_33_method_1_code 61 = .ok (.putfield 43, 3) := by decide +kernel
theorem d4_64 : decode prog_33_method_1_code 64 = .ok (.aload_n 0, 1) := by decide +kernel
theorem d4_65 : decode prog_33_method_1_code 65 = .ok (.aload_n 0, 1) := by decide +kernel
theorem d4_66 : decode prog_33_method_1_code 66 = .ok (.getfield 28, 3) := by decide +kernel
theorem d4_69 : decode prog_33_method_1_code 69 = .ok (.newarray .long, 2) := by decide +kernel
theorem d4_71 : decode prog_33_method_1_code 71 = .ok (.putfield 47, 3) := by decide +kernel
theorem d4_74 : decode prog_33_method_1_code 74 = .ok (.aload_n 0, 1) := by decide +kernel
theorem d4_75 : decode prog_33_method_1_code 75 = .ok (.sipush 1024, 3) := by decide +kernel
theorem d4_78 : decode prog_33_method_1_code 78 = .ok (.aload_n 0, 1) := by decide +kernel
theorem d4_79 : decode prog_33_method_1_code 79 = .ok (.getfield 28, 3) := by decide +kernel
theorem d4_82 : decode prog_33_method_1_code 82 = .ok (.imul, 1) := by decide +kernel
theorem d4_83 : decode prog_33_method_1_code 83 = .ok (.newarray .long, 2) := by decide +kernel
theorem d4_85 : decode prog_33_method_1_code 85 = .ok (.putfield 51, 3) := by decide +kernel
theorem d4_88 : decode prog_33_method_1_code 88 = .ok (.aload_n 0, 1) := by decide +kernel
theorem d4_89 : decode prog_33_method_1_code 89 = .ok (.sipush 1024, 3) := by decide +kernel
theorem d4_92 : decode prog_33_method_1_code 92 = .ok (.newarray .int, 2) := by decide +kernel
theorem d4_94 : decode prog_33_method_1_code 94 = .ok (.putfield 54, 3) := by decide +kernel
theorem d4_97 : decode prog_33_method_1_code 97 = .ok (.aload_n 0, 1) := by decide +kernel
theorem d4_98 : decode prog_33_method_1_code 98 = .ok (.sipush 1024, 3) := by decide +kernel
theorem d4_101 : decode prog_33_method_1_code 101 = .ok (.newarray .int, 2) := by decide +kernel
theorem d4_103 : decode prog_33_method_1_code 103 = .ok (.putfield 58, 3) := by decide +kernel
theorem d4_106 : decode prog_33_method_1_code 106 = .ok (.aload_n 0, 1) := by decide +kernel
theorem d4_107 : decode prog_33_method_1_code 107 = .ok (.sipush 2048, 3) := by decide +kernel
theorem d4_110 : decode prog_33_method_1_code 110 = .ok (.newarray .int, 2) := by decide +kernel
theorem d4_112 : decode prog_33_method_1_code 112 = .ok (.putfield 61, 3) := by decide +kernel
theorem d4_115 : decode prog_33_method_1_code 115 = .ok (.return_, 1) := by decide +kernel
theorem pn_4 : plainFor (⟨"com/example/jadoube/jadoube/PositionTable", "<init>", "(Lcom/example/jadoube/jadoube/Position;)V"⟩ : MethodName) = true := plainFor_of_name (by show plainName "com/example/jadoube/jadoube/PositionTable" = true; first | (simp [plainName, overriddenIn]; done) | decide +kernel)
theorem ef_4 (m : MethodId) (a1 : Addr) (a2 : Addr) : entryFrame m #[(.ref a1), (.ref a2)] 3 = mkF m 0 #[.val (.ref a1), .val (.ref a2), .unset] [] := by first | (simp [entryFrame, mkF, argsToLocals, Value.category]; done) | rfl
set_option maxRecDepth 65536 in
set_option maxHeartbeats 40000000 in
theorem rm4 (l : Launch) (Z : State) (a0 : Array Value) (hw : ∀ d ∈ tables_1, d.before a0 Z = true) (h0 : Heap) (n0 : Nat) (Z0 : n0 ≤ h0.size) (a1 : Addr) (a2 : Addr) (hP : Pos Z h0 a1 a2 1) (hE : Exa Z h0 a1 "com/example/jadoube/jadoube/PositionTable") (hWi : Fld Z h0 a1 "com/example/jadoube/jadoube/PositionTable" "width" "I" (.int 0)) (hCr : Fld Z h0 a1 "com/example/jadoube/jadoube/PositionTable" "castlingRooks" "J" (.long 0)) (hC9 : Fld Z h0 a1 "com/example/jadoube/jadoube/PositionTable" "chess960" "Z" (.int 0)) (hSc : Fld Z h0 a1 "com/example/jadoube/jadoube/PositionTable" "scratch" "[J" .null) (hWo : Fld Z h0 a1 "com/example/jadoube/jadoube/PositionTable" "words" "[J" .null) (hPa : Fld Z h0 a1 "com/example/jadoube/jadoube/PositionTable" "parents" "[I" .null) (hMo : Fld Z h0 a1 "com/example/jadoube/jadoube/PositionTable" "moves" "[I" .null) (hSl : Fld Z h0 a1 "com/example/jadoube/jadoube/PositionTable" "slots" "[I" .null) (hSz : Fld Z h0 a1 "com/example/jadoube/jadoube/PositionTable" "size" "I" (.int 0)) (hGe : Fld Z h0 a1 "com/example/jadoube/jadoube/PositionTable" "generator" "Lcom/example/jadoube/jadoube/MoveGenerator;" .null) (ga : n0 ≤ a1) : Ctr l Z (⟨"com/example/jadoube/jadoube/PositionTable", "<init>", "(Lcom/example/jadoube/jadoube/Position;)V"⟩ : MethodName) prog_33_method_1_code 3 none [] ({ frames := 2, cells := 6, slots := 6148, locals := 26 } : Room) #[(.ref a1), (.ref a2)] h0 (fun v h L => v = none ∧ Fr n0 L ∧ (∃ ws, Keep h0 h ws ∧ ∀ x ∈ ws, a1 ≤ x) ∧ Tab Z h a1 0 [.int 0, .int 0, .int 0, .int 0] [.int 0, .int 0, .int 0, .int 0] (fun _ => 0)) := by
  refine ctr_mk pn_4 (own := "com/example/jadoube/jadoube/PositionTable") (mn := "<init>") rfl rfl ?_
  intro p e s m below meth c T0 X0 hx hby hml hZ hown hnm hret hlk e0
  refine o_entry (ef_4 m a1 a2) ?_
  have g_a1 := ga
  have NN := Fr.nil n0
  have ZZ := Z0
  have KK := Keep.refl h0 [a1]
  refine o_aloadN X0 hx (pc' := 1) (hb hby d4_0) rfl rfl rfl ?_
  refine o_initO X0 hx hZ hown (hw _ (List.mem_of_getElem? (i := 36) rfl)) (hw _ (List.mem_of_getElem? (i := 12) rfl)) (hw _ (List.mem_of_getElem? (i := 13) rfl)) e0 (by rw [hml]; rfl) (hb hby d4_1) (pc' := 4) rfl (by decide) (W := 0) (Nat.le_of_eq rfl) (by decide) ?_
  intro T1 X1 e1
  refine o_aloadN X1 hx (pc' := 5) (hb hby d4_4) rfl rfl rfl ?_
  refine o_new X1 hx hZ hown (hw _ (List.mem_of_getElem? (i := 37) rfl)) (hw _ (List.mem_of_getElem? (i := 38) rfl)) (hw _ (List.mem_of_getElem? (i := 39) rfl)) e1 (hb hby d4_5) (pc' := 8) rfl (by decide) (by decide) ?_
  intro T2 h2 b2 g2 X2 e2 E2 A2 D2
  have lt_a1_b2 : a1 < b2 := Nat.lt_of_lt_of_le hE.lt (Nat.le_of_eq g2.symm)
  have ne_a1_b2 : a1 ≠ b2 := Nat.ne_of_lt lt_a1_b2
  have g_b2 : n0 ≤ b2 := Nat.le_trans ZZ (Nat.le_of_eq g2.symm)
  have sz_b2 : h0.size ≤ b2 := Nat.le_trans KK.1 (Nat.le_of_eq g2.symm)
  have KK := KK.ext E2
  have ZZ := Nat.le_trans ZZ E2.1
  have hE := hE.ext E2
  have hWi := hWi.ext E2
  have hCr := hCr.ext E2
  have hC9 := hC9.ext E2
  have hSc := hSc.ext E2
  have hWo := hWo.ext E2
  have hPa := hPa.ext E2
  have hMo := hMo.ext E2
  have hSl := hSl.ext E2
  have hSz := hSz.ext E2
  have hGe := hGe.ext E2
  have gE := A2
  have gM : Fld Z h2 b2 "com/example/jadoube/jadoube/MoveGenerator" "moves" "[I" .null := D2 (Or.inl (hw _ (List.mem_of_getElem? (i := 121) rfl))) (ty := (.array .int)) (by decide)
  have gS : Fld Z h2 b2 "com/example/jadoube/jadoube/MoveGenerator" "size" "I" (.int 0) := D2 (Or.inl (hw _ (List.mem_of_getElem? (i := 123) rfl))) (ty := .int) (by decide)
  have hP := hP.ext E2
  refine o_dup X2 hx (pc' := 9) (hb hby d4_8) rfl rfl ?_
  refine o_callI X2 hx hZ b2 [] (rm5 l Z a0 hw h2 n0 ZZ b2) rfl hown (hw _ (List.mem_of_getElem? (i := 40) rfl)) (hw _ (List.mem_of_getElem? (i := 41) rfl)) (hw _ (List.mem_of_getElem? (i := 39) rfl)) (hw _ (List.mem_of_getElem? (i := 42) rfl)) (by decide) pd_10 e2 (by rw [hml]; rfl) rfl rfl rfl (hb hby d4_9) (pc' := 12) rfl 2 (Nat.le_of_eq rfl) (by decide) (by decide) (by decide) (by decide) ?_
  intro T3 v3 L3 X3 hQ3
  obtain ⟨rfl, rfl, hh3⟩ := hQ3
  rw [List.append_nil] at X3
  have e3 := hh3
  show Dn p e below _ (T3.setTop (mkF m 12 #[.val (.ref a1), .val (.ref a2), .unset] [(.ref b2), (.ref a1)]))
  refine o_putfield X3 hx hZ hown (hw _ (List.mem_of_getElem? (i := 44) rfl)) e3 hGe hE (Or.inr ⟨(hw _ (List.mem_of_getElem? (i := 45) rfl)), rfl, hnm⟩) (hw _ (List.mem_of_getElem? (i := 31) rfl)) (ty := (.object "com/example/jadoube/jadoube/MoveGenerator")) (v' := (.ref b2)) (by decide) rfl rfl (hb hby d4_12) (pc' := 15) rfl ?_
  intro T4 h4 X4 e4 W4 F4 E4
  have NN := Fr.snoc X4 NN g_a1
  have KK := KK.wr W4 (Or.inl (List.mem_of_getElem? (i := 0) rfl))
  have ZZ := Nat.le_trans ZZ (Keep.of_wr W4).1
  have hWi := hWi.other W4 (Or.inr (slot_ne (Or.inr (hw _ (List.mem_of_getElem? (i := 59) rfl))) (Or.inr (hw _ (List.mem_of_getElem? (i := 45) rfl))) (by decide) (t := .int) (t' := (.object "com/example/jadoube/jadoube/MoveGenerator")) (by decide) (by decide)))
  have hCr := hCr.other W4 (Or.inr (slot_ne (Or.inr (hw _ (List.mem_of_getElem? (i := 66) rfl))) (Or.inr (hw _ (List.mem_of_getElem? (i := 45) rfl))) (by decide) (t := .long) (t' := (.object "com/example/jadoube/jadoube/MoveGenerator")) (by decide) (by decide)))
  have hC9 := hC9.other W4 (Or.inr (slot_ne (Or.inr (hw _ (List.mem_of_getElem? (i := 73) rfl))) (Or.inr (hw _ (List.mem_of_getElem? (i := 45) rfl))) (by decide) (t := .boolean) (t' := (.object "com/example/jadoube/jadoube/MoveGenerator")) (by decide) (by decide)))
  have hSc := hSc.other W4 (Or.inr (slot_ne (Or.inr (hw _ (List.mem_of_getElem? (i := 75) rfl))) (Or.inr (hw _ (List.mem_of_getElem? (i := 45) rfl))) (by decide) (t := (.array .long)) (t' := (.object "com/example/jadoube/jadoube/MoveGenerator")) (by decide) (by decide)))
  have hWo := hWo.other W4 (Or.inr (slot_ne (Or.inl (hw _ (List.mem_of_getElem? (i := 77) rfl))) (Or.inr (hw _ (List.mem_of_getElem? (i := 45) rfl))) (by decide) (t := (.array .long)) (t' := (.object "com/example/jadoube/jadoube/MoveGenerator")) (by decide) (by decide)))
  have hPa := hPa.other W4 (Or.inr (slot_ne (Or.inl (hw _ (List.mem_of_getElem? (i := 80) rfl))) (Or.inr (hw _ (List.mem_of_getElem? (i := 45) rfl))) (by decide) (t := (.array .int)) (t' := (.object "com/example/jadoube/jadoube/MoveGenerator")) (by decide) (by decide)))
  have hMo := hMo.other W4 (Or.inr (slot_ne (Or.inl (hw _ (List.mem_of_getElem? (i := 82) rfl))) (Or.inr (hw _ (List.mem_of_getElem? (i := 45) rfl))) (by decide) (t := (.array .int)) (t' := (.object "com/example/jadoube/jadoube/MoveGenerator")) (by decide) (by decide)))
  have hSl := hSl.other W4 (Or.inr (slot_ne (Or.inl (hw _ (List.mem_of_getElem? (i := 84) rfl))) (Or.inr (hw _ (List.mem_of_getElem? (i := 45) rfl))) (by decide) (t := (.array .int)) (t' := (.object "com/example/jadoube/jadoube/MoveGenerator")) (by decide) (by decide)))
  have hSz := hSz.other W4 (Or.inr (slot_ne (Or.inl (hw _ (List.mem_of_getElem? (i := 153) rfl))) (Or.inr (hw _ (List.mem_of_getElem? (i := 45) rfl))) (by decide) (t := .int) (t' := (.object "com/example/jadoube/jadoube/MoveGenerator")) (by decide) (by decide)))
  have gM := gM.other W4 (Or.inl ne_a1_b2.symm)
  have gS := gS.other W4 (Or.inl ne_a1_b2.symm)
  have gE := gE.wr W4
  have hGe := F4
  have hE := E4
  have hP := hP.keep (Keep.of_wr W4) (by intro x hx; simp only [List.mem_cons, List.not_mem_nil, or_false] at hx; subst hx; exact Nat.le_refl _)
  have hPo := hP
  obtain ⟨bp, bc, kp, kc, lt_a, lt_bp, lt_bc, pE, pPi, pCo, pSi, pCa, pEn, pC9, pV1, pV2⟩ := hPo
  refine o_aloadN X4 hx (pc' := 16) (hb hby d4_15) rfl rfl rfl ?_
  refine o_iconst X4 hx (pc' := 17) (v := (0 : Int32)) (hb hby d4_16) rfl rfl ?_
  refine o_callVP X4 hx hZ a2 [(.int (0 : Int32))] (rm6 l Z a0 hw h4 n0 ZZ a2 (0 : Int32) bc kc _ (1 : Int64) pCo pV2 (by decide) rfl) hown (hw _ (List.mem_of_getElem? (i := 46) rfl)) (hw _ (List.mem_of_getElem? (i := 47) rfl)) (hw _ (List.mem_of_getElem? (i := 49) rfl)) (hw _ (List.mem_of_getElem? (i := 48) rfl)) (hw _ (List.mem_of_getElem? (i := 7) rfl)) (hw _ (List.mem_of_getElem? (i := 50) rfl)) (by decide) pE pd_3 e4 (by rw [hml]; rfl) rfl rfl rfl (hb hby d4_17) (pc' := 20) rfl 0 (Nat.le_of_eq rfl) (by decide) (by decide) rfl rfl (by decide) (by decide) ?_
  intro T5 X5 e5
  show Dn p e below _ (T5.setTop (mkF m 20 #[.val (.ref a1), .val (.ref a2), .unset] [(.long (1 : Int64))]))
  refine o_aloadN X5 hx (pc' := 21) (hb hby d4_20) rfl rfl rfl ?_
  refine o_iconst X5 hx (pc' := 22) (v := (1 : Int32)) (hb hby d4_21) rfl rfl ?_
  refine o_callVP X5 hx hZ a2 [(.int (1 : Int32))] (rm6 l Z a0 hw h4 n0 ZZ a2 (1 : Int32) bc kc _ (0 : Int64) pCo pV2 (by decide) rfl) hown (hw _ (List.mem_of_getElem? (i := 46) rfl)) (hw _ (List.mem_of_getElem? (i := 47) rfl)) (hw _ (List.mem_of_getElem? (i := 49) rfl)) (hw _ (List.mem_of_getElem? (i := 48) rfl)) (hw _ (List.mem_of_getElem? (i := 7) rfl)) (hw _ (List.mem_of_getElem? (i := 50) rfl)) (by decide) pE pd_3 e5 (by rw [hml]; rfl) rfl rfl rfl (hb hby d4_22) (pc' := 25) rfl 2 (Nat.le_of_eq rfl) (by decide) (by decide) rfl rfl (by decide) (by decide) ?_
  intro T6 X6 e6
  show Dn p e below _ (T6.setTop (mkF m 25 #[.val (.ref a1), .val (.ref a2), .unset] [(.long (0 : Int64)), (.long (1 : Int64))]))
  refine o_lor X6 hx (pc' := 26) (hb hby d4_25) rfl ?_
  rw [show ((1 : Int64) ||| (0 : Int64)) = (1 : Int64) from by decide +kernel]
  refine o_callSP X6 hx hZ [(.long (1 : Int64))] (rmP7_1 l Z a0 hw h4 n0 ZZ) hown (hw _ (List.mem_of_getElem? (i := 51) rfl)) (hw _ (List.mem_of_getElem? (i := 52) rfl)) (hw _ (List.mem_of_getElem? (i := 53) rfl)) (hw _ (List.mem_of_getElem? (i := 54) rfl)) (by decide) pd_1 e6 (by rw [hml]; rfl) rfl rfl rfl (hb hby d4_26) (pc' := 29) rfl 0 (Nat.le_of_eq rfl) (by decide) (by decide) rfl rfl (by decide) (by decide) ?_
  intro T7 X7 e7
  show Dn p e below _ (T7.setTop (mkF m 29 #[.val (.ref a1), .val (.ref a2), .unset] [(.int (1 : Int32))]))
  refine o_istoreN X7 hx (pc' := 30) (Ls' := #[.val (.ref a1), .val (.ref a2), .val (.int (1 : Int32))]) (hb hby d4_29) rfl rfl ?_
  refine o_aloadN X7 hx (pc' := 31) (hb hby d4_30) rfl rfl rfl ?_
  refine o_iconst X7 hx (pc' := 32) (v := (1 : Int32)) (hb hby d4_31) rfl rfl ?_
  refine o_iconst X7 hx (pc' := 33) (v := (4 : Int32)) (hb hby d4_32) rfl rfl ?_
  refine o_iloadN X7 hx (pc' := 34) (hb hby d4_33) rfl rfl ?_
  refine o_imul X7 hx (pc' := 35) (hb hby d4_34) rfl ?_
  rw [show ((4 : Int32) * (1 : Int32)) = (4 : Int32) from by decide +kernel]
  refine o_bipush X7 hx (pc' := 37) (v := (9 : Int32)) (hb hby d4_35) rfl rfl ?_
  refine o_iadd X7 hx (pc' := 38) (hb hby d4_37) rfl ?_
  rw [show ((4 : Int32) + (9 : Int32)) = (13 : Int32) from by decide +kernel]
  refine o_bipush X7 hx (pc' := 40) (v := (63 : Int32)) (hb hby d4_38) rfl rfl ?_
  refine o_iadd X7 hx (pc' := 41) (hb hby d4_40) rfl ?_
  rw [show ((13 : Int32) + (63 : Int32)) = (76 : Int32) from by decide +kernel]
  refine o_bipush X7 hx (pc' := 43) (v := (64 : Int32)) (hb hby d4_41) rfl rfl ?_
  refine o_idiv X7 hx (pc' := 44) (hb hby d4_43) rfl (by decide) ?_
  rw [show ((76 : Int32) / (64 : Int32)) = (1 : Int32) from by decide +kernel]
  refine o_iadd X7 hx (pc' := 45) (hb hby d4_44) rfl ?_
  rw [show ((1 : Int32) + (1 : Int32)) = (2 : Int32) from by decide +kernel]
  refine o_putfield X7 hx hZ hown (hw _ (List.mem_of_getElem? (i := 58) rfl)) e7 hWi hE (Or.inr ⟨(hw _ (List.mem_of_getElem? (i := 59) rfl)), rfl, hnm⟩) (hw _ (List.mem_of_getElem? (i := 31) rfl)) (ty := .int) (v' := (.int (2 : Int32))) (by decide) rfl rfl (hb hby d4_45) (pc' := 48) rfl ?_
  intro T8 h8 X8 e8 W8 F8 E8
  have NN := Fr.snoc X8 NN g_a1
  have KK := KK.wr W8 (Or.inl (List.mem_of_getElem? (i := 0) rfl))
  have ZZ := Nat.le_trans ZZ (Keep.of_wr W8).1
  have hCr := hCr.other W8 (Or.inr (slot_ne (Or.inr (hw _ (List.mem_of_getElem? (i := 66) rfl))) (Or.inr (hw _ (List.mem_of_getElem? (i := 59) rfl))) (by decide) (t := .long) (t' := .int) (by decide) (by decide)))
  have hC9 := hC9.other W8 (Or.inr (slot_ne (Or.inr (hw _ (List.mem_of_getElem? (i := 73) rfl))) (Or.inr (hw _ (List.mem_of_getElem? (i := 59) rfl))) (by decide) (t := .boolean) (t' := .int) (by decide) (by decide)))
  have hSc := hSc.other W8 (Or.inr (slot_ne (Or.inr (hw _ (List.mem_of_getElem? (i := 75) rfl))) (Or.inr (hw _ (List.mem_of_getElem? (i := 59) rfl))) (by decide) (t := (.array .long)) (t' := .int) (by decide) (by decide)))
  have hWo := hWo.other W8 (Or.inr (slot_ne (Or.inl (hw _ (List.mem_of_getElem? (i := 77) rfl))) (Or.inr (hw _ (List.mem_of_getElem? (i := 59) rfl))) (by decide) (t := (.array .long)) (t' := .int) (by decide) (by decide)))
  have hPa := hPa.other W8 (Or.inr (slot_ne (Or.inl (hw _ (List.mem_of_getElem? (i := 80) rfl))) (Or.inr (hw _ (List.mem_of_getElem? (i := 59) rfl))) (by decide) (t := (.array .int)) (t' := .int) (by decide) (by decide)))
  have hMo := hMo.other W8 (Or.inr (slot_ne (Or.inl (hw _ (List.mem_of_getElem? (i := 82) rfl))) (Or.inr (hw _ (List.mem_of_getElem? (i := 59) rfl))) (by decide) (t := (.array .int)) (t' := .int) (by decide) (by decide)))
  have hSl := hSl.other W8 (Or.inr (slot_ne (Or.inl (hw _ (List.mem_of_getElem? (i := 84) rfl))) (Or.inr (hw _ (List.mem_of_getElem? (i := 59) rfl))) (by decide) (t := (.array .int)) (t' := .int) (by decide) (by decide)))
  have hSz := hSz.other W8 (Or.inr (slot_ne (Or.inl (hw _ (List.mem_of_getElem? (i := 153) rfl))) (Or.inr (hw _ (List.mem_of_getElem? (i := 59) rfl))) (by decide) (t := .int) (t' := .int) (by decide) (by decide)))
  have hGe := hGe.other W8 (Or.inr (slot_ne (Or.inr (hw _ (List.mem_of_getElem? (i := 45) rfl))) (Or.inr (hw _ (List.mem_of_getElem? (i := 59) rfl))) (by decide) (t := (.object "com/example/jadoube/jadoube/MoveGenerator")) (t' := .int) (by decide) (by decide)))
  have gM := gM.other W8 (Or.inl ne_a1_b2.symm)
  have gS := gS.other W8 (Or.inl ne_a1_b2.symm)
  have gE := gE.wr W8
  have hWi := F8
  have hE := E8
  have hP := hP.keep (Keep.of_wr W8) (by intro x hx; simp only [List.mem_cons, List.not_mem_nil, or_false] at hx; subst hx; exact Nat.le_refl _)
  have hPo := hP
  obtain ⟨bp, bc, kp, kc, lt_a, lt_bp, lt_bc, pE, pPi, pCo, pSi, pCa, pEn, pC9, pV1, pV2⟩ := hPo
  refine o_aloadN X8 hx (pc' := 49) (hb hby d4_48) rfl rfl rfl ?_
  refine o_aloadN X8 hx (pc' := 50) (hb hby d4_49) rfl rfl rfl ?_
  refine o_callVP X8 hx hZ a2 [] (rm8 l Z a0 hw h8 n0 ZZ a2 pCa) hown (hw _ (List.mem_of_getElem? (i := 60) rfl)) (hw _ (List.mem_of_getElem? (i := 61) rfl)) (hw _ (List.mem_of_getElem? (i := 63) rfl)) (hw _ (List.mem_of_getElem? (i := 62) rfl)) (hw _ (List.mem_of_getElem? (i := 7) rfl)) (hw _ (List.mem_of_getElem? (i := 64) rfl)) (by decide) pE pd_11 e8 (by rw [hml]; rfl) rfl rfl rfl (hb hby d4_50) (pc' := 53) rfl 1 (Nat.le_of_eq rfl) (by decide) (by decide) rfl rfl (by decide) (by decide) ?_
  intro T9 X9 e9
  show Dn p e below _ (T9.setTop (mkF m 53 #[.val (.ref a1), .val (.ref a2), .val (.int (1 : Int32))] [(.long (0 : Int64)), (.ref a1)]))
  refine o_putfield X9 hx hZ hown (hw _ (List.mem_of_getElem? (i := 65) rfl)) e9 hCr hE (Or.inr ⟨(hw _ (List.mem_of_getElem? (i := 66) rfl)), rfl, hnm⟩) (hw _ (List.mem_of_getElem? (i := 31) rfl)) (ty := .long) (v' := (.long (0 : Int64))) (by decide) rfl rfl (hb hby d4_53) (pc' := 56) rfl ?_
  intro T10 h10 X10 e10 W10 F10 E10
  have NN := Fr.snoc X10 NN g_a1
  have KK := KK.wr W10 (Or.inl (List.mem_of_getElem? (i := 0) rfl))
  have ZZ := Nat.le_trans ZZ (Keep.of_wr W10).1
  have hWi := hWi.other W10 (Or.inr (slot_ne (Or.inr (hw _ (List.mem_of_getElem? (i := 59) rfl))) (Or.inr (hw _ (List.mem_of_getElem? (i := 66) rfl))) (by decide) (t := .int) (t' := .long) (by decide) (by decide)))
  have hC9 := hC9.other W10 (Or.inr (slot_ne (Or.inr (hw _ (List.mem_of_getElem? (i := 73) rfl))) (Or.inr (hw _ (List.mem_of_getElem? (i := 66) rfl))) (by decide) (t := .boolean) (t' := .long) (by decide) (by decide)))
  have hSc := hSc.other W10 (Or.inr (slot_ne (Or.inr (hw _ (List.mem_of_getElem? (i := 75) rfl))) (Or.inr (hw _ (List.mem_of_getElem? (i := 66) rfl))) (by decide) (t := (.array .long)) (t' := .long) (by decide) (by decide)))
  have hWo := hWo.other W10 (Or.inr (slot_ne (Or.inl (hw _ (List.mem_of_getElem? (i := 77) rfl))) (Or.inr (hw _ (List.mem_of_getElem? (i := 66) rfl))) (by decide) (t := (.array .long)) (t' := .long) (by decide) (by decide)))
  have hPa := hPa.other W10 (Or.inr (slot_ne (Or.inl (hw _ (List.mem_of_getElem? (i := 80) rfl))) (Or.inr (hw _ (List.mem_of_getElem? (i := 66) rfl))) (by decide) (t := (.array .int)) (t' := .long) (by decide) (by decide)))
  have hMo := hMo.other W10 (Or.inr (slot_ne (Or.inl (hw _ (List.mem_of_getElem? (i := 82) rfl))) (Or.inr (hw _ (List.mem_of_getElem? (i := 66) rfl))) (by decide) (t := (.array .int)) (t' := .long) (by decide) (by decide)))
  have hSl := hSl.other W10 (Or.inr (slot_ne (Or.inl (hw _ (List.mem_of_getElem? (i := 84) rfl))) (Or.inr (hw _ (List.mem_of_getElem? (i := 66) rfl))) (by decide) (t := (.array .int)) (t' := .long) (by decide) (by decide)))
  have hSz := hSz.other W10 (Or.inr (slot_ne (Or.inl (hw _ (List.mem_of_getElem? (i := 153) rfl))) (Or.inr (hw _ (List.mem_of_getElem? (i := 66) rfl))) (by decide) (t := .int) (t' := .long) (by decide) (by decide)))
  have hGe := hGe.other W10 (Or.inr (slot_ne (Or.inr (hw _ (List.mem_of_getElem? (i := 45) rfl))) (Or.inr (hw _ (List.mem_of_getElem? (i := 66) rfl))) (by decide) (t := (.object "com/example/jadoube/jadoube/MoveGenerator")) (t' := .long) (by decide) (by decide)))
  have gM := gM.other W10 (Or.inl ne_a1_b2.symm)
  have gS := gS.other W10 (Or.inl ne_a1_b2.symm)
  have gE := gE.wr W10
  have hCr := F10
  have hE := E10
  have hP := hP.keep (Keep.of_wr W10) (by intro x hx; simp only [List.mem_cons, List.not_mem_nil, or_false] at hx; subst hx; exact Nat.le_refl _)
  have hPo := hP
  obtain ⟨bp, bc, kp, kc, lt_a, lt_bp, lt_bc, pE, pPi, pCo, pSi, pCa, pEn, pC9, pV1, pV2⟩ := hPo
  refine o_aloadN X10 hx (pc' := 57) (hb hby d4_56) rfl rfl rfl ?_
  refine o_aloadN X10 hx (pc' := 58) (hb hby d4_57) rfl rfl rfl ?_
  refine o_callVP X10 hx hZ a2 [] (rm9 l Z a0 hw h10 n0 ZZ a2 pC9) hown (hw _ (List.mem_of_getElem? (i := 67) rfl)) (hw _ (List.mem_of_getElem? (i := 68) rfl)) (hw _ (List.mem_of_getElem? (i := 70) rfl)) (hw _ (List.mem_of_getElem? (i := 69) rfl)) (hw _ (List.mem_of_getElem? (i := 7) rfl)) (hw _ (List.mem_of_getElem? (i := 71) rfl)) (by decide) pE pd_12 e10 (by rw [hml]; rfl) rfl rfl rfl (hb hby d4_58) (pc' := 61) rfl 1 (Nat.le_of_eq rfl) (by decide) (by decide) rfl rfl (by decide) (by decide) ?_
  intro T11 X11 e11
  show Dn p e below _ (T11.setTop (mkF m 61 #[.val (.ref a1), .val (.ref a2), .val (.int (1 : Int32))] [(.int (0 : Int32)), (.ref a1)]))
  refine o_putfield X11 hx hZ hown (hw _ (List.mem_of_getElem? (i := 72) rfl)) e11 hC9 hE (Or.inr ⟨(hw _ (List.mem_of_getElem? (i := 73) rfl)), rfl, hnm⟩) (hw _ (List.mem_of_getElem? (i := 31) rfl)) (ty := .boolean) (v' := (.int (0 : Int32))) (by decide) rfl rfl (hb hby d4_61) (pc' := 64) rfl ?_
  intro T12 h12 X12 e12 W12 F12 E12
  have NN := Fr.snoc X12 NN g_a1
  have KK := KK.wr W12 (Or.inl (List.mem_of_getElem? (i := 0) rfl))
  have ZZ := Nat.le_trans ZZ (Keep.of_wr W12).1
  have hWi := hWi.other W12 (Or.inr (slot_ne (Or.inr (hw _ (List.mem_of_getElem? (i := 59) rfl))) (Or.inr (hw _ (List.mem_of_getElem? (i := 73) rfl))) (by decide) (t := .int) (t' := .boolean) (by decide) (by decide)))
  have hCr := hCr.other W12 (Or.inr (slot_ne (Or.inr (hw _ (List.mem_of_getElem? (i := 66) rfl))) (Or.inr (hw _ (List.mem_of_getElem? (i := 73) rfl))) (by decide) (t := .long) (t' := .boolean) (by decide) (by decide)))
  have hSc := hSc.other W12 (Or.inr (slot_ne (Or.inr (hw _ (List.mem_of_getElem? (i := 75) rfl))) (Or.inr (hw _ (List.mem_of_getElem? (i := 73) rfl))) (by decide) (t := (.array .long)) (t' := .boolean) (by decide) (by decide)))
  have hWo := hWo.other W12 (Or.inr (slot_ne (Or.inl (hw _ (List.mem_of_getElem? (i := 77) rfl))) (Or.inr (hw _ (List.mem_of_getElem? (i := 73) rfl))) (by decide) (t := (.array .long)) (t' := .boolean) (by decide) (by decide)))
  have hPa := hPa.other W12 (Or.inr (slot_ne (Or.inl (hw _ (List.mem_of_getElem? (i := 80) rfl))) (Or.inr (hw _ (List.mem_of_getElem? (i := 73) rfl))) (by decide) (t := (.array .int)) (t' := .boolean) (by decide) (by decide)))
  have hMo := hMo.other W12 (Or.inr (slot_ne (Or.inl (hw _ (List.mem_of_getElem? (i := 82) rfl))) (Or.inr (hw _ (List.mem_of_getElem? (i := 73) rfl))) (by decide) (t := (.array .int)) (t' := .boolean) (by decide) (by decide)))
  have hSl := hSl.other W12 (Or.inr (slot_ne (Or.inl (hw _ (List.mem_of_getElem? (i := 84) rfl))) (Or.inr (hw _ (List.mem_of_getElem? (i := 73) rfl))) (by decide) (t := (.array .int)) (t' := .boolean) (by decide) (by decide)))
  have hSz := hSz.other W12 (Or.inr (slot_ne (Or.inl (hw _ (List.mem_of_getElem? (i := 153) rfl))) (Or.inr (hw _ (List.mem_of_getElem? (i := 73) rfl))) (by decide) (t := .int) (t' := .boolean) (by decide) (by decide)))
  have hGe := hGe.other W12 (Or.inr (slot_ne (Or.inr (hw _ (List.mem_of_getElem? (i := 45) rfl))) (Or.inr (hw _ (List.mem_of_getElem? (i := 73) rfl))) (by decide) (t := (.object "com/example/jadoube/jadoube/MoveGenerator")) (t' := .boolean) (by decide) (by decide)))
  have gM := gM.other W12 (Or.inl ne_a1_b2.symm)
  have gS := gS.other W12 (Or.inl ne_a1_b2.symm)
  have gE := gE.wr W12
  have hC9 := F12
  have hE := E12
  refine o_aloadN X12 hx (pc' := 65) (hb hby d4_64) rfl rfl rfl ?_
  refine o_aloadN X12 hx (pc' := 66) (hb hby d4_65) rfl rfl rfl ?_
  refine o_getfield X12 hx hZ hown (hw _ (List.mem_of_getElem? (i := 58) rfl)) e12 hWi (hb hby d4_66) (pc' := 69) rfl ?_
  intro T13 X13 e13
  refine o_newarray X13 hx hZ e13 (hw _ (List.mem_of_getElem? (i := 4) rfl)) (hb hby d4_69) (pc' := 71) rfl (by decide) 2 (by decide) (by decide) (by decide) (by decide) ?_
  intro T14 h14 b14 k14 g14 X14 e14 E14 V14
  have lt_a1_b14 : a1 < b14 := Nat.lt_of_lt_of_le hE.lt (Nat.le_of_eq g14.symm)
  have ne_a1_b14 : a1 ≠ b14 := Nat.ne_of_lt lt_a1_b14
  have lt_b2_b14 : b2 < b14 := Nat.lt_of_lt_of_le gM.lt (Nat.le_of_eq g14.symm)
  have ne_b2_b14 : b2 ≠ b14 := Nat.ne_of_lt lt_b2_b14
  have g_b14 : n0 ≤ b14 := Nat.le_trans ZZ (Nat.le_of_eq g14.symm)
  have sz_b14 : h0.size ≤ b14 := Nat.le_trans KK.1 (Nat.le_of_eq g14.symm)
  have KK := KK.ext E14
  have ZZ := Nat.le_trans ZZ E14.1
  have hE := hE.ext E14
  have hWi := hWi.ext E14
  have hCr := hCr.ext E14
  have hC9 := hC9.ext E14
  have hSc := hSc.ext E14
  have hWo := hWo.ext E14
  have hPa := hPa.ext E14
  have hMo := hMo.ext E14
  have hSl := hSl.ext E14
  have hSz := hSz.ext E14
  have hGe := hGe.ext E14
  have gM := gM.ext E14
  have gS := gS.ext E14
  have gE := gE.ext E14
  have vSc : Arv Z h14 b14 k14 .long (2 : Int32) [.long 0, .long 0] (.long 0) := V14.pad (pad_rep [] _ 2)
  refine o_putfield X14 hx hZ hown (hw _ (List.mem_of_getElem? (i := 74) rfl)) e14 hSc hE (Or.inr ⟨(hw _ (List.mem_of_getElem? (i := 75) rfl)), rfl, hnm⟩) (hw _ (List.mem_of_getElem? (i := 31) rfl)) (ty := (.array .long)) (v' := (.ref b14)) (by decide) rfl rfl (hb hby d4_71) (pc' := 74) rfl ?_
  intro T15 h15 X15 e15 W15 F15 E15
  have NN := Fr.snoc X15 NN g_a1
  have KK := KK.wr W15 (Or.inl (List.mem_of_getElem? (i := 0) rfl))
  have ZZ := Nat.le_trans ZZ (Keep.of_wr W15).1
  have hWi := hWi.other W15 (Or.inr (slot_ne (Or.inr (hw _ (List.mem_of_getElem? (i := 59) rfl))) (Or.inr (hw _ (List.mem_of_getElem? (i := 75) rfl))) (by decide) (t := .int) (t' := (.array .long)) (by decide) (by decide)))
  have hCr := hCr.other W15 (Or.inr (slot_ne (Or.inr (hw _ (List.mem_of_getElem? (i := 66) rfl))) (Or.inr (hw _ (List.mem_of_getElem? (i := 75) rfl))) (by decide) (t := .long) (t' := (.array .long)) (by decide) (by decide)))
  have hC9 := hC9.other W15 (Or.inr (slot_ne (Or.inr (hw _ (List.mem_of_getElem? (i := 73) rfl))) (Or.inr (hw _ (List.mem_of_getElem? (i := 75) rfl))) (by decide) (t := .boolean) (t' := (.array .long)) (by decide) (by decide)))
  have hWo := hWo.other W15 (Or.inr (slot_ne (Or.inl (hw _ (List.mem_of_getElem? (i := 77) rfl))) (Or.inr (hw _ (List.mem_of_getElem? (i := 75) rfl))) (by decide) (t := (.array .long)) (t' := (.array .long)) (by decide) (by decide)))
  have hPa := hPa.other W15 (Or.inr (slot_ne (Or.inl (hw _ (List.mem_of_getElem? (i := 80) rfl))) (Or.inr (hw _ (List.mem_of_getElem? (i := 75) rfl))) (by decide) (t := (.array .int)) (t' := (.array .long)) (by decide) (by decide)))
  have hMo := hMo.other W15 (Or.inr (slot_ne (Or.inl (hw _ (List.mem_of_getElem? (i := 82) rfl))) (Or.inr (hw _ (List.mem_of_getElem? (i := 75) rfl))) (by decide) (t := (.array .int)) (t' := (.array .long)) (by decide) (by decide)))
  have hSl := hSl.other W15 (Or.inr (slot_ne (Or.inl (hw _ (List.mem_of_getElem? (i := 84) rfl))) (Or.inr (hw _ (List.mem_of_getElem? (i := 75) rfl))) (by decide) (t := (.array .int)) (t' := (.array .long)) (by decide) (by decide)))
  have hSz := hSz.other W15 (Or.inr (slot_ne (Or.inl (hw _ (List.mem_of_getElem? (i := 153) rfl))) (Or.inr (hw _ (List.mem_of_getElem? (i := 75) rfl))) (by decide) (t := .int) (t' := (.array .long)) (by decide) (by decide)))
  have hGe := hGe.other W15 (Or.inr (slot_ne (Or.inr (hw _ (List.mem_of_getElem? (i := 45) rfl))) (Or.inr (hw _ (List.mem_of_getElem? (i := 75) rfl))) (by decide) (t := (.object "com/example/jadoube/jadoube/MoveGenerator")) (t' := (.array .long)) (by decide) (by decide)))
  have gM := gM.other W15 (Or.inl ne_a1_b2.symm)
  have gS := gS.other W15 (Or.inl ne_a1_b2.symm)
  have gE := gE.wr W15
  have vSc := vSc.other W15 ne_a1_b14.symm
  have hSc := F15
  have hE := E15
  refine o_aloadN X15 hx (pc' := 75) (hb hby d4_74) rfl rfl rfl ?_
  refine o_sipush X15 hx (pc' := 78) (v := (1024 : Int32)) (hb hby d4_75) rfl rfl ?_
  refine o_aloadN X15 hx (pc' := 79) (hb hby d4_78) rfl rfl rfl ?_
  refine o_getfield X15 hx hZ hown (hw _ (List.mem_of_getElem? (i := 58) rfl)) e15 hWi (hb hby d4_79) (pc' := 82) rfl ?_
  intro T16 X16 e16
  refine o_imul X16 hx (pc' := 83) (hb hby d4_82) rfl ?_
  rw [show ((1024 : Int32) * (2 : Int32)) = (2048 : Int32) from by decide +kernel]
  refine o_newarray X16 hx hZ e16 (hw _ (List.mem_of_getElem? (i := 4) rfl)) (hb hby d4_83) (pc' := 85) rfl (by decide) 2048 (by decide) (by decide) (by decide) (by decide) ?_
  intro T17 h17 b17 k17 g17 X17 e17 E17 V17
  have lt_a1_b17 : a1 < b17 := Nat.lt_of_lt_of_le hE.lt (Nat.le_of_eq g17.symm)
  have ne_a1_b17 : a1 ≠ b17 := Nat.ne_of_lt lt_a1_b17
  have lt_b14_b17 : b14 < b17 := Nat.lt_of_lt_of_le vSc.lt (Nat.le_of_eq g17.symm)
  have ne_b14_b17 : b14 ≠ b17 := Nat.ne_of_lt lt_b14_b17
  have lt_b2_b17 : b2 < b17 := Nat.lt_of_lt_of_le gM.lt (Nat.le_of_eq g17.symm)
  have ne_b2_b17 : b2 ≠ b17 := Nat.ne_of_lt lt_b2_b17
  have g_b17 : n0 ≤ b17 := Nat.le_trans ZZ (Nat.le_of_eq g17.symm)
  have sz_b17 : h0.size ≤ b17 := Nat.le_trans KK.1 (Nat.le_of_eq g17.symm)
  have KK := KK.ext E17
  have ZZ := Nat.le_trans ZZ E17.1
  have hE := hE.ext E17
  have hWi := hWi.ext E17
  have hCr := hCr.ext E17
  have hC9 := hC9.ext E17
  have hSc := hSc.ext E17
  have hWo := hWo.ext E17
  have hPa := hPa.ext E17
  have hMo := hMo.ext E17
  have hSl := hSl.ext E17
  have hSz := hSz.ext E17
  have hGe := hGe.ext E17
  have gM := gM.ext E17
  have gS := gS.ext E17
  have gE := gE.ext E17
  have vSc := vSc.ext E17
  have vWd := V17
  refine o_putfield X17 hx hZ hown (hw _ (List.mem_of_getElem? (i := 76) rfl)) e17 hWo hE (Or.inl (hw _ (List.mem_of_getElem? (i := 77) rfl))) (hw _ (List.mem_of_getElem? (i := 31) rfl)) (ty := (.array .long)) (v' := (.ref b17)) (by decide) rfl rfl (hb hby d4_85) (pc' := 88) rfl ?_
  intro T18 h18 X18 e18 W18 F18 E18
  have NN := Fr.snoc X18 NN g_a1
  have KK := KK.wr W18 (Or.inl (List.mem_of_getElem? (i := 0) rfl))
  have ZZ := Nat.le_trans ZZ (Keep.of_wr W18).1
  have hWi := hWi.other W18 (Or.inr (slot_ne (Or.inr (hw _ (List.mem_of_getElem? (i := 59) rfl))) (Or.inl (hw _ (List.mem_of_getElem? (i := 77) rfl))) (by decide) (t := .int) (t' := (.array .long)) (by decide) (by decide)))
  have hCr := hCr.other W18 (Or.inr (slot_ne (Or.inr (hw _ (List.mem_of_getElem? (i := 66) rfl))) (Or.inl (hw _ (List.mem_of_getElem? (i := 77) rfl))) (by decide) (t := .long) (t' := (.array .long)) (by decide) (by decide)))
  have hC9 := hC9.other W18 (Or.inr (slot_ne (Or.inr (hw _ (List.mem_of_getElem? (i := 73) rfl))) (Or.inl (hw _ (List.mem_of_getElem? (i := 77) rfl))) (by decide) (t := .boolean) (t' := (.array .long)) (by decide) (by decide)))
  have hSc := hSc.other W18 (Or.inr (slot_ne (Or.inr (hw _ (List.mem_of_getElem? (i := 75) rfl))) (Or.inl (hw _ (List.mem_of_getElem? (i := 77) rfl))) (by decide) (t := (.array .long)) (t' := (.array .long)) (by decide) (by decide)))
  have hPa := hPa.other W18 (Or.inr (slot_ne (Or.inl (hw _ (List.mem_of_getElem? (i := 80) rfl))) (Or.inl (hw _ (List.mem_of_getElem? (i := 77) rfl))) (by decide) (t := (.array .int)) (t' := (.array .long)) (by decide) (by decide)))
  have hMo := hMo.other W18 (Or.inr (slot_ne (Or.inl (hw _ (List.mem_of_getElem? (i := 82) rfl))) (Or.inl (hw _ (List.mem_of_getElem? (i := 77) rfl))) (by decide) (t := (.array .int)) (t' := (.array .long)) (by decide) (by decide)))
  have hSl := hSl.other W18 (Or.inr (slot_ne (Or.inl (hw _ (List.mem_of_getElem? (i := 84) rfl))) (Or.inl (hw _ (List.mem_of_getElem? (i := 77) rfl))) (by decide) (t := (.array .int)) (t' := (.array .long)) (by decide) (by decide)))
  have hSz := hSz.other W18 (Or.inr (slot_ne (Or.inl (hw _ (List.mem_of_getElem? (i := 153) rfl))) (Or.inl (hw _ (List.mem_of_getElem? (i := 77) rfl))) (by decide) (t := .int) (t' := (.array .long)) (by decide) (by decide)))
  have hGe := hGe.other W18 (Or.inr (slot_ne (Or.inr (hw _ (List.mem_of_getElem? (i := 45) rfl))) (Or.inl (hw _ (List.mem_of_getElem? (i := 77) rfl))) (by decide) (t := (.object "com/example/jadoube/jadoube/MoveGenerator")) (t' := (.array .long)) (by decide) (by decide)))
  have gM := gM.other W18 (Or.inl ne_a1_b2.symm)
  have gS := gS.other W18 (Or.inl ne_a1_b2.symm)
  have gE := gE.wr W18
  have vSc := vSc.other W18 ne_a1_b14.symm
  have vWd := vWd.other W18 ne_a1_b17.symm
  have hWo := F18
  have hE := E18
  refine o_aloadN X18 hx (pc' := 89) (hb hby d4_88) rfl rfl rfl ?_
  refine o_sipush X18 hx (pc' := 92) (v := (1024 : Int32)) (hb hby d4_89) rfl rfl ?_
  refine o_newarray X18 hx hZ e18 (hw _ (List.mem_of_getElem? (i := 78) rfl)) (hb hby d4_92) (pc' := 94) rfl (by decide) 1024 (by decide) (by decide) (by decide) (by decide) ?_
  intro T19 h19 b19 k19 g19 X19 e19 E19 V19
  have lt_a1_b19 : a1 < b19 := Nat.lt_of_lt_of_le hE.lt (Nat.le_of_eq g19.symm)
  have ne_a1_b19 : a1 ≠ b19 := Nat.ne_of_lt lt_a1_b19
  have lt_b14_b19 : b14 < b19 := Nat.lt_of_lt_of_le vSc.lt (Nat.le_of_eq g19.symm)
  have ne_b14_b19 : b14 ≠ b19 := Nat.ne_of_lt lt_b14_b19
  have lt_b17_b19 : b17 < b19 := Nat.lt_of_lt_of_le vWd.lt (Nat.le_of_eq g19.symm)
  have ne_b17_b19 : b17 ≠ b19 := Nat.ne_of_lt lt_b17_b19
  have lt_b2_b19 : b2 < b19 := Nat.lt_of_lt_of_le gM.lt (Nat.le_of_eq g19.symm)
  have ne_b2_b19 : b2 ≠ b19 := Nat.ne_of_lt lt_b2_b19
  have g_b19 : n0 ≤ b19 := Nat.le_trans ZZ (Nat.le_of_eq g19.symm)
  have sz_b19 : h0.size ≤ b19 := Nat.le_trans KK.1 (Nat.le_of_eq g19.symm)
  have KK := KK.ext E19
  have ZZ := Nat.le_trans ZZ E19.1
  have hE := hE.ext E19
  have hWi := hWi.ext E19
  have hCr := hCr.ext E19
  have hC9 := hC9.ext E19
  have hSc := hSc.ext E19
  have hWo := hWo.ext E19
  have hPa := hPa.ext E19
  have hMo := hMo.ext E19
  have hSl := hSl.ext E19
  have hSz := hSz.ext E19
  have hGe := hGe.ext E19
  have gM := gM.ext E19
  have gS := gS.ext E19
  have gE := gE.ext E19
  have vSc := vSc.ext E19
  have vWd := vWd.ext E19
  have vPa : Arv Z h19 b19 k19 .int (1024 : Int32) [.int 0, .int 0, .int 0, .int 0] (.int 0) := V19.pad (pad_rep [] _ 4)
  refine o_putfield X19 hx hZ hown (hw _ (List.mem_of_getElem? (i := 79) rfl)) e19 hPa hE (Or.inl (hw _ (List.mem_of_getElem? (i := 80) rfl))) (hw _ (List.mem_of_getElem? (i := 31) rfl)) (ty := (.array .int)) (v' := (.ref b19)) (by decide) rfl rfl (hb hby d4_94) (pc' := 97) rfl ?_
  intro T20 h20 X20 e20 W20 F20 E20
  have NN := Fr.snoc X20 NN g_a1
  have KK := KK.wr W20 (Or.inl (List.mem_of_getElem? (i := 0) rfl))
  have ZZ := Nat.le_trans ZZ (Keep.of_wr W20).1
  have hWi := hWi.other W20 (Or.inr (slot_ne (Or.inr (hw _ (List.mem_of_getElem? (i := 59) rfl))) (Or.inl (hw _ (List.mem_of_getElem? (i := 80) rfl))) (by decide) (t := .int) (t' := (.array .int)) (by decide) (by decide)))
  have hCr := hCr.other W20 (Or.inr (slot_ne (Or.inr (hw _ (List.mem_of_getElem? (i := 66) rfl))) (Or.inl (hw _ (List.mem_of_getElem? (i := 80) rfl))) (by decide) (t := .long) (t' := (.array .int)) (by decide) (by decide)))
  have hC9 := hC9.other W20 (Or.inr (slot_ne (Or.inr (hw _ (List.mem_of_getElem? (i := 73) rfl))) (Or.inl (hw _ (List.mem_of_getElem? (i := 80) rfl))) (by decide) (t := .boolean) (t' := (.array .int)) (by decide) (by decide)))
  have hSc := hSc.other W20 (Or.inr (slot_ne (Or.inr (hw _ (List.mem_of_getElem? (i := 75) rfl))) (Or.inl (hw _ (List.mem_of_getElem? (i := 80) rfl))) (by decide) (t := (.array .long)) (t' := (.array .int)) (by decide) (by decide)))
  have hWo := hWo.other W20 (Or.inr (slot_ne (Or.inl (hw _ (List.mem_of_getElem? (i := 77) rfl))) (Or.inl (hw _ (List.mem_of_getElem? (i := 80) rfl))) (by decide) (t := (.array .long)) (t' := (.array .int)) (by decide) (by decide)))
  have hMo := hMo.other W20 (Or.inr (slot_ne (Or.inl (hw _ (List.mem_of_getElem? (i := 82) rfl))) (Or.inl (hw _ (List.mem_of_getElem? (i := 80) rfl))) (by decide) (t := (.array .int)) (t' := (.array .int)) (by decide) (by decide)))
  have hSl := hSl.other W20 (Or.inr (slot_ne (Or.inl (hw _ (List.mem_of_getElem? (i := 84) rfl))) (Or.inl (hw _ (List.mem_of_getElem? (i := 80) rfl))) (by decide) (t := (.array .int)) (t' := (.array .int)) (by decide) (by decide)))
  have hSz := hSz.other W20 (Or.inr (slot_ne (Or.inl (hw _ (List.mem_of_getElem? (i := 153) rfl))) (Or.inl (hw _ (List.mem_of_getElem? (i := 80) rfl))) (by decide) (t := .int) (t' := (.array .int)) (by decide) (by decide)))
  have hGe := hGe.other W20 (Or.inr (slot_ne (Or.inr (hw _ (List.mem_of_getElem? (i := 45) rfl))) (Or.inl (hw _ (List.mem_of_getElem? (i := 80) rfl))) (by decide) (t := (.object "com/example/jadoube/jadoube/MoveGenerator")) (t' := (.array .int)) (by decide) (by decide)))
  have gM := gM.other W20 (Or.inl ne_a1_b2.symm)
  have gS := gS.other W20 (Or.inl ne_a1_b2.symm)
  have gE := gE.wr W20
  have vSc := vSc.other W20 ne_a1_b14.symm
  have vWd := vWd.other W20 ne_a1_b17.symm
  have vPa := vPa.other W20 ne_a1_b19.symm
  have hPa := F20
  have hE := E20
  refine o_aloadN X20 hx (pc' := 98) (hb hby d4_97) rfl rfl rfl ?_
  refine o_sipush X20 hx (pc' := 101) (v := (1024 : Int32)) (hb hby d4_98) rfl rfl ?_
  refine o_newarray X20 hx hZ e20 (hw _ (List.mem_of_getElem? (i := 78) rfl)) (hb hby d4_101) (pc' := 103) rfl (by decide) 1024 (by decide) (by decide) (by decide) (by decide) ?_
  intro T21 h21 b21 k21 g21 X21 e21 E21 V21
  have lt_a1_b21 : a1 < b21 := Nat.lt_of_lt_of_le hE.lt (Nat.le_of_eq g21.symm)
  have ne_a1_b21 : a1 ≠ b21 := Nat.ne_of_lt lt_a1_b21
  have lt_b14_b21 : b14 < b21 := Nat.lt_of_lt_of_le vSc.lt (Nat.le_of_eq g21.symm)
  have ne_b14_b21 : b14 ≠ b21 := Nat.ne_of_lt lt_b14_b21
  have lt_b17_b21 : b17 < b21 := Nat.lt_of_lt_of_le vWd.lt (Nat.le_of_eq g21.symm)
  have ne_b17_b21 : b17 ≠ b21 := Nat.ne_of_lt lt_b17_b21
  have lt_b19_b21 : b19 < b21 := Nat.lt_of_lt_of_le vPa.lt (Nat.le_of_eq g21.symm)
  have ne_b19_b21 : b19 ≠ b21 := Nat.ne_of_lt lt_b19_b21
  have lt_b2_b21 : b2 < b21 := Nat.lt_of_lt_of_le gM.lt (Nat.le_of_eq g21.symm)
  have ne_b2_b21 : b2 ≠ b21 := Nat.ne_of_lt lt_b2_b21
  have g_b21 : n0 ≤ b21 := Nat.le_trans ZZ (Nat.le_of_eq g21.symm)
  have sz_b21 : h0.size ≤ b21 := Nat.le_trans KK.1 (Nat.le_of_eq g21.symm)
  have KK := KK.ext E21
  have ZZ := Nat.le_trans ZZ E21.1
  have hE := hE.ext E21
  have hWi := hWi.ext E21
  have hCr := hCr.ext E21
  have hC9 := hC9.ext E21
  have hSc := hSc.ext E21
  have hWo := hWo.ext E21
  have hPa := hPa.ext E21
  have hMo := hMo.ext E21
  have hSl := hSl.ext E21
  have hSz := hSz.ext E21
  have hGe := hGe.ext E21
  have gM := gM.ext E21
  have gS := gS.ext E21
  have gE := gE.ext E21
  have vSc := vSc.ext E21
  have vWd := vWd.ext E21
  have vPa := vPa.ext E21
  have vMo : Arv Z h21 b21 k21 .int (1024 : Int32) [.int 0, .int 0, .int 0, .int 0] (.int 0) := V21.pad (pad_rep [] _ 4)
  refine o_putfield X21 hx hZ hown (hw _ (List.mem_of_getElem? (i := 81) rfl)) e21 hMo hE (Or.inl (hw _ (List.mem_of_getElem? (i := 82) rfl))) (hw _ (List.mem_of_getElem? (i := 31) rfl)) (ty := (.array .int)) (v' := (.ref b21)) (by decide) rfl rfl (hb hby d4_103) (pc' := 106) rfl ?_
  intro T22 h22 X22 e22 W22 F22 E22
  have NN := Fr.snoc X22 NN g_a1
  have KK := KK.wr W22 (Or.inl (List.mem_of_getElem? (i := 0) rfl))
  have ZZ := Nat.le_trans ZZ (Keep.of_wr W22).1
  have hWi := hWi.other W22 (Or.inr (slot_ne (Or.inr (hw _ (List.mem_of_getElem? (i := 59) rfl))) (Or.inl (hw _ (List.mem_of_getElem? (i := 82) rfl))) (by decide) (t := .int) (t' := (.array .int)) (by decide) (by decide)))
  have hCr := hCr.other W22 (Or.inr (slot_ne (Or.inr (hw _ (List.mem_of_getElem? (i := 66) rfl))) (Or.inl (hw _ (List.mem_of_getElem? (i := 82) rfl))) (by decide) (t := .long) (t' := (.array .int)) (by decide) (by decide)))
  have hC9 := hC9.other W22 (Or.inr (slot_ne (Or.inr (hw _ (List.mem_of_getElem? (i := 73) rfl))) (Or.inl (hw _ (List.mem_of_getElem? (i := 82) rfl))) (by decide) (t := .boolean) (t' := (.array .int)) (by decide) (by decide)))
  have hSc := hSc.other W22 (Or.inr (slot_ne (Or.inr (hw _ (List.mem_of_getElem? (i := 75) rfl))) (Or.inl (hw _ (List.mem_of_getElem? (i := 82) rfl))) (by decide) (t := (.array .long)) (t' := (.array .int)) (by decide) (by decide)))
  have hWo := hWo.other W22 (Or.inr (slot_ne (Or.inl (hw _ (List.mem_of_getElem? (i := 77) rfl))) (Or.inl (hw _ (List.mem_of_getElem? (i := 82) rfl))) (by decide) (t := (.array .long)) (t' := (.array .int)) (by decide) (by decide)))
  have hPa := hPa.other W22 (Or.inr (slot_ne (Or.inl (hw _ (List.mem_of_getElem? (i := 80) rfl))) (Or.inl (hw _ (List.mem_of_getElem? (i := 82) rfl))) (by decide) (t := (.array .int)) (t' := (.array .int)) (by decide) (by decide)))
  have hSl := hSl.other W22 (Or.inr (slot_ne (Or.inl (hw _ (List.mem_of_getElem? (i := 84) rfl))) (Or.inl (hw _ (List.mem_of_getElem? (i := 82) rfl))) (by decide) (t := (.array .int)) (t' := (.array .int)) (by decide) (by decide)))
  have hSz := hSz.other W22 (Or.inr (slot_ne (Or.inl (hw _ (List.mem_of_getElem? (i := 153) rfl))) (Or.inl (hw _ (List.mem_of_getElem? (i := 82) rfl))) (by decide) (t := .int) (t' := (.array .int)) (by decide) (by decide)))
  have hGe := hGe.other W22 (Or.inr (slot_ne (Or.inr (hw _ (List.mem_of_getElem? (i := 45) rfl))) (Or.inl (hw _ (List.mem_of_getElem? (i := 82) rfl))) (by decide) (t := (.object "com/example/jadoube/jadoube/MoveGenerator")) (t' := (.array .int)) (by decide) (by decide)))
  have gM := gM.other W22 (Or.inl ne_a1_b2.symm)
  have gS := gS.other W22 (Or.inl ne_a1_b2.symm)
  have gE := gE.wr W22
  have vSc := vSc.other W22 ne_a1_b14.symm
  have vWd := vWd.other W22 ne_a1_b17.symm
  have vPa := vPa.other W22 ne_a1_b19.symm
  have vMo := vMo.other W22 ne_a1_b21.symm
  have hMo := F22
  have hE := E22
  refine o_aloadN X22 hx (pc' := 107) (hb hby d4_106) rfl rfl rfl ?_
  refine o_sipush X22 hx (pc' := 110) (v := (2048 : Int32)) (hb hby d4_107) rfl rfl ?_
  refine o_newarray X22 hx hZ e22 (hw _ (List.mem_of_getElem? (i := 78) rfl)) (hb hby d4_110) (pc' := 112) rfl (by decide) 2048 (by decide) (by decide) (by decide) (by decide) ?_
  intro T23 h23 b23 k23 g23 X23 e23 E23 V23
  have lt_a1_b23 : a1 < b23 := Nat.lt_of_lt_of_le hE.lt (Nat.le_of_eq g23.symm)
  have ne_a1_b23 : a1 ≠ b23 := Nat.ne_of_lt lt_a1_b23
  have lt_b14_b23 : b14 < b23 := Nat.lt_of_lt_of_le vSc.lt (Nat.le_of_eq g23.symm)
  have ne_b14_b23 : b14 ≠ b23 := Nat.ne_of_lt lt_b14_b23
  have lt_b17_b23 : b17 < b23 := Nat.lt_of_lt_of_le vWd.lt (Nat.le_of_eq g23.symm)
  have ne_b17_b23 : b17 ≠ b23 := Nat.ne_of_lt lt_b17_b23
  have lt_b19_b23 : b19 < b23 := Nat.lt_of_lt_of_le vPa.lt (Nat.le_of_eq g23.symm)
  have ne_b19_b23 : b19 ≠ b23 := Nat.ne_of_lt lt_b19_b23
  have lt_b2_b23 : b2 < b23 := Nat.lt_of_lt_of_le gM.lt (Nat.le_of_eq g23.symm)
  have ne_b2_b23 : b2 ≠ b23 := Nat.ne_of_lt lt_b2_b23
  have lt_b21_b23 : b21 < b23 := Nat.lt_of_lt_of_le vMo.lt (Nat.le_of_eq g23.symm)
  have ne_b21_b23 : b21 ≠ b23 := Nat.ne_of_lt lt_b21_b23
  have g_b23 : n0 ≤ b23 := Nat.le_trans ZZ (Nat.le_of_eq g23.symm)
  have sz_b23 : h0.size ≤ b23 := Nat.le_trans KK.1 (Nat.le_of_eq g23.symm)
  have KK := KK.ext E23
  have ZZ := Nat.le_trans ZZ E23.1
  have hE := hE.ext E23
  have hWi := hWi.ext E23
  have hCr := hCr.ext E23
  have hC9 := hC9.ext E23
  have hSc := hSc.ext E23
  have hWo := hWo.ext E23
  have hPa := hPa.ext E23
  have hMo := hMo.ext E23
  have hSl := hSl.ext E23
  have hSz := hSz.ext E23
  have hGe := hGe.ext E23
  have gM := gM.ext E23
  have gS := gS.ext E23
  have gE := gE.ext E23
  have vSc := vSc.ext E23
  have vWd := vWd.ext E23
  have vPa := vPa.ext E23
  have vMo := vMo.ext E23
  have vSl := V23
  have vSl : Arv Z h23 b23 k23 .int 2048 (own_iv (fun _ => 0)) (.int 0) := vSl.pad own_izero
  refine o_putfield X23 hx hZ hown (hw _ (List.mem_of_getElem? (i := 83) rfl)) e23 hSl hE (Or.inl (hw _ (List.mem_of_getElem? (i := 84) rfl))) (hw _ (List.mem_of_getElem? (i := 31) rfl)) (ty := (.array .int)) (v' := (.ref b23)) (by decide) rfl rfl (hb hby d4_112) (pc' := 115) rfl ?_
  intro T24 h24 X24 e24 W24 F24 E24
  have NN := Fr.snoc X24 NN g_a1
  have KK := KK.wr W24 (Or.inl (List.mem_of_getElem? (i := 0) rfl))
  have ZZ := Nat.le_trans ZZ (Keep.of_wr W24).1
  have hWi := hWi.other W24 (Or.inr (slot_ne (Or.inr (hw _ (List.mem_of_getElem? (i := 59) rfl))) (Or.inl (hw _ (List.mem_of_getElem? (i := 84) rfl))) (by decide) (t := .int) (t' := (.array .int)) (by decide) (by decide)))
  have hCr := hCr.other W24 (Or.inr (slot_ne (Or.inr (hw _ (List.mem_of_getElem? (i := 66) rfl))) (Or.inl (hw _ (List.mem_of_getElem? (i := 84) rfl))) (by decide) (t := .long) (t' := (.array .int)) (by decide) (by decide)))
  have hC9 := hC9.other W24 (Or.inr (slot_ne (Or.inr (hw _ (List.mem_of_getElem? (i := 73) rfl))) (Or.inl (hw _ (List.mem_of_getElem? (i := 84) rfl))) (by decide) (t := .boolean) (t' := (.array .int)) (by decide) (by decide)))
  have hSc := hSc.other W24 (Or.inr (slot_ne (Or.inr (hw _ (List.mem_of_getElem? (i := 75) rfl))) (Or.inl (hw _ (List.mem_of_getElem? (i := 84) rfl))) (by decide) (t := (.array .long)) (t' := (.array .int)) (by decide) (by decide)))
  have hWo := hWo.other W24 (Or.inr (slot_ne (Or.inl (hw _ (List.mem_of_getElem? (i := 77) rfl))) (Or.inl (hw _ (List.mem_of_getElem? (i := 84) rfl))) (by decide) (t := (.array .long)) (t' := (.array .int)) (by decide) (by decide)))
  have hPa := hPa.other W24 (Or.inr (slot_ne (Or.inl (hw _ (List.mem_of_getElem? (i := 80) rfl))) (Or.inl (hw _ (List.mem_of_getElem? (i := 84) rfl))) (by decide) (t := (.array .int)) (t' := (.array .int)) (by decide) (by decide)))
  have hMo := hMo.other W24 (Or.inr (slot_ne (Or.inl (hw _ (List.mem_of_getElem? (i := 82) rfl))) (Or.inl (hw _ (List.mem_of_getElem? (i := 84) rfl))) (by decide) (t := (.array .int)) (t' := (.array .int)) (by decide) (by decide)))
  have hSz := hSz.other W24 (Or.inr (slot_ne (Or.inl (hw _ (List.mem_of_getElem? (i := 153) rfl))) (Or.inl (hw _ (List.mem_of_getElem? (i := 84) rfl))) (by decide) (t := .int) (t' := (.array .int)) (by decide) (by decide)))
  have hGe := hGe.other W24 (Or.inr (slot_ne (Or.inr (hw _ (List.mem_of_getElem? (i := 45) rfl))) (Or.inl (hw _ (List.mem_of_getElem? (i := 84) rfl))) (by decide) (t := (.object "com/example/jadoube/jadoube/MoveGenerator")) (t' := (.array .int)) (by decide) (by decide)))
  have gM := gM.other W24 (Or.inl ne_a1_b2.symm)
  have gS := gS.other W24 (Or.inl ne_a1_b2.symm)
  have gE := gE.wr W24
  have vSc := vSc.other W24 ne_a1_b14.symm
  have vWd := vWd.other W24 ne_a1_b17.symm
  have vPa := vPa.other W24 ne_a1_b19.symm
  have vMo := vMo.other W24 ne_a1_b21.symm
  have vSl := vSl.other W24 ne_a1_b23.symm
  have hSl := F24
  have hE := E24
  exact finV X24 hx hlk hret (hb hby d4_115) (by decide) (by decide) ⟨rfl, NN, ⟨_, by rw [e24]; exact KK, by intro x hx; simp only [List.mem_cons, List.not_mem_nil, or_false] at hx; subst hx; exact Nat.le_refl _⟩, by rw [e24]; exact ⟨b2, b14, b17, b19, b21, b23, k14, k17, k19, k21, k23, _, _, _, _, _, lt_a1_b2, lt_b2_b14, lt_b14_b17, lt_b17_b19, lt_b19_b21, lt_b21_b23, hE, gE, hWi, hSc, hWo, hPa, hMo, hSl, hSz, hGe, gM, gS, vSc, vWd, vPa, vMo, vSl⟩⟩
theorem d23_0 : decode prog_33_method_6_code 0 = .ok (.iconst 0, 1) := by decide +kernel
theorem d23_1 : decode prog_33_method_6_code 1 = .ok (.istore_n 2, 1) := by decide +kernel
theorem d23_2 : decode prog_33_method_6_code 2 = .ok (.iload_n 1, 1) := by decide +kernel
theorem d23_3 : decode prog_33_method_6_code 3 = .ok (.istore_n 3, 1) := by decide +kernel
theorem d23_4 : decode prog_33_method_6_code 4 = .ok (.aload_n 0, 1) := by decide +kernel
theorem d23_5 : decode prog_33_method_6_code 5 = .ok (.getfield 54, 3) := by decide +kernel
theorem d23_8 : decode prog_33_method_6_code 8 = .ok (.iload_n 3, 1) := by decide +kernel
theorem d23_9 : decode prog_33_method_6_code 9 = .ok (.iaload, 1) := by decide +kernel
theorem d23_10 : decode prog_33_method_6_code 10 = .ok (.ifCond .lt 16, 3) := by decide +kernel
theorem d23_26 : decode prog_33_method_6_code 26 = .ok (.iload_n 2, 1) := by decide +kernel
theorem d23_27 : decode prog_33_method_6_code 27 = .ok (.newarray .int, 2) := by decide +kernel
theorem d23_29 : decode prog_33_method_6_code 29 = .ok (.astore_n 3, 1) := by decide +kernel
theorem d23_30 : decode prog_33_method_6_code 30 = .ok (.iload_n 1, 1) := by decide +kernel
theorem d23_31 : decode prog_33_method_6_code 31 = .ok (.istore 4, 2) := by decide +kernel
theorem d23_33 : decode prog_33_method_6_code 33 = .ok (.aload_n 0, 1) := by decide +kernel
theorem d23_34 : decode prog_33_method_6_code 34 = .ok (.getfield 54, 3) := by decide +kernel
theorem d23_37 : decode prog_33_method_6_code 37 = .ok (.iload 4, 2) := by decide +kernel
theorem d23_39 : decode prog_33_method_6_code 39 = .ok (.iaload, 1) := by decide +kernel
theorem d23_40 : decode prog_33_method_6_code 40 = .ok (.ifCond .lt 28, 3) := by decide +kernel
theorem d23_68 : decode prog_33_method_6_code 68 = .ok (.aload_n 3, 1) := by decide +kernel
theorem d23_69 : decode prog_33_method_6_code 69 = .ok (.areturn, 1) := by decide +kernel
theorem pn_23 : plainFor (⟨"com/example/jadoube/jadoube/PositionTable", "movesTo", "(I)[I"⟩ : MethodName) = true := plainFor_of_name (by show plainName "com/example/jadoube/jadoube/PositionTable" = true; first | (simp [plainName, overriddenIn]; done) | decide +kernel)
theorem ef_23_a1_0 (m : MethodId) (a1 : Addr) : entryFrame m #[(.ref a1), (.int (0 : Int32))] 5 = mkF m 0 #[.val (.ref a1), .val (.int (0 : Int32)), .unset, .unset, .unset] [] := by first | (simp [entryFrame, mkF, argsToLocals, Value.category]; done) | rfl
set_option maxRecDepth 65536 in
set_option maxHeartbeats 40000000 in
theorem rmM0 (l : Launch) (Z : State) (a0 : Array Value) (hw : ∀ d ∈ tables_1, d.before a0 Z = true) (h0 : Heap) (n0 : Nat) (Z0 : n0 ≤ h0.size) (a1 : Addr) (n : Int32) (pv mv : List Value) (f : Nat → Int32) (hT : Tab Z h0 a1 n pv mv f) (hp0 : pv.getD ((0 : Int32)).toNatClampNeg (.int 0) = .int (-1))  : Ctr l Z (⟨"com/example/jadoube/jadoube/PositionTable", "movesTo", "(I)[I"⟩ : MethodName) prog_33_method_6_code 5 (some (.array .int)) [] ({ frames := 0, cells := 1, slots := 0, locals := 0 } : Room) #[(.ref a1), (.int (0 : Int32))] h0 (fun v h L => ∃ b kb, v = some (.ref b) ∧ Fr n0 L ∧ Keep h0 h [] ∧ h0.size ≤ b ∧ Arv Z h b kb .int 0 [] (.int 0)) := by
  refine ctr_mk pn_23 (own := "com/example/jadoube/jadoube/PositionTable") (mn := "movesTo") rfl rfl ?_
  intro p e s m below meth c T0 X0 hx hby hml hZ hown hnm hret hlk e0
  refine o_entry (ef_23_a1_0 m a1) ?_
  obtain ⟨ge, sc, wd, pa, mo, sl, k1, k2, k3, k4, k5, x, y, vs, u, w, o1, o2, o3, o4, o5, o6, hE, gE, hWi, hSc, hWo, hPa, hMo, hSl, hSz, hGe, gM, gS, vSc, vWd, vPa, vMo, vSl⟩ := hT
  have NN := Fr.nil n0
  have ZZ := Z0
  have KK := Keep.refl h0 []
  refine o_iconst X0 hx (pc' := 1) (v := (0 : Int32)) (hb hby d23_0) rfl rfl ?_
  refine o_istoreN X0 hx (pc' := 2) (Ls' := #[.val (.ref a1), .val (.int (0 : Int32)), .val (.int (0 : Int32)), .unset, .unset]) (hb hby d23_1) rfl rfl ?_
  refine o_iloadN X0 hx (pc' := 3) (hb hby d23_2) rfl rfl ?_
  refine o_istoreN X0 hx (pc' := 4) (Ls' := #[.val (.ref a1), .val (.int (0 : Int32)), .val (.int (0 : Int32)), .val (.int (0 : Int32)), .unset]) (hb hby d23_3) rfl rfl ?_
  refine o_aloadN X0 hx (pc' := 5) (hb hby d23_4) rfl rfl rfl ?_
  refine o_getfield X0 hx hZ hown (hw _ (List.mem_of_getElem? (i := 79) rfl)) e0 hPa (hb hby d23_5) (pc' := 8) rfl ?_
  intro T1 X1 e1
  refine o_iloadN X1 hx (pc' := 9) (hb hby d23_8) rfl rfl ?_
  refine o_iaload X1 hx hZ e1 vPa (by decide) (v := (.int (-1 : Int32))) hp0 (hb hby d23_9) (pc' := 10) rfl ?_
  refine o_if_lt X1 hx (pc' := 13) (pt := 26) (hb hby d23_10) rfl (by decide) (by decide) (fun _ => ?_) (fun q => absurd (by decide) q)
  refine o_iloadN X1 hx (pc' := 27) (hb hby d23_26) rfl rfl ?_
  refine o_newarray X1 hx hZ e1 (hw _ (List.mem_of_getElem? (i := 78) rfl)) (hb hby d23_27) (pc' := 29) rfl (by decide) 0 (by decide) (by decide) (by decide) (by decide) ?_
  intro T2 h2 b2 k2 g2 X2 e2 E2 V2
  have lt_a1_b2 : a1 < b2 := Nat.lt_of_lt_of_le hPa.lt (Nat.le_of_eq g2.symm)
  have ne_a1_b2 : a1 ≠ b2 := Nat.ne_of_lt lt_a1_b2
  have lt_mo_b2 : mo < b2 := Nat.lt_of_lt_of_le vMo.lt (Nat.le_of_eq g2.symm)
  have ne_mo_b2 : mo ≠ b2 := Nat.ne_of_lt lt_mo_b2
  have lt_pa_b2 : pa < b2 := Nat.lt_of_lt_of_le vPa.lt (Nat.le_of_eq g2.symm)
  have ne_pa_b2 : pa ≠ b2 := Nat.ne_of_lt lt_pa_b2
  have g_b2 : n0 ≤ b2 := Nat.le_trans ZZ (Nat.le_of_eq g2.symm)
  have sz_b2 : h0.size ≤ b2 := Nat.le_trans KK.1 (Nat.le_of_eq g2.symm)
  have KK := KK.ext E2
  have ZZ := Nat.le_trans ZZ E2.1
  have hPa := hPa.ext E2
  have hMo := hMo.ext E2
  have vPa := vPa.ext E2
  have vMo := vMo.ext E2
  have vL : Arv Z h2 b2 k2 .int (0 : Int32) [] (.int 0) := V2.pad (pad_rep [] _ 0)
  refine o_astoreN X2 hx (pc' := 30) (Ls' := #[.val (.ref a1), .val (.int (0 : Int32)), .val (.int (0 : Int32)), .val (.ref b2), .unset]) (hb hby d23_29) rfl rfl rfl ?_
  refine o_iloadN X2 hx (pc' := 31) (hb hby d23_30) rfl rfl ?_
  refine o_istore X2 hx (pc' := 33) (Ls' := #[.val (.ref a1), .val (.int (0 : Int32)), .val (.int (0 : Int32)), .val (.ref b2), .val (.int (0 : Int32))]) (hb hby d23_31) rfl rfl ?_
  refine o_aloadN X2 hx (pc' := 34) (hb hby d23_33) rfl rfl rfl ?_
  refine o_getfield X2 hx hZ hown (hw _ (List.mem_of_getElem? (i := 79) rfl)) e2 hPa (hb hby d23_34) (pc' := 37) rfl ?_
  intro T3 X3 e3
  refine o_iload X3 hx (pc' := 39) (hb hby d23_37) rfl rfl ?_
  refine o_iaload X3 hx hZ e3 vPa (by decide) (v := (.int (-1 : Int32))) hp0 (hb hby d23_39) (pc' := 40) rfl ?_
  refine o_if_lt X3 hx (pc' := 43) (pt := 68) (hb hby d23_40) rfl (by decide) (by decide) (fun _ => ?_) (fun q => absurd (by decide) q)
  refine o_aloadN X3 hx (pc' := 69) (hb hby d23_68) rfl rfl rfl ?_
  exact finA X3 hx hlk rfl hret rfl rfl (hb hby d23_69) (by decide) (by decide) ⟨b2, k2, rfl, NN, by rw [e3]; exact KK, sz_b2, by rw [e3]; exact vL⟩
theorem d23_13 : decode prog_33_method_6_code 13 = .ok (.iinc 2 1, 3) := by decide +kernel
theorem d23_16 : decode prog_33_method_6_code 16 = .ok (.aload_n 0, 1) := by decide +kernel
theorem d23_17 : decode prog_33_method_6_code 17 = .ok (.getfield 54, 3) := by decide +kernel
theorem d23_20 : decode prog_33_method_6_code 20 = .ok (.iload_n 3, 1) := by decide +kernel
theorem d23_21 : decode prog_33_method_6_code 21 = .ok (.iaload, 1) := by decide +kernel
theorem d23_22 : decode prog_33_method_6_code 22 = .ok (.istore_n 3, 1) := by decide +kernel
theorem d23_23 : decode prog_33_method_6_code 23 = .ok (.goto (-19), 3) := by decide +kernel
theorem d23_43 : decode prog_33_method_6_code 43 = .ok (.aload_n 3, 1) := by decide +kernel
theorem d23_44 : decode prog_33_method_6_code 44 = .ok (.iinc 2 (-1), 3) := by decide +kernel
theorem d23_47 : decode prog_33_method_6_code 47 = .ok (.iload_n 2, 1) := by decide +kernel
theorem d23_48 : decode prog_33_method_6_code 48 = .ok (.aload_n 0, 1) := by decide +kernel
theorem d23_49 : decode prog_33_method_6_code 49 = .ok (.getfield 58, 3) := by decide +kernel
theorem d23_52 : decode prog_33_method_6_code 52 = .ok (.iload 4, 2) := by decide +kernel
theorem d23_54 : decode prog_33_method_6_code 54 = .ok (.iaload, 1) := by decide +kernel
theorem d23_55 : decode prog_33_method_6_code 55 = .ok (.iastore, 1) := by decide +kernel
theorem d23_56 : decode prog_33_method_6_code 56 = .ok (.aload_n 0, 1) := by decide +kernel
theorem d23_57 : decode prog_33_method_6_code 57 = .ok (.getfield 54, 3) := by decide +kernel
theorem d23_60 : decode prog_33_method_6_code 60 = .ok (.iload 4, 2) := by decide +kernel
theorem d23_62 : decode prog_33_method_6_code 62 = .ok (.iaload, 1) := by decide +kernel
theorem d23_63 : decode prog_33_method_6_code 63 = .ok (.istore 4, 2) := by decide +kernel
theorem d23_65 : decode prog_33_method_6_code 65 = .ok (.goto (-32), 3) := by decide +kernel
theorem ef_23_a1_1 (m : MethodId) (a1 : Addr) : entryFrame m #[(.ref a1), (.int (1 : Int32))] 5 = mkF m 0 #[.val (.ref a1), .val (.int (1 : Int32)), .unset, .unset, .unset] [] := by first | (simp [entryFrame, mkF, argsToLocals, Value.category]; done) | rfl
set_option maxRecDepth 65536 in
set_option maxHeartbeats 40000000 in
theorem rmM10 (l : Launch) (Z : State) (a0 : Array Value) (hw : ∀ d ∈ tables_1, d.before a0 Z = true) (h0 : Heap) (n0 : Nat) (Z0 : n0 ≤ h0.size) (a1 : Addr) (n : Int32) (pv mv : List Value) (f : Nat → Int32) (hT : Tab Z h0 a1 n pv mv f) (hp1 : pv.getD ((1 : Int32)).toNatClampNeg (.int 0) = .int (0)) (hp0 : pv.getD ((0 : Int32)).toNatClampNeg (.int 0) = .int (-1)) (m1 : Int32) (hm1 : mv.getD ((1 : Int32)).toNatClampNeg (.int 0) = .int m1) : Ctr l Z (⟨"com/example/jadoube/jadoube/PositionTable", "movesTo", "(I)[I"⟩ : MethodName) prog_33_method_6_code 5 (some (.array .int)) [] ({ frames := 0, cells := 1, slots := 1, locals := 0 } : Room) #[(.ref a1), (.int (1 : Int32))] h0 (fun v h L => ∃ b kb, v = some (.ref b) ∧ Fr n0 L ∧ Keep h0 h [] ∧ h0.size ≤ b ∧ Arv Z h b kb .int 1 [.int m1] (.int 0)) := by
  refine ctr_mk pn_23 (own := "com/example/jadoube/jadoube/PositionTable") (mn := "movesTo") rfl rfl ?_
  intro p e s m below meth c T0 X0 hx hby hml hZ hown hnm hret hlk e0
  refine o_entry (ef_23_a1_1 m a1) ?_
  obtain ⟨ge, sc, wd, pa, mo, sl, k1, k2, k3, k4, k5, x, y, vs, u, w, o1, o2, o3, o4, o5, o6, hE, gE, hWi, hSc, hWo, hPa, hMo, hSl, hSz, hGe, gM, gS, vSc, vWd, vPa, vMo, vSl⟩ := hT
  have NN := Fr.nil n0
  have ZZ := Z0
  have KK := Keep.refl h0 []
  refine o_iconst X0 hx (pc' := 1) (v := (0 : Int32)) (hb hby d23_0) rfl rfl ?_
  refine o_istoreN X0 hx (pc' := 2) (Ls' := #[.val (.ref a1), .val (.int (1 : Int32)), .val (.int (0 : Int32)), .unset, .unset]) (hb hby d23_1) rfl rfl ?_
  refine o_iloadN X0 hx (pc' := 3) (hb hby d23_2) rfl rfl ?_
  refine o_istoreN X0 hx (pc' := 4) (Ls' := #[.val (.ref a1), .val (.int (1 : Int32)), .val (.int (0 : Int32)), .val (.int (1 : Int32)), .unset]) (hb hby d23_3) rfl rfl ?_
  refine o_aloadN X0 hx (pc' := 5) (hb hby d23_4) rfl rfl rfl ?_
  refine o_getfield X0 hx hZ hown (hw _ (List.mem_of_getElem? (i := 79) rfl)) e0 hPa (hb hby d23_5) (pc' := 8) rfl ?_
  intro T1 X1 e1
  refine o_iloadN X1 hx (pc' := 9) (hb hby d23_8) rfl rfl ?_
  refine o_iaload X1 hx hZ e1 vPa (by decide) (v := (.int (0 : Int32))) hp1 (hb hby d23_9) (pc' := 10) rfl ?_
  refine o_if_lt X1 hx (pc' := 13) (pt := 26) (hb hby d23_10) rfl (by decide) (by decide) (fun q => absurd q (by decide)) (fun _ => ?_)
  refine o_iinc X1 hx (pc' := 16) (Ls' := #[.val (.ref a1), .val (.int (1 : Int32)), .val (.int (1 : Int32)), .val (.int (1 : Int32)), .unset]) (v := (1 : Int32)) (hb hby d23_13) rfl rfl rfl rfl ?_
  refine o_aloadN X1 hx (pc' := 17) (hb hby d23_16) rfl rfl rfl ?_
  refine o_getfield X1 hx hZ hown (hw _ (List.mem_of_getElem? (i := 79) rfl)) e1 hPa (hb hby d23_17) (pc' := 20) rfl ?_
  intro T2 X2 e2
  refine o_iloadN X2 hx (pc' := 21) (hb hby d23_20) rfl rfl ?_
  refine o_iaload X2 hx hZ e2 vPa (by decide) (v := (.int (0 : Int32))) hp1 (hb hby d23_21) (pc' := 22) rfl ?_
  refine o_istoreN X2 hx (pc' := 23) (Ls' := #[.val (.ref a1), .val (.int (1 : Int32)), .val (.int (1 : Int32)), .val (.int (0 : Int32)), .unset]) (hb hby d23_22) rfl rfl ?_
  refine o_goto X2 hx (pc' := 4) (hb hby d23_23) (by decide) (by decide) ?_
  refine o_aloadN X2 hx (pc' := 5) (hb hby d23_4) rfl rfl rfl ?_
  refine o_getfield X2 hx hZ hown (hw _ (List.mem_of_getElem? (i := 79) rfl)) e2 hPa (hb hby d23_5) (pc' := 8) rfl ?_
  intro T3 X3 e3
  refine o_iloadN X3 hx (pc' := 9) (hb hby d23_8) rfl rfl ?_
  refine o_iaload X3 hx hZ e3 vPa (by decide) (v := (.int (-1 : Int32))) hp0 (hb hby d23_9) (pc' := 10) rfl ?_
  refine o_if_lt X3 hx (pc' := 13) (pt := 26) (hb hby d23_10) rfl (by decide) (by decide) (fun _ => ?_) (fun q => absurd (by decide) q)
  refine o_iloadN X3 hx (pc' := 27) (hb hby d23_26) rfl rfl ?_
  refine o_newarray X3 hx hZ e3 (hw _ (List.mem_of_getElem? (i := 78) rfl)) (hb hby d23_27) (pc' := 29) rfl (by decide) 1 (by decide) (by decide) (by decide) (by decide) ?_
  intro T4 h4 b4 k4 g4 X4 e4 E4 V4
  have lt_a1_b4 : a1 < b4 := Nat.lt_of_lt_of_le hPa.lt (Nat.le_of_eq g4.symm)
  have ne_a1_b4 : a1 ≠ b4 := Nat.ne_of_lt lt_a1_b4
  have lt_mo_b4 : mo < b4 := Nat.lt_of_lt_of_le vMo.lt (Nat.le_of_eq g4.symm)
  have ne_mo_b4 : mo ≠ b4 := Nat.ne_of_lt lt_mo_b4
  have lt_pa_b4 : pa < b4 := Nat.lt_of_lt_of_le vPa.lt (Nat.le_of_eq g4.symm)
  have ne_pa_b4 : pa ≠ b4 := Nat.ne_of_lt lt_pa_b4
  have g_b4 : n0 ≤ b4 := Nat.le_trans ZZ (Nat.le_of_eq g4.symm)
  have sz_b4 : h0.size ≤ b4 := Nat.le_trans KK.1 (Nat.le_of_eq g4.symm)
  have KK := KK.ext E4
  have ZZ := Nat.le_trans ZZ E4.1
  have hPa := hPa.ext E4
  have hMo := hMo.ext E4
  have vPa := vPa.ext E4
  have vMo := vMo.ext E4
  have vL : Arv Z h4 b4 k4 .int (1 : Int32) [.int 0] (.int 0) := V4.pad (pad_rep [] _ 1)
  refine o_astoreN X4 hx (pc' := 30) (Ls' := #[.val (.ref a1), .val (.int (1 : Int32)), .val (.int (1 : Int32)), .val (.ref b4), .unset]) (hb hby d23_29) rfl rfl rfl ?_
  refine o_iloadN X4 hx (pc' := 31) (hb hby d23_30) rfl rfl ?_
  refine o_istore X4 hx (pc' := 33) (Ls' := #[.val (.ref a1), .val (.int (1 : Int32)), .val (.int (1 : Int32)), .val (.ref b4), .val (.int (1 : Int32))]) (hb hby d23_31) rfl rfl ?_
  refine o_aloadN X4 hx (pc' := 34) (hb hby d23_33) rfl rfl rfl ?_
  refine o_getfield X4 hx hZ hown (hw _ (List.mem_of_getElem? (i := 79) rfl)) e4 hPa (hb hby d23_34) (pc' := 37) rfl ?_
  intro T5 X5 e5
  refine o_iload X5 hx (pc' := 39) (hb hby d23_37) rfl rfl ?_
  refine o_iaload X5 hx hZ e5 vPa (by decide) (v := (.int (0 : Int32))) hp1 (hb hby d23_39) (pc' := 40) rfl ?_
  refine o_if_lt X5 hx (pc' := 43) (pt := 68) (hb hby d23_40) rfl (by decide) (by decide) (fun q => absurd q (by decide)) (fun _ => ?_)
  refine o_aloadN X5 hx (pc' := 44) (hb hby d23_43) rfl rfl rfl ?_
  refine o_iinc X5 hx (pc' := 47) (Ls' := #[.val (.ref a1), .val (.int (1 : Int32)), .val (.int (0 : Int32)), .val (.ref b4), .val (.int (1 : Int32))]) (v := (-1 : Int32)) (hb hby d23_44) rfl rfl rfl rfl ?_
  refine o_iloadN X5 hx (pc' := 48) (hb hby d23_47) rfl rfl ?_
  refine o_aloadN X5 hx (pc' := 49) (hb hby d23_48) rfl rfl rfl ?_
  refine o_getfield X5 hx hZ hown (hw _ (List.mem_of_getElem? (i := 81) rfl)) e5 hMo (hb hby d23_49) (pc' := 52) rfl ?_
  intro T6 X6 e6
  refine o_iload X6 hx (pc' := 54) (hb hby d23_52) rfl rfl ?_
  refine o_iaload X6 hx hZ e6 vMo (by decide) (v := (.int m1)) hm1 (hb hby d23_54) (pc' := 55) rfl ?_
  refine o_iastore X6 hx hZ e6 vL (by decide) 0 rfl (Nat.le_of_ble_eq_true rfl) (hb hby d23_55) (pc' := 56) rfl ?_
  intro T7 h7 X7 e7 W7 V7
  have NN := Fr.snoc X7 NN g_b4
  have KK := KK.wr W7 (Or.inr sz_b4)
  have ZZ := Nat.le_trans ZZ (Keep.of_wr W7).1
  have hPa := hPa.other W7 (Or.inl ne_a1_b4)
  have hMo := hMo.other W7 (Or.inl ne_a1_b4)
  have vPa := vPa.other W7 ne_pa_b4
  have vMo := vMo.other W7 ne_mo_b4
  have vL : Arv Z h7 b4 k4 .int 1 [.int m1] (.int 0) := V7
  refine o_aloadN X7 hx (pc' := 57) (hb hby d23_56) rfl rfl rfl ?_
  refine o_getfield X7 hx hZ hown (hw _ (List.mem_of_getElem? (i := 79) rfl)) e7 hPa (hb hby d23_57) (pc' := 60) rfl ?_
  intro T8 X8 e8
  refine o_iload X8 hx (pc' := 62) (hb hby d23_60) rfl rfl ?_
  refine o_iaload X8 hx hZ e8 vPa (by decide) (v := (.int (0 : Int32))) hp1 (hb hby d23_62) (pc' := 63) rfl ?_
  refine o_istore X8 hx (pc' := 65) (Ls' := #[.val (.ref a1), .val (.int (1 : Int32)), .val (.int (0 : Int32)), .val (.ref b4), .val (.int (0 : Int32))]) (hb hby d23_63) rfl rfl ?_
  refine o_goto X8 hx (pc' := 33) (hb hby d23_65) (by decide) (by decide) ?_
  refine o_aloadN X8 hx (pc' := 34) (hb hby d23_33) rfl rfl rfl ?_
  refine o_getfield X8 hx hZ hown (hw _ (List.mem_of_getElem? (i := 79) rfl)) e8 hPa (hb hby d23_34) (pc' := 37) rfl ?_
  intro T9 X9 e9
  refine o_iload X9 hx (pc' := 39) (hb hby d23_37) rfl rfl ?_
  refine o_iaload X9 hx hZ e9 vPa (by decide) (v := (.int (-1 : Int32))) hp0 (hb hby d23_39) (pc' := 40) rfl ?_
  refine o_if_lt X9 hx (pc' := 43) (pt := 68) (hb hby d23_40) rfl (by decide) (by decide) (fun _ => ?_) (fun q => absurd (by decide) q)
  refine o_aloadN X9 hx (pc' := 69) (hb hby d23_68) rfl rfl rfl ?_
  exact finA X9 hx hlk rfl hret rfl rfl (hb hby d23_69) (by decide) (by decide) ⟨b4, k4, rfl, NN, by rw [e9]; exact KK, sz_b4, by rw [e9]; exact vL⟩
theorem ef_23_a1_2 (m : MethodId) (a1 : Addr) : entryFrame m #[(.ref a1), (.int (2 : Int32))] 5 = mkF m 0 #[.val (.ref a1), .val (.int (2 : Int32)), .unset, .unset, .unset] [] := by first | (simp [entryFrame, mkF, argsToLocals, Value.category]; done) | rfl
set_option maxRecDepth 65536 in
set_option maxHeartbeats 40000000 in
theorem rmM20 (l : Launch) (Z : State) (a0 : Array Value) (hw : ∀ d ∈ tables_1, d.before a0 Z = true) (h0 : Heap) (n0 : Nat) (Z0 : n0 ≤ h0.size) (a1 : Addr) (n : Int32) (pv mv : List Value) (f : Nat → Int32) (hT : Tab Z h0 a1 n pv mv f) (hp2 : pv.getD ((2 : Int32)).toNatClampNeg (.int 0) = .int (0)) (hp0 : pv.getD ((0 : Int32)).toNatClampNeg (.int 0) = .int (-1)) (m2 : Int32) (hm2 : mv.getD ((2 : Int32)).toNatClampNeg (.int 0) = .int m2) : Ctr l Z (⟨"com/example/jadoube/jadoube/PositionTable", "movesTo", "(I)[I"⟩ : MethodName) prog_33_method_6_code 5 (some (.array .int)) [] ({ frames := 0, cells := 1, slots := 1, locals := 0 } : Room) #[(.ref a1), (.int (2 : Int32))] h0 (fun v h L => ∃ b kb, v = some (.ref b) ∧ Fr n0 L ∧ Keep h0 h [] ∧ h0.size ≤ b ∧ Arv Z h b kb .int 1 [.int m2] (.int 0)) := by
  refine ctr_mk pn_23 (own := "com/example/jadoube/jadoube/PositionTable") (mn := "movesTo") rfl rfl ?_
  intro p e s m below meth c T0 X0 hx hby hml hZ hown hnm hret hlk e0
  refine o_entry (ef_23_a1_2 m a1) ?_
  obtain ⟨ge, sc, wd, pa, mo, sl, k1, k2, k3, k4, k5, x, y, vs, u, w, o1, o2, o3, o4, o5, o6, hE, gE, hWi, hSc, hWo, hPa, hMo, hSl, hSz, hGe, gM, gS, vSc, vWd, vPa, vMo, vSl⟩ := hT
  have NN := Fr.nil n0
  have ZZ := Z0
  have KK := Keep.refl h0 []
  refine o_iconst X0 hx (pc' := 1) (v := (0 : Int32)) (hb hby d23_0) rfl rfl ?_
  refine o_istoreN X0 hx (pc' := 2) (Ls' := #[.val (.ref a1), .val (.int (2 : Int32)), .val (.int (0 : Int32)), .unset, .unset]) (hb hby d23_1) rfl rfl ?_
  refine o_iloadN X0 hx (pc' := 3) (hb hby d23_2) rfl rfl ?_
  refine o_istoreN X0 hx (pc' := 4) (Ls' := #[.val (.ref a1), .val (.int (2 : Int32)), .val (.int (0 : Int32)), .val (.int (2 : Int32)), .unset]) (hb hby d23_3) rfl rfl ?_
  refine o_aloadN X0 hx (pc' := 5) (hb hby d23_4) rfl rfl rfl ?_
  refine o_getfield X0 hx hZ hown (hw _ (List.mem_of_getElem? (i := 79) rfl)) e0 hPa (hb hby d23_5) (pc' := 8) rfl ?_
  intro T1 X1 e1
  refine o_iloadN X1 hx (pc' := 9) (hb hby d23_8) rfl rfl ?_
  refine o_iaload X1 hx hZ e1 vPa (by decide) (v := (.int (0 : Int32))) hp2 (hb hby d23_9) (pc' := 10) rfl ?_
  refine o_if_lt X1 hx (pc' := 13) (pt := 26) (hb hby d23_10) rfl (by decide) (by decide) (fun q => absurd q (by decide)) (fun _ => ?_)
  refine o_iinc X1 hx (pc' := 16) (Ls' := #[.val (.ref a1), .val (.int (2 : Int32)), .val (.int (1 : Int32)), .val (.int (2 : Int32)), .unset]) (v := (1 : Int32)) (hb hby d23_13) rfl rfl rfl rfl ?_
  refine o_aloadN X1 hx (pc' := 17) (hb hby d23_16) rfl rfl rfl ?_
  refine o_getfield X1 hx hZ hown (hw _ (List.mem_of_getElem? (i := 79) rfl)) e1 hPa (hb hby d23_17) (pc' := 20) rfl ?_
  intro T2 X2 e2
  refine o_iloadN X2 hx (pc' := 21) (hb hby d23_20) rfl rfl ?_
  refine o_iaload X2 hx hZ e2 vPa (by decide) (v := (.int (0 : Int32))) hp2 (hb hby d23_21) (pc' := 22) rfl ?_
  refine o_istoreN X2 hx (pc' := 23) (Ls' := #[.val (.ref a1), .val (.int (2 : Int32)), .val (.int (1 : Int32)), .val (.int (0 : Int32)), .unset]) (hb hby d23_22) rfl rfl ?_
  refine o_goto X2 hx (pc' := 4) (hb hby d23_23) (by decide) (by decide) ?_
  refine o_aloadN X2 hx (pc' := 5) (hb hby d23_4) rfl rfl rfl ?_
  refine o_getfield X2 hx hZ hown (hw _ (List.mem_of_getElem? (i := 79) rfl)) e2 hPa (hb hby d23_5) (pc' := 8) rfl ?_
  intro T3 X3 e3
  refine o_iloadN X3 hx (pc' := 9) (hb hby d23_8) rfl rfl ?_
  refine o_iaload X3 hx hZ e3 vPa (by decide) (v := (.int (-1 : Int32))) hp0 (hb hby d23_9) (pc' := 10) rfl ?_
  refine o_if_lt X3 hx (pc' := 13) (pt := 26) (hb hby d23_10) rfl (by decide) (by decide) (fun _ => ?_) (fun q => absurd (by decide) q)
  refine o_iloadN X3 hx (pc' := 27) (hb hby d23_26) rfl rfl ?_
  refine o_newarray X3 hx hZ e3 (hw _ (List.mem_of_getElem? (i := 78) rfl)) (hb hby d23_27) (pc' := 29) rfl (by decide) 1 (by decide) (by decide) (by decide) (by decide) ?_
  intro T4 h4 b4 k4 g4 X4 e4 E4 V4
  have lt_a1_b4 : a1 < b4 := Nat.lt_of_lt_of_le hPa.lt (Nat.le_of_eq g4.symm)
  have ne_a1_b4 : a1 ≠ b4 := Nat.ne_of_lt lt_a1_b4
  have lt_mo_b4 : mo < b4 := Nat.lt_of_lt_of_le vMo.lt (Nat.le_of_eq g4.symm)
  have ne_mo_b4 : mo ≠ b4 := Nat.ne_of_lt lt_mo_b4
  have lt_pa_b4 : pa < b4 := Nat.lt_of_lt_of_le vPa.lt (Nat.le_of_eq g4.symm)
  have ne_pa_b4 : pa ≠ b4 := Nat.ne_of_lt lt_pa_b4
  have g_b4 : n0 ≤ b4 := Nat.le_trans ZZ (Nat.le_of_eq g4.symm)
  have sz_b4 : h0.size ≤ b4 := Nat.le_trans KK.1 (Nat.le_of_eq g4.symm)
  have KK := KK.ext E4
  have ZZ := Nat.le_trans ZZ E4.1
  have hPa := hPa.ext E4
  have hMo := hMo.ext E4
  have vPa := vPa.ext E4
  have vMo := vMo.ext E4
  have vL : Arv Z h4 b4 k4 .int (1 : Int32) [.int 0] (.int 0) := V4.pad (pad_rep [] _ 1)
  refine o_astoreN X4 hx (pc' := 30) (Ls' := #[.val (.ref a1), .val (.int (2 : Int32)), .val (.int (1 : Int32)), .val (.ref b4), .unset]) (hb hby d23_29) rfl rfl rfl ?_
  refine o_iloadN X4 hx (pc' := 31) (hb hby d23_30) rfl rfl ?_
  refine o_istore X4 hx (pc' := 33) (Ls' := #[.val (.ref a1), .val (.int (2 : Int32)), .val (.int (1 : Int32)), .val (.ref b4), .val (.int (2 : Int32))]) (hb hby d23_31) rfl rfl ?_
  refine o_aloadN X4 hx (pc' := 34) (hb hby d23_33) rfl rfl rfl ?_
  refine o_getfield X4 hx hZ hown (hw _ (List.mem_of_getElem? (i := 79) rfl)) e4 hPa (hb hby d23_34) (pc' := 37) rfl ?_
  intro T5 X5 e5
  refine o_iload X5 hx (pc' := 39) (hb hby d23_37) rfl rfl ?_
  refine o_iaload X5 hx hZ e5 vPa (by decide) (v := (.int (0 : Int32))) hp2 (hb hby d23_39) (pc' := 40) rfl ?_
  refine o_if_lt X5 hx (pc' := 43) (pt := 68) (hb hby d23_40) rfl (by decide) (by decide) (fun q => absurd q (by decide)) (fun _ => ?_)
  refine o_aloadN X5 hx (pc' := 44) (hb hby d23_43) rfl rfl rfl ?_
  refine o_iinc X5 hx (pc' := 47) (Ls' := #[.val (.ref a1), .val (.int (2 : Int32)), .val (.int (0 : Int32)), .val (.ref b4), .val (.int (2 : Int32))]) (v := (-1 : Int32)) (hb hby d23_44) rfl rfl rfl rfl ?_
  refine o_iloadN X5 hx (pc' := 48) (hb hby d23_47) rfl rfl ?_
  refine o_aloadN X5 hx (pc' := 49) (hb hby d23_48) rfl rfl rfl ?_
  refine o_getfield X5 hx hZ hown (hw _ (List.mem_of_getElem? (i := 81) rfl)) e5 hMo (hb hby d23_49) (pc' := 52) rfl ?_
  intro T6 X6 e6
  refine o_iload X6 hx (pc' := 54) (hb hby d23_52) rfl rfl ?_
  refine o_iaload X6 hx hZ e6 vMo (by decide) (v := (.int m2)) hm2 (hb hby d23_54) (pc' := 55) rfl ?_
  refine o_iastore X6 hx hZ e6 vL (by decide) 0 rfl (Nat.le_of_ble_eq_true rfl) (hb hby d23_55) (pc' := 56) rfl ?_
  intro T7 h7 X7 e7 W7 V7
  have NN := Fr.snoc X7 NN g_b4
  have KK := KK.wr W7 (Or.inr sz_b4)
  have ZZ := Nat.le_trans ZZ (Keep.of_wr W7).1
  have hPa := hPa.other W7 (Or.inl ne_a1_b4)
  have hMo := hMo.other W7 (Or.inl ne_a1_b4)
  have vPa := vPa.other W7 ne_pa_b4
  have vMo := vMo.other W7 ne_mo_b4
  have vL : Arv Z h7 b4 k4 .int 1 [.int m2] (.int 0) := V7
  refine o_aloadN X7 hx (pc' := 57) (hb hby d23_56) rfl rfl rfl ?_
  refine o_getfield X7 hx hZ hown (hw _ (List.mem_of_getElem? (i := 79) rfl)) e7 hPa (hb hby d23_57) (pc' := 60) rfl ?_
  intro T8 X8 e8
  refine o_iload X8 hx (pc' := 62) (hb hby d23_60) rfl rfl ?_
  refine o_iaload X8 hx hZ e8 vPa (by decide) (v := (.int (0 : Int32))) hp2 (hb hby d23_62) (pc' := 63) rfl ?_
  refine o_istore X8 hx (pc' := 65) (Ls' := #[.val (.ref a1), .val (.int (2 : Int32)), .val (.int (0 : Int32)), .val (.ref b4), .val (.int (0 : Int32))]) (hb hby d23_63) rfl rfl ?_
  refine o_goto X8 hx (pc' := 33) (hb hby d23_65) (by decide) (by decide) ?_
  refine o_aloadN X8 hx (pc' := 34) (hb hby d23_33) rfl rfl rfl ?_
  refine o_getfield X8 hx hZ hown (hw _ (List.mem_of_getElem? (i := 79) rfl)) e8 hPa (hb hby d23_34) (pc' := 37) rfl ?_
  intro T9 X9 e9
  refine o_iload X9 hx (pc' := 39) (hb hby d23_37) rfl rfl ?_
  refine o_iaload X9 hx hZ e9 vPa (by decide) (v := (.int (-1 : Int32))) hp0 (hb hby d23_39) (pc' := 40) rfl ?_
  refine o_if_lt X9 hx (pc' := 43) (pt := 68) (hb hby d23_40) rfl (by decide) (by decide) (fun _ => ?_) (fun q => absurd (by decide) q)
  refine o_aloadN X9 hx (pc' := 69) (hb hby d23_68) rfl rfl rfl ?_
  exact finA X9 hx hlk rfl hret rfl rfl (hb hby d23_69) (by decide) (by decide) ⟨b4, k4, rfl, NN, by rw [e9]; exact KK, sz_b4, by rw [e9]; exact vL⟩
set_option maxRecDepth 65536 in
set_option maxHeartbeats 40000000 in
theorem rmM210 (l : Launch) (Z : State) (a0 : Array Value) (hw : ∀ d ∈ tables_1, d.before a0 Z = true) (h0 : Heap) (n0 : Nat) (Z0 : n0 ≤ h0.size) (a1 : Addr) (n : Int32) (pv mv : List Value) (f : Nat → Int32) (hT : Tab Z h0 a1 n pv mv f) (hp2 : pv.getD ((2 : Int32)).toNatClampNeg (.int 0) = .int (1)) (hp1 : pv.getD ((1 : Int32)).toNatClampNeg (.int 0) = .int (0)) (hp0 : pv.getD ((0 : Int32)).toNatClampNeg (.int 0) = .int (-1)) (m2 : Int32) (hm2 : mv.getD ((2 : Int32)).toNatClampNeg (.int 0) = .int m2) (m1 : Int32) (hm1 : mv.getD ((1 : Int32)).toNatClampNeg (.int 0) = .int m1) : Ctr l Z (⟨"com/example/jadoube/jadoube/PositionTable", "movesTo", "(I)[I"⟩ : MethodName) prog_33_method_6_code 5 (some (.array .int)) [] ({ frames := 0, cells := 1, slots := 2, locals := 0 } : Room) #[(.ref a1), (.int (2 : Int32))] h0 (fun v h L => ∃ b kb, v = some (.ref b) ∧ Fr n0 L ∧ Keep h0 h [] ∧ h0.size ≤ b ∧ Arv Z h b kb .int 2 [.int m1, .int m2] (.int 0)) := by
  refine ctr_mk pn_23 (own := "com/example/jadoube/jadoube/PositionTable") (mn := "movesTo") rfl rfl ?_
  intro p e s m below meth c T0 X0 hx hby hml hZ hown hnm hret hlk e0
  refine o_entry (ef_23_a1_2 m a1) ?_
  obtain ⟨ge, sc, wd, pa, mo, sl, k1, k2, k3, k4, k5, x, y, vs, u, w, o1, o2, o3, o4, o5, o6, hE, gE, hWi, hSc, hWo, hPa, hMo, hSl, hSz, hGe, gM, gS, vSc, vWd, vPa, vMo, vSl⟩ := hT
  have NN := Fr.nil n0
  have ZZ := Z0
  have KK := Keep.refl h0 []
  refine o_iconst X0 hx (pc' := 1) (v := (0 : Int32)) (hb hby d23_0) rfl rfl ?_
  refine o_istoreN X0 hx (pc' := 2) (Ls' := #[.val (.ref a1), .val (.int (2 : Int32)), .val (.int (0 : Int32)), .unset, .unset]) (hb hby d23_1) rfl rfl ?_
  refine o_iloadN X0 hx (pc' := 3) (hb hby d23_2) rfl rfl ?_
  refine o_istoreN X0 hx (pc' := 4) (Ls' := #[.val (.ref a1), .val (.int (2 : Int32)), .val (.int (0 : Int32)), .val (.int (2 : Int32)), .unset]) (hb hby d23_3) rfl rfl ?_
  refine o_aloadN X0 hx (pc' := 5) (hb hby d23_4) rfl rfl rfl ?_
  refine o_getfield X0 hx hZ hown (hw _ (List.mem_of_getElem? (i := 79) rfl)) e0 hPa (hb hby d23_5) (pc' := 8) rfl ?_
  intro T1 X1 e1
  refine o_iloadN X1 hx (pc' := 9) (hb hby d23_8) rfl rfl ?_
  refine o_iaload X1 hx hZ e1 vPa (by decide) (v := (.int (1 : Int32))) hp2 (hb hby d23_9) (pc' := 10) rfl ?_
  refine o_if_lt X1 hx (pc' := 13) (pt := 26) (hb hby d23_10) rfl (by decide) (by decide) (fun q => absurd q (by decide)) (fun _ => ?_)
  refine o_iinc X1 hx (pc' := 16) (Ls' := #[.val (.ref a1), .val (.int (2 : Int32)), .val (.int (1 : Int32)), .val (.int (2 : Int32)), .unset]) (v := (1 : Int32)) (hb hby d23_13) rfl rfl rfl rfl ?_
  refine o_aloadN X1 hx (pc' := 17) (hb hby d23_16) rfl rfl rfl ?_
  refine o_getfield X1 hx hZ hown (hw _ (List.mem_of_getElem? (i := 79) rfl)) e1 hPa (hb hby d23_17) (pc' := 20) rfl ?_
  intro T2 X2 e2
  refine o_iloadN X2 hx (pc' := 21) (hb hby d23_20) rfl rfl ?_
  refine o_iaload X2 hx hZ e2 vPa (by decide) (v := (.int (1 : Int32))) hp2 (hb hby d23_21) (pc' := 22) rfl ?_
  refine o_istoreN X2 hx (pc' := 23) (Ls' := #[.val (.ref a1), .val (.int (2 : Int32)), .val (.int (1 : Int32)), .val (.int (1 : Int32)), .unset]) (hb hby d23_22) rfl rfl ?_
  refine o_goto X2 hx (pc' := 4) (hb hby d23_23) (by decide) (by decide) ?_
  refine o_aloadN X2 hx (pc' := 5) (hb hby d23_4) rfl rfl rfl ?_
  refine o_getfield X2 hx hZ hown (hw _ (List.mem_of_getElem? (i := 79) rfl)) e2 hPa (hb hby d23_5) (pc' := 8) rfl ?_
  intro T3 X3 e3
  refine o_iloadN X3 hx (pc' := 9) (hb hby d23_8) rfl rfl ?_
  refine o_iaload X3 hx hZ e3 vPa (by decide) (v := (.int (0 : Int32))) hp1 (hb hby d23_9) (pc' := 10) rfl ?_
  refine o_if_lt X3 hx (pc' := 13) (pt := 26) (hb hby d23_10) rfl (by decide) (by decide) (fun q => absurd q (by decide)) (fun _ => ?_)
  refine o_iinc X3 hx (pc' := 16) (Ls' := #[.val (.ref a1), .val (.int (2 : Int32)), .val (.int (2 : Int32)), .val (.int (1 : Int32)), .unset]) (v := (1 : Int32)) (hb hby d23_13) rfl rfl rfl rfl ?_
  refine o_aloadN X3 hx (pc' := 17) (hb hby d23_16) rfl rfl rfl ?_
  refine o_getfield X3 hx hZ hown (hw _ (List.mem_of_getElem? (i := 79) rfl)) e3 hPa (hb hby d23_17) (pc' := 20) rfl ?_
  intro T4 X4 e4
  refine o_iloadN X4 hx (pc' := 21) (hb hby d23_20) rfl rfl ?_
  refine o_iaload X4 hx hZ e4 vPa (by decide) (v := (.int (0 : Int32))) hp1 (hb hby d23_21) (pc' := 22) rfl ?_
  refine o_istoreN X4 hx (pc' := 23) (Ls' := #[.val (.ref a1), .val (.int (2 : Int32)), .val (.int (2 : Int32)), .val (.int (0 : Int32)), .unset]) (hb hby d23_22) rfl rfl ?_
  refine o_goto X4 hx (pc' := 4) (hb hby d23_23) (by decide) (by decide) ?_
  refine o_aloadN X4 hx (pc' := 5) (hb hby d23_4) rfl rfl rfl ?_
  refine o_getfield X4 hx hZ hown (hw _ (List.mem_of_getElem? (i := 79) rfl)) e4 hPa (hb hby d23_5) (pc' := 8) rfl ?_
  intro T5 X5 e5
  refine o_iloadN X5 hx (pc' := 9) (hb hby d23_8) rfl rfl ?_
  refine o_iaload X5 hx hZ e5 vPa (by decide) (v := (.int (-1 : Int32))) hp0 (hb hby d23_9) (pc' := 10) rfl ?_
  refine o_if_lt X5 hx (pc' := 13) (pt := 26) (hb hby d23_10) rfl (by decide) (by decide) (fun _ => ?_) (fun q => absurd (by decide) q)
  refine o_iloadN X5 hx (pc' := 27) (hb hby d23_26) rfl rfl ?_
  refine o_newarray X5 hx hZ e5 (hw _ (List.mem_of_getElem? (i := 78) rfl)) (hb hby d23_27) (pc' := 29) rfl (by decide) 2 (by decide) (by decide) (by decide) (by decide) ?_
  intro T6 h6 b6 k6 g6 X6 e6 E6 V6
  have lt_a1_b6 : a1 < b6 := Nat.lt_of_lt_of_le hPa.lt (Nat.le_of_eq g6.symm)
  have ne_a1_b6 : a1 ≠ b6 := Nat.ne_of_lt lt_a1_b6
  have lt_mo_b6 : mo < b6 := Nat.lt_of_lt_of_le vMo.lt (Nat.le_of_eq g6.symm)
  have ne_mo_b6 : mo ≠ b6 := Nat.ne_of_lt lt_mo_b6
  have lt_pa_b6 : pa < b6 := Nat.lt_of_lt_of_le vPa.lt (Nat.le_of_eq g6.symm)
  have ne_pa_b6 : pa ≠ b6 := Nat.ne_of_lt lt_pa_b6
  have g_b6 : n0 ≤ b6 := Nat.le_trans ZZ (Nat.le_of_eq g6.symm)
  have sz_b6 : h0.size ≤ b6 := Nat.le_trans KK.1 (Nat.le_of_eq g6.symm)
  have KK := KK.ext E6
  have ZZ := Nat.le_trans ZZ E6.1
  have hPa := hPa.ext E6
  have hMo := hMo.ext E6
  have vPa := vPa.ext E6
  have vMo := vMo.ext E6
  have vL : Arv Z h6 b6 k6 .int (2 : Int32) [.int 0, .int 0] (.int 0) := V6.pad (pad_rep [] _ 2)
  refine o_astoreN X6 hx (pc' := 30) (Ls' := #[.val (.ref a1), .val (.int (2 : Int32)), .val (.int (2 : Int32)), .val (.ref b6), .unset]) (hb hby d23_29) rfl rfl rfl ?_
  refine o_iloadN X6 hx (pc' := 31) (hb hby d23_30) rfl rfl ?_
  refine o_istore X6 hx (pc' := 33) (Ls' := #[.val (.ref a1), .val (.int (2 : Int32)), .val (.int (2 : Int32)), .val (.ref b6), .val (.int (2 : Int32))]) (hb hby d23_31) rfl rfl ?_
  refine o_aloadN X6 hx (pc' := 34) (hb hby d23_33) rfl rfl rfl ?_
  refine o_getfield X6 hx hZ hown (hw _ (List.mem_of_getElem? (i := 79) rfl)) e6 hPa (hb hby d23_34) (pc' := 37) rfl ?_
  intro T7 X7 e7
  refine o_iload X7 hx (pc' := 39) (hb hby d23_37) rfl rfl ?_
  refine o_iaload X7 hx hZ e7 vPa (by decide) (v := (.int (1 : Int32))) hp2 (hb hby d23_39) (pc' := 40) rfl ?_
  refine o_if_lt X7 hx (pc' := 43) (pt := 68) (hb hby d23_40) rfl (by decide) (by decide) (fun q => absurd q (by decide)) (fun _ => ?_)
  refine o_aloadN X7 hx (pc' := 44) (hb hby d23_43) rfl rfl rfl ?_
  refine o_iinc X7 hx (pc' := 47) (Ls' := #[.val (.ref a1), .val (.int (2 : Int32)), .val (.int (1 : Int32)), .val (.ref b6), .val (.int (2 : Int32))]) (v := (-1 : Int32)) (hb hby d23_44) rfl rfl rfl rfl ?_
  refine o_iloadN X7 hx (pc' := 48) (hb hby d23_47) rfl rfl ?_
  refine o_aloadN X7 hx (pc' := 49) (hb hby d23_48) rfl rfl rfl ?_
  refine o_getfield X7 hx hZ hown (hw _ (List.mem_of_getElem? (i := 81) rfl)) e7 hMo (hb hby d23_49) (pc' := 52) rfl ?_
  intro T8 X8 e8
  refine o_iload X8 hx (pc' := 54) (hb hby d23_52) rfl rfl ?_
  refine o_iaload X8 hx hZ e8 vMo (by decide) (v := (.int m2)) hm2 (hb hby d23_54) (pc' := 55) rfl ?_
  refine o_iastore X8 hx hZ e8 vL (by decide) 1 rfl (Nat.le_of_ble_eq_true rfl) (hb hby d23_55) (pc' := 56) rfl ?_
  intro T9 h9 X9 e9 W9 V9
  have NN := Fr.snoc X9 NN g_b6
  have KK := KK.wr W9 (Or.inr sz_b6)
  have ZZ := Nat.le_trans ZZ (Keep.of_wr W9).1
  have hPa := hPa.other W9 (Or.inl ne_a1_b6)
  have hMo := hMo.other W9 (Or.inl ne_a1_b6)
  have vPa := vPa.other W9 ne_pa_b6
  have vMo := vMo.other W9 ne_mo_b6
  have vL : Arv Z h9 b6 k6 .int 2 [.int 0, .int m2] (.int 0) := V9
  refine o_aloadN X9 hx (pc' := 57) (hb hby d23_56) rfl rfl rfl ?_
  refine o_getfield X9 hx hZ hown (hw _ (List.mem_of_getElem? (i := 79) rfl)) e9 hPa (hb hby d23_57) (pc' := 60) rfl ?_
  intro T10 X10 e10
  refine o_iload X10 hx (pc' := 62) (hb hby d23_60) rfl rfl ?_
  refine o_iaload X10 hx hZ e10 vPa (by decide) (v := (.int (1 : Int32))) hp2 (hb hby d23_62) (pc' := 63) rfl ?_
  refine o_istore X10 hx (pc' := 65) (Ls' := #[.val (.ref a1), .val (.int (2 : Int32)), .val (.int (1 : Int32)), .val (.ref b6), .val (.int (1 : Int32))]) (hb hby d23_63) rfl rfl ?_
  refine o_goto X10 hx (pc' := 33) (hb hby d23_65) (by decide) (by decide) ?_
  refine o_aloadN X10 hx (pc' := 34) (hb hby d23_33) rfl rfl rfl ?_
  refine o_getfield X10 hx hZ hown (hw _ (List.mem_of_getElem? (i := 79) rfl)) e10 hPa (hb hby d23_34) (pc' := 37) rfl ?_
  intro T11 X11 e11
  refine o_iload X11 hx (pc' := 39) (hb hby d23_37) rfl rfl ?_
  refine o_iaload X11 hx hZ e11 vPa (by decide) (v := (.int (0 : Int32))) hp1 (hb hby d23_39) (pc' := 40) rfl ?_
  refine o_if_lt X11 hx (pc' := 43) (pt := 68) (hb hby d23_40) rfl (by decide) (by decide) (fun q => absurd q (by decide)) (fun _ => ?_)
  refine o_aloadN X11 hx (pc' := 44) (hb hby d23_43) rfl rfl rfl ?_
  refine o_iinc X11 hx (pc' := 47) (Ls' := #[.val (.ref a1), .val (.int (2 : Int32)), .val (.int (0 : Int32)), .val (.ref b6), .val (.int (1 : Int32))]) (v := (-1 : Int32)) (hb hby d23_44) rfl rfl rfl rfl ?_
  refine o_iloadN X11 hx (pc' := 48) (hb hby d23_47) rfl rfl ?_
  refine o_aloadN X11 hx (pc' := 49) (hb hby d23_48) rfl rfl rfl ?_
  refine o_getfield X11 hx hZ hown (hw _ (List.mem_of_getElem? (i := 81) rfl)) e11 hMo (hb hby d23_49) (pc' := 52) rfl ?_
  intro T12 X12 e12
  refine o_iload X12 hx (pc' := 54) (hb hby d23_52) rfl rfl ?_
  refine o_iaload X12 hx hZ e12 vMo (by decide) (v := (.int m1)) hm1 (hb hby d23_54) (pc' := 55) rfl ?_
  refine o_iastore X12 hx hZ e12 vL (by decide) 0 rfl (Nat.le_of_ble_eq_true rfl) (hb hby d23_55) (pc' := 56) rfl ?_
  intro T13 h13 X13 e13 W13 V13
  have NN := Fr.snoc X13 NN g_b6
  have KK := KK.wr W13 (Or.inr sz_b6)
  have ZZ := Nat.le_trans ZZ (Keep.of_wr W13).1
  have hPa := hPa.other W13 (Or.inl ne_a1_b6)
  have hMo := hMo.other W13 (Or.inl ne_a1_b6)
  have vPa := vPa.other W13 ne_pa_b6
  have vMo := vMo.other W13 ne_mo_b6
  have vL : Arv Z h13 b6 k6 .int 2 [.int m1, .int m2] (.int 0) := V13
  refine o_aloadN X13 hx (pc' := 57) (hb hby d23_56) rfl rfl rfl ?_
  refine o_getfield X13 hx hZ hown (hw _ (List.mem_of_getElem? (i := 79) rfl)) e13 hPa (hb hby d23_57) (pc' := 60) rfl ?_
  intro T14 X14 e14
  refine o_iload X14 hx (pc' := 62) (hb hby d23_60) rfl rfl ?_
  refine o_iaload X14 hx hZ e14 vPa (by decide) (v := (.int (0 : Int32))) hp1 (hb hby d23_62) (pc' := 63) rfl ?_
  refine o_istore X14 hx (pc' := 65) (Ls' := #[.val (.ref a1), .val (.int (2 : Int32)), .val (.int (0 : Int32)), .val (.ref b6), .val (.int (0 : Int32))]) (hb hby d23_63) rfl rfl ?_
  refine o_goto X14 hx (pc' := 33) (hb hby d23_65) (by decide) (by decide) ?_
  refine o_aloadN X14 hx (pc' := 34) (hb hby d23_33) rfl rfl rfl ?_
  refine o_getfield X14 hx hZ hown (hw _ (List.mem_of_getElem? (i := 79) rfl)) e14 hPa (hb hby d23_34) (pc' := 37) rfl ?_
  intro T15 X15 e15
  refine o_iload X15 hx (pc' := 39) (hb hby d23_37) rfl rfl ?_
  refine o_iaload X15 hx hZ e15 vPa (by decide) (v := (.int (-1 : Int32))) hp0 (hb hby d23_39) (pc' := 40) rfl ?_
  refine o_if_lt X15 hx (pc' := 43) (pt := 68) (hb hby d23_40) rfl (by decide) (by decide) (fun _ => ?_) (fun q => absurd (by decide) q)
  refine o_aloadN X15 hx (pc' := 69) (hb hby d23_68) rfl rfl rfl ?_
  exact finA X15 hx hlk rfl hret rfl rfl (hb hby d23_69) (by decide) (by decide) ⟨b6, k6, rfl, NN, by rw [e15]; exact KK, sz_b6, by rw [e15]; exact vL⟩
theorem ef_23_a1_3 (m : MethodId) (a1 : Addr) : entryFrame m #[(.ref a1), (.int (3 : Int32))] 5 = mkF m 0 #[.val (.ref a1), .val (.int (3 : Int32)), .unset, .unset, .unset] [] := by first | (simp [entryFrame, mkF, argsToLocals, Value.category]; done) | rfl
set_option maxRecDepth 65536 in
set_option maxHeartbeats 40000000 in
theorem rmM30 (l : Launch) (Z : State) (a0 : Array Value) (hw : ∀ d ∈ tables_1, d.before a0 Z = true) (h0 : Heap) (n0 : Nat) (Z0 : n0 ≤ h0.size) (a1 : Addr) (n : Int32) (pv mv : List Value) (f : Nat → Int32) (hT : Tab Z h0 a1 n pv mv f) (hp3 : pv.getD ((3 : Int32)).toNatClampNeg (.int 0) = .int (0)) (hp0 : pv.getD ((0 : Int32)).toNatClampNeg (.int 0) = .int (-1)) (m3 : Int32) (hm3 : mv.getD ((3 : Int32)).toNatClampNeg (.int 0) = .int m3) : Ctr l Z (⟨"com/example/jadoube/jadoube/PositionTable", "movesTo", "(I)[I"⟩ : MethodName) prog_33_method_6_code 5 (some (.array .int)) [] ({ frames := 0, cells := 1, slots := 1, locals := 0 } : Room) #[(.ref a1), (.int (3 : Int32))] h0 (fun v h L => ∃ b kb, v = some (.ref b) ∧ Fr n0 L ∧ Keep h0 h [] ∧ h0.size ≤ b ∧ Arv Z h b kb .int 1 [.int m3] (.int 0)) := by
  refine ctr_mk pn_23 (own := "com/example/jadoube/jadoube/PositionTable") (mn := "movesTo") rfl rfl ?_
  intro p e s m below meth c T0 X0 hx hby hml hZ hown hnm hret hlk e0
  refine o_entry (ef_23_a1_3 m a1) ?_
  obtain ⟨ge, sc, wd, pa, mo, sl, k1, k2, k3, k4, k5, x, y, vs, u, w, o1, o2, o3, o4, o5, o6, hE, gE, hWi, hSc, hWo, hPa, hMo, hSl, hSz, hGe, gM, gS, vSc, vWd, vPa, vMo, vSl⟩ := hT
  have NN := Fr.nil n0
  have ZZ := Z0
  have KK := Keep.refl h0 []
  refine o_iconst X0 hx (pc' := 1) (v := (0 : Int32)) (hb hby d23_0) rfl rfl ?_
  refine o_istoreN X0 hx (pc' := 2) (Ls' := #[.val (.ref a1), .val (.int (3 : Int32)), .val (.int (0 : Int32)), .unset, .unset]) (hb hby d23_1) rfl rfl ?_
  refine o_iloadN X0 hx (pc' := 3) (hb hby d23_2) rfl rfl ?_
  refine o_istoreN X0 hx (pc' := 4) (Ls' := #[.val (.ref a1), .val (.int (3 : Int32)), .val (.int (0 : Int32)), .val (.int (3 : Int32)), .unset]) (hb hby d23_3) rfl rfl ?_
  refine o_aloadN X0 hx (pc' := 5) (hb hby d23_4) rfl rfl rfl ?_
  refine o_getfield X0 hx hZ hown (hw _ (List.mem_of_getElem? (i := 79) rfl)) e0 hPa (hb hby d23_5) (pc' := 8) rfl ?_
  intro T1 X1 e1
  refine o_iloadN X1 hx (pc' := 9) (hb hby d23_8) rfl rfl ?_
  refine o_iaload X1 hx hZ e1 vPa (by decide) (v := (.int (0 : Int32))) hp3 (hb hby d23_9) (pc' := 10) rfl ?_
  refine o_if_lt X1 hx (pc' := 13) (pt := 26) (hb hby d23_10) rfl (by decide) (by decide) (fun q => absurd q (by decide)) (fun _ => ?_)
  refine o_iinc X1 hx (pc' := 16) (Ls' := #[.val (.ref a1), .val (.int (3 : Int32)), .val (.int (1 : Int32)), .val (.int (3 : Int32)), .unset]) (v := (1 : Int32)) (hb hby d23_13) rfl rfl rfl rfl ?_
  refine o_aloadN X1 hx (pc' := 17) (hb hby d23_16) rfl rfl rfl ?_
  refine o_getfield X1 hx hZ hown (hw _ (List.mem_of_getElem? (i := 79) rfl)) e1 hPa (hb hby d23_17) (pc' := 20) rfl ?_
  intro T2 X2 e2
  refine o_iloadN X2 hx (pc' := 21) (hb hby d23_20) rfl rfl ?_
  refine o_iaload X2 hx hZ e2 vPa (by decide) (v := (.int (0 : Int32))) hp3 (hb hby d23_21) (pc' := 22) rfl ?_
  refine o_istoreN X2 hx (pc' := 23) (Ls' := #[.val (.ref a1), .val (.int (3 : Int32)), .val (.int (1 : Int32)), .val (.int (0 : Int32)), .unset]) (hb hby d23_22) rfl rfl ?_
  refine o_goto X2 hx (pc' := 4) (hb hby d23_23) (by decide) (by decide) ?_
  refine o_aloadN X2 hx (pc' := 5) (hb hby d23_4) rfl rfl rfl ?_
  refine o_getfield X2 hx hZ hown (hw _ (List.mem_of_getElem? (i := 79) rfl)) e2 hPa (hb hby d23_5) (pc' := 8) rfl ?_
  intro T3 X3 e3
  refine o_iloadN X3 hx (pc' := 9) (hb hby d23_8) rfl rfl ?_
  refine o_iaload X3 hx hZ e3 vPa (by decide) (v := (.int (-1 : Int32))) hp0 (hb hby d23_9) (pc' := 10) rfl ?_
  refine o_if_lt X3 hx (pc' := 13) (pt := 26) (hb hby d23_10) rfl (by decide) (by decide) (fun _ => ?_) (fun q => absurd (by decide) q)
  refine o_iloadN X3 hx (pc' := 27) (hb hby d23_26) rfl rfl ?_
  refine o_newarray X3 hx hZ e3 (hw _ (List.mem_of_getElem? (i := 78) rfl)) (hb hby d23_27) (pc' := 29) rfl (by decide) 1 (by decide) (by decide) (by decide) (by decide) ?_
  intro T4 h4 b4 k4 g4 X4 e4 E4 V4
  have lt_a1_b4 : a1 < b4 := Nat.lt_of_lt_of_le hPa.lt (Nat.le_of_eq g4.symm)
  have ne_a1_b4 : a1 ≠ b4 := Nat.ne_of_lt lt_a1_b4
  have lt_mo_b4 : mo < b4 := Nat.lt_of_lt_of_le vMo.lt (Nat.le_of_eq g4.symm)
  have ne_mo_b4 : mo ≠ b4 := Nat.ne_of_lt lt_mo_b4
  have lt_pa_b4 : pa < b4 := Nat.lt_of_lt_of_le vPa.lt (Nat.le_of_eq g4.symm)
  have ne_pa_b4 : pa ≠ b4 := Nat.ne_of_lt lt_pa_b4
  have g_b4 : n0 ≤ b4 := Nat.le_trans ZZ (Nat.le_of_eq g4.symm)
  have sz_b4 : h0.size ≤ b4 := Nat.le_trans KK.1 (Nat.le_of_eq g4.symm)
  have KK := KK.ext E4
  have ZZ := Nat.le_trans ZZ E4.1
  have hPa := hPa.ext E4
  have hMo := hMo.ext E4
  have vPa := vPa.ext E4
  have vMo := vMo.ext E4
  have vL : Arv Z h4 b4 k4 .int (1 : Int32) [.int 0] (.int 0) := V4.pad (pad_rep [] _ 1)
  refine o_astoreN X4 hx (pc' := 30) (Ls' := #[.val (.ref a1), .val (.int (3 : Int32)), .val (.int (1 : Int32)), .val (.ref b4), .unset]) (hb hby d23_29) rfl rfl rfl ?_
  refine o_iloadN X4 hx (pc' := 31) (hb hby d23_30) rfl rfl ?_
  refine o_istore X4 hx (pc' := 33) (Ls' := #[.val (.ref a1), .val (.int (3 : Int32)), .val (.int (1 : Int32)), .val (.ref b4), .val (.int (3 : Int32))]) (hb hby d23_31) rfl rfl ?_
  refine o_aloadN X4 hx (pc' := 34) (hb hby d23_33) rfl rfl rfl ?_
  refine o_getfield X4 hx hZ hown (hw _ (List.mem_of_getElem? (i := 79) rfl)) e4 hPa (hb hby d23_34) (pc' := 37) rfl ?_
  intro T5 X5 e5
  refine o_iload X5 hx (pc' := 39) (hb hby d23_37) rfl rfl ?_
  refine o_iaload X5 hx hZ e5 vPa (by decide) (v := (.int (0 : Int32))) hp3 (hb hby d23_39) (pc' := 40) rfl ?_
  refine o_if_lt X5 hx (pc' := 43) (pt := 68) (hb hby d23_40) rfl (by decide) (by decide) (fun q => absurd q (by decide)) (fun _ => ?_)
  refine o_aloadN X5 hx (pc' := 44) (hb hby d23_43) rfl rfl rfl ?_
  refine o_iinc X5 hx (pc' := 47) (Ls' := #[.val (.ref a1), .val (.int (3 : Int32)), .val (.int (0 : Int32)), .val (.ref b4), .val (.int (3 : Int32))]) (v := (-1 : Int32)) (hb hby d23_44) rfl rfl rfl rfl ?_
  refine o_iloadN X5 hx (pc' := 48) (hb hby d23_47) rfl rfl ?_
  refine o_aloadN X5 hx (pc' := 49) (hb hby d23_48) rfl rfl rfl ?_
  refine o_getfield X5 hx hZ hown (hw _ (List.mem_of_getElem? (i := 81) rfl)) e5 hMo (hb hby d23_49) (pc' := 52) rfl ?_
  intro T6 X6 e6
  refine o_iload X6 hx (pc' := 54) (hb hby d23_52) rfl rfl ?_
  refine o_iaload X6 hx hZ e6 vMo (by decide) (v := (.int m3)) hm3 (hb hby d23_54) (pc' := 55) rfl ?_
  refine o_iastore X6 hx hZ e6 vL (by decide) 0 rfl (Nat.le_of_ble_eq_true rfl) (hb hby d23_55) (pc' := 56) rfl ?_
  intro T7 h7 X7 e7 W7 V7
  have NN := Fr.snoc X7 NN g_b4
  have KK := KK.wr W7 (Or.inr sz_b4)
  have ZZ := Nat.le_trans ZZ (Keep.of_wr W7).1
  have hPa := hPa.other W7 (Or.inl ne_a1_b4)
  have hMo := hMo.other W7 (Or.inl ne_a1_b4)
  have vPa := vPa.other W7 ne_pa_b4
  have vMo := vMo.other W7 ne_mo_b4
  have vL : Arv Z h7 b4 k4 .int 1 [.int m3] (.int 0) := V7
  refine o_aloadN X7 hx (pc' := 57) (hb hby d23_56) rfl rfl rfl ?_
  refine o_getfield X7 hx hZ hown (hw _ (List.mem_of_getElem? (i := 79) rfl)) e7 hPa (hb hby d23_57) (pc' := 60) rfl ?_
  intro T8 X8 e8
  refine o_iload X8 hx (pc' := 62) (hb hby d23_60) rfl rfl ?_
  refine o_iaload X8 hx hZ e8 vPa (by decide) (v := (.int (0 : Int32))) hp3 (hb hby d23_62) (pc' := 63) rfl ?_
  refine o_istore X8 hx (pc' := 65) (Ls' := #[.val (.ref a1), .val (.int (3 : Int32)), .val (.int (0 : Int32)), .val (.ref b4), .val (.int (0 : Int32))]) (hb hby d23_63) rfl rfl ?_
  refine o_goto X8 hx (pc' := 33) (hb hby d23_65) (by decide) (by decide) ?_
  refine o_aloadN X8 hx (pc' := 34) (hb hby d23_33) rfl rfl rfl ?_
  refine o_getfield X8 hx hZ hown (hw _ (List.mem_of_getElem? (i := 79) rfl)) e8 hPa (hb hby d23_34) (pc' := 37) rfl ?_
  intro T9 X9 e9
  refine o_iload X9 hx (pc' := 39) (hb hby d23_37) rfl rfl ?_
  refine o_iaload X9 hx hZ e9 vPa (by decide) (v := (.int (-1 : Int32))) hp0 (hb hby d23_39) (pc' := 40) rfl ?_
  refine o_if_lt X9 hx (pc' := 43) (pt := 68) (hb hby d23_40) rfl (by decide) (by decide) (fun _ => ?_) (fun q => absurd (by decide) q)
  refine o_aloadN X9 hx (pc' := 69) (hb hby d23_68) rfl rfl rfl ?_
  exact finA X9 hx hlk rfl hret rfl rfl (hb hby d23_69) (by decide) (by decide) ⟨b4, k4, rfl, NN, by rw [e9]; exact KK, sz_b4, by rw [e9]; exact vL⟩
set_option maxRecDepth 65536 in
set_option maxHeartbeats 40000000 in
theorem rmM310 (l : Launch) (Z : State) (a0 : Array Value) (hw : ∀ d ∈ tables_1, d.before a0 Z = true) (h0 : Heap) (n0 : Nat) (Z0 : n0 ≤ h0.size) (a1 : Addr) (n : Int32) (pv mv : List Value) (f : Nat → Int32) (hT : Tab Z h0 a1 n pv mv f) (hp3 : pv.getD ((3 : Int32)).toNatClampNeg (.int 0) = .int (1)) (hp1 : pv.getD ((1 : Int32)).toNatClampNeg (.int 0) = .int (0)) (hp0 : pv.getD ((0 : Int32)).toNatClampNeg (.int 0) = .int (-1)) (m3 : Int32) (hm3 : mv.getD ((3 : Int32)).toNatClampNeg (.int 0) = .int m3) (m1 : Int32) (hm1 : mv.getD ((1 : Int32)).toNatClampNeg (.int 0) = .int m1) : Ctr l Z (⟨"com/example/jadoube/jadoube/PositionTable", "movesTo", "(I)[I"⟩ : MethodName) prog_33_method_6_code 5 (some (.array .int)) [] ({ frames := 0, cells := 1, slots := 2, locals := 0 } : Room) #[(.ref a1), (.int (3 : Int32))] h0 (fun v h L => ∃ b kb, v = some (.ref b) ∧ Fr n0 L ∧ Keep h0 h [] ∧ h0.size ≤ b ∧ Arv Z h b kb .int 2 [.int m1, .int m3] (.int 0)) := by
  refine ctr_mk pn_23 (own := "com/example/jadoube/jadoube/PositionTable") (mn := "movesTo") rfl rfl ?_
  intro p e s m below meth c T0 X0 hx hby hml hZ hown hnm hret hlk e0
  refine o_entry (ef_23_a1_3 m a1) ?_
  obtain ⟨ge, sc, wd, pa, mo, sl, k1, k2, k3, k4, k5, x, y, vs, u, w, o1, o2, o3, o4, o5, o6, hE, gE, hWi, hSc, hWo, hPa, hMo, hSl, hSz, hGe, gM, gS, vSc, vWd, vPa, vMo, vSl⟩ := hT
  have NN := Fr.nil n0
  have ZZ := Z0
  have KK := Keep.refl h0 []
  refine o_iconst X0 hx (pc' := 1) (v := (0 : Int32)) (hb hby d23_0) rfl rfl ?_
  refine o_istoreN X0 hx (pc' := 2) (Ls' := #[.val (.ref a1), .val (.int (3 : Int32)), .val (.int (0 : Int32)), .unset, .unset]) (hb hby d23_1) rfl rfl ?_
  refine o_iloadN X0 hx (pc' := 3) (hb hby d23_2) rfl rfl ?_
  refine o_istoreN X0 hx (pc' := 4) (Ls' := #[.val (.ref a1), .val (.int (3 : Int32)), .val (.int (0 : Int32)), .val (.int (3 : Int32)), .unset]) (hb hby d23_3) rfl rfl ?_
  refine o_aloadN X0 hx (pc' := 5) (hb hby d23_4) rfl rfl rfl ?_
  refine o_getfield X0 hx hZ hown (hw _ (List.mem_of_getElem? (i := 79) rfl)) e0 hPa (hb hby d23_5) (pc' := 8) rfl ?_
  intro T1 X1 e1
  refine o_iloadN X1 hx (pc' := 9) (hb hby d23_8) rfl rfl ?_
  refine o_iaload X1 hx hZ e1 vPa (by decide) (v := (.int (1 : Int32))) hp3 (hb hby d23_9) (pc' := 10) rfl ?_
  refine o_if_lt X1 hx (pc' := 13) (pt := 26) (hb hby d23_10) rfl (by decide) (by decide) (fun q => absurd q (by decide)) (fun _ => ?_)
  refine o_iinc X1 hx (pc' := 16) (Ls' := #[.val (.ref a1), .val (.int (3 : Int32)), .val (.int (1 : Int32)), .val (.int (3 : Int32)), .unset]) (v := (1 : Int32)) (hb hby d23_13) rfl rfl rfl rfl ?_
  refine o_aloadN X1 hx (pc' := 17) (hb hby d23_16) rfl rfl rfl ?_
  refine o_getfield X1 hx hZ hown (hw _ (List.mem_of_getElem? (i := 79) rfl)) e1 hPa (hb hby d23_17) (pc' := 20) rfl ?_
  intro T2 X2 e2
  refine o_iloadN X2 hx (pc' := 21) (hb hby d23_20) rfl rfl ?_
  refine o_iaload X2 hx hZ e2 vPa (by decide) (v := (.int (1 : Int32))) hp3 (hb hby d23_21) (pc' := 22) rfl ?_
  refine o_istoreN X2 hx (pc' := 23) (Ls' := #[.val (.ref a1), .val (.int (3 : Int32)), .val (.int (1 : Int32)), .val (.int (1 : Int32)), .unset]) (hb hby d23_22) rfl rfl ?_
  refine o_goto X2 hx (pc' := 4) (hb hby d23_23) (by decide) (by decide) ?_
  refine o_aloadN X2 hx (pc' := 5) (hb hby d23_4) rfl rfl rfl ?_
  refine o_getfield X2 hx hZ hown (hw _ (List.mem_of_getElem? (i := 79) rfl)) e2 hPa (hb hby d23_5) (pc' := 8) rfl ?_
  intro T3 X3 e3
  refine o_iloadN X3 hx (pc' := 9) (hb hby d23_8) rfl rfl ?_
  refine o_iaload X3 hx hZ e3 vPa (by decide) (v := (.int (0 : Int32))) hp1 (hb hby d23_9) (pc' := 10) rfl ?_
  refine o_if_lt X3 hx (pc' := 13) (pt := 26) (hb hby d23_10) rfl (by decide) (by decide) (fun q => absurd q (by decide)) (fun _ => ?_)
  refine o_iinc X3 hx (pc' := 16) (Ls' := #[.val (.ref a1), .val (.int (3 : Int32)), .val (.int (2 : Int32)), .val (.int (1 : Int32)), .unset]) (v := (1 : Int32)) (hb hby d23_13) rfl rfl rfl rfl ?_
  refine o_aloadN X3 hx (pc' := 17) (hb hby d23_16) rfl rfl rfl ?_
  refine o_getfield X3 hx hZ hown (hw _ (List.mem_of_getElem? (i := 79) rfl)) e3 hPa (hb hby d23_17) (pc' := 20) rfl ?_
  intro T4 X4 e4
  refine o_iloadN X4 hx (pc' := 21) (hb hby d23_20) rfl rfl ?_
  refine o_iaload X4 hx hZ e4 vPa (by decide) (v := (.int (0 : Int32))) hp1 (hb hby d23_21) (pc' := 22) rfl ?_
  refine o_istoreN X4 hx (pc' := 23) (Ls' := #[.val (.ref a1), .val (.int (3 : Int32)), .val (.int (2 : Int32)), .val (.int (0 : Int32)), .unset]) (hb hby d23_22) rfl rfl ?_
  refine o_goto X4 hx (pc' := 4) (hb hby d23_23) (by decide) (by decide) ?_
  refine o_aloadN X4 hx (pc' := 5) (hb hby d23_4) rfl rfl rfl ?_
  refine o_getfield X4 hx hZ hown (hw _ (List.mem_of_getElem? (i := 79) rfl)) e4 hPa (hb hby d23_5) (pc' := 8) rfl ?_
  intro T5 X5 e5
  refine o_iloadN X5 hx (pc' := 9) (hb hby d23_8) rfl rfl ?_
  refine o_iaload X5 hx hZ e5 vPa (by decide) (v := (.int (-1 : Int32))) hp0 (hb hby d23_9) (pc' := 10) rfl ?_
  refine o_if_lt X5 hx (pc' := 13) (pt := 26) (hb hby d23_10) rfl (by decide) (by decide) (fun _ => ?_) (fun q => absurd (by decide) q)
  refine o_iloadN X5 hx (pc' := 27) (hb hby d23_26) rfl rfl ?_
  refine o_newarray X5 hx hZ e5 (hw _ (List.mem_of_getElem? (i := 78) rfl)) (hb hby d23_27) (pc' := 29) rfl (by decide) 2 (by decide) (by decide) (by decide) (by decide) ?_
  intro T6 h6 b6 k6 g6 X6 e6 E6 V6
  have lt_a1_b6 : a1 < b6 := Nat.lt_of_lt_of_le hPa.lt (Nat.le_of_eq g6.symm)
  have ne_a1_b6 : a1 ≠ b6 := Nat.ne_of_lt lt_a1_b6
  have lt_mo_b6 : mo < b6 := Nat.lt_of_lt_of_le vMo.lt (Nat.le_of_eq g6.symm)
  have ne_mo_b6 : mo ≠ b6 := Nat.ne_of_lt lt_mo_b6
  have lt_pa_b6 : pa < b6 := Nat.lt_of_lt_of_le vPa.lt (Nat.le_of_eq g6.symm)
  have ne_pa_b6 : pa ≠ b6 := Nat.ne_of_lt lt_pa_b6
  have g_b6 : n0 ≤ b6 := Nat.le_trans ZZ (Nat.le_of_eq g6.symm)
  have sz_b6 : h0.size ≤ b6 := Nat.le_trans KK.1 (Nat.le_of_eq g6.symm)
  have KK := KK.ext E6
  have ZZ := Nat.le_trans ZZ E6.1
  have hPa := hPa.ext E6
  have hMo := hMo.ext E6
  have vPa := vPa.ext E6
  have vMo := vMo.ext E6
  have vL : Arv Z h6 b6 k6 .int (2 : Int32) [.int 0, .int 0] (.int 0) := V6.pad (pad_rep [] _ 2)
  refine o_astoreN X6 hx (pc' := 30) (Ls' := #[.val (.ref a1), .val (.int (3 : Int32)), .val (.int (2 : Int32)), .val (.ref b6), .unset]) (hb hby d23_29) rfl rfl rfl ?_
  refine o_iloadN X6 hx (pc' := 31) (hb hby d23_30) rfl rfl ?_
  refine o_istore X6 hx (pc' := 33) (Ls' := #[.val (.ref a1), .val (.int (3 : Int32)), .val (.int (2 : Int32)), .val (.ref b6), .val (.int (3 : Int32))]) (hb hby d23_31) rfl rfl ?_
  refine o_aloadN X6 hx (pc' := 34) (hb hby d23_33) rfl rfl rfl ?_
  refine o_getfield X6 hx hZ hown (hw _ (List.mem_of_getElem? (i := 79) rfl)) e6 hPa (hb hby d23_34) (pc' := 37) rfl ?_
  intro T7 X7 e7
  refine o_iload X7 hx (pc' := 39) (hb hby d23_37) rfl rfl ?_
  refine o_iaload X7 hx hZ e7 vPa (by decide) (v := (.int (1 : Int32))) hp3 (hb hby d23_39) (pc' := 40) rfl ?_
  refine o_if_lt X7 hx (pc' := 43) (pt := 68) (hb hby d23_40) rfl (by decide) (by decide) (fun q => absurd q (by decide)) (fun _ => ?_)
  refine o_aloadN X7 hx (pc' := 44) (hb hby d23_43) rfl rfl rfl ?_
  refine o_iinc X7 hx (pc' := 47) (Ls' := #[.val (.ref a1), .val (.int (3 : Int32)), .val (.int (1 : Int32)), .val (.ref b6), .val (.int (3 : Int32))]) (v := (-1 : Int32)) (hb hby d23_44) rfl rfl rfl rfl ?_
  refine o_iloadN X7 hx (pc' := 48) (hb hby d23_47) rfl rfl ?_
  refine o_aloadN X7 hx (pc' := 49) (hb hby d23_48) rfl rfl rfl ?_
  refine o_getfield X7 hx hZ hown (hw _ (List.mem_of_getElem? (i := 81) rfl)) e7 hMo (hb hby d23_49) (pc' := 52) rfl ?_
  intro T8 X8 e8
  refine o_iload X8 hx (pc' := 54) (hb hby d23_52) rfl rfl ?_
  refine o_iaload X8 hx hZ e8 vMo (by decide) (v := (.int m3)) hm3 (hb hby d23_54) (pc' := 55) rfl ?_
  refine o_iastore X8 hx hZ e8 vL (by decide) 1 rfl (Nat.le_of_ble_eq_true rfl) (hb hby d23_55) (pc' := 56) rfl ?_
  intro T9 h9 X9 e9 W9 V9
  have NN := Fr.snoc X9 NN g_b6
  have KK := KK.wr W9 (Or.inr sz_b6)
  have ZZ := Nat.le_trans ZZ (Keep.of_wr W9).1
  have hPa := hPa.other W9 (Or.inl ne_a1_b6)
  have hMo := hMo.other W9 (Or.inl ne_a1_b6)
  have vPa := vPa.other W9 ne_pa_b6
  have vMo := vMo.other W9 ne_mo_b6
  have vL : Arv Z h9 b6 k6 .int 2 [.int 0, .int m3] (.int 0) := V9
  refine o_aloadN X9 hx (pc' := 57) (hb hby d23_56) rfl rfl rfl ?_
  refine o_getfield X9 hx hZ hown (hw _ (List.mem_of_getElem? (i := 79) rfl)) e9 hPa (hb hby d23_57) (pc' := 60) rfl ?_
  intro T10 X10 e10
  refine o_iload X10 hx (pc' := 62) (hb hby d23_60) rfl rfl ?_
  refine o_iaload X10 hx hZ e10 vPa (by decide) (v := (.int (1 : Int32))) hp3 (hb hby d23_62) (pc' := 63) rfl ?_
  refine o_istore X10 hx (pc' := 65) (Ls' := #[.val (.ref a1), .val (.int (3 : Int32)), .val (.int (1 : Int32)), .val (.ref b6), .val (.int (1 : Int32))]) (hb hby d23_63) rfl rfl ?_
  refine o_goto X10 hx (pc' := 33) (hb hby d23_65) (by decide) (by decide) ?_
  refine o_aloadN X10 hx (pc' := 34) (hb hby d23_33) rfl rfl rfl ?_
  refine o_getfield X10 hx hZ hown (hw _ (List.mem_of_getElem? (i := 79) rfl)) e10 hPa (hb hby d23_34) (pc' := 37) rfl ?_
  intro T11 X11 e11
  refine o_iload X11 hx (pc' := 39) (hb hby d23_37) rfl rfl ?_
  refine o_iaload X11 hx hZ e11 vPa (by decide) (v := (.int (0 : Int32))) hp1 (hb hby d23_39) (pc' := 40) rfl ?_
  refine o_if_lt X11 hx (pc' := 43) (pt := 68) (hb hby d23_40) rfl (by decide) (by decide) (fun q => absurd q (by decide)) (fun _ => ?_)
  refine o_aloadN X11 hx (pc' := 44) (hb hby d23_43) rfl rfl rfl ?_
  refine o_iinc X11 hx (pc' := 47) (Ls' := #[.val (.ref a1), .val (.int (3 : Int32)), .val (.int (0 : Int32)), .val (.ref b6), .val (.int (1 : Int32))]) (v := (-1 : Int32)) (hb hby d23_44) rfl rfl rfl rfl ?_
  refine o_iloadN X11 hx (pc' := 48) (hb hby d23_47) rfl rfl ?_
  refine o_aloadN X11 hx (pc' := 49) (hb hby d23_48) rfl rfl rfl ?_
  refine o_getfield X11 hx hZ hown (hw _ (List.mem_of_getElem? (i := 81) rfl)) e11 hMo (hb hby d23_49) (pc' := 52) rfl ?_
  intro T12 X12 e12
  refine o_iload X12 hx (pc' := 54) (hb hby d23_52) rfl rfl ?_
  refine o_iaload X12 hx hZ e12 vMo (by decide) (v := (.int m1)) hm1 (hb hby d23_54) (pc' := 55) rfl ?_
  refine o_iastore X12 hx hZ e12 vL (by decide) 0 rfl (Nat.le_of_ble_eq_true rfl) (hb hby d23_55) (pc' := 56) rfl ?_
  intro T13 h13 X13 e13 W13 V13
  have NN := Fr.snoc X13 NN g_b6
  have KK := KK.wr W13 (Or.inr sz_b6)
  have ZZ := Nat.le_trans ZZ (Keep.of_wr W13).1
  have hPa := hPa.other W13 (Or.inl ne_a1_b6)
  have hMo := hMo.other W13 (Or.inl ne_a1_b6)
  have vPa := vPa.other W13 ne_pa_b6
  have vMo := vMo.other W13 ne_mo_b6
  have vL : Arv Z h13 b6 k6 .int 2 [.int m1, .int m3] (.int 0) := V13
  refine o_aloadN X13 hx (pc' := 57) (hb hby d23_56) rfl rfl rfl ?_
  refine o_getfield X13 hx hZ hown (hw _ (List.mem_of_getElem? (i := 79) rfl)) e13 hPa (hb hby d23_57) (pc' := 60) rfl ?_
  intro T14 X14 e14
  refine o_iload X14 hx (pc' := 62) (hb hby d23_60) rfl rfl ?_
  refine o_iaload X14 hx hZ e14 vPa (by decide) (v := (.int (0 : Int32))) hp1 (hb hby d23_62) (pc' := 63) rfl ?_
  refine o_istore X14 hx (pc' := 65) (Ls' := #[.val (.ref a1), .val (.int (3 : Int32)), .val (.int (0 : Int32)), .val (.ref b6), .val (.int (0 : Int32))]) (hb hby d23_63) rfl rfl ?_
  refine o_goto X14 hx (pc' := 33) (hb hby d23_65) (by decide) (by decide) ?_
  refine o_aloadN X14 hx (pc' := 34) (hb hby d23_33) rfl rfl rfl ?_
  refine o_getfield X14 hx hZ hown (hw _ (List.mem_of_getElem? (i := 79) rfl)) e14 hPa (hb hby d23_34) (pc' := 37) rfl ?_
  intro T15 X15 e15
  refine o_iload X15 hx (pc' := 39) (hb hby d23_37) rfl rfl ?_
  refine o_iaload X15 hx hZ e15 vPa (by decide) (v := (.int (-1 : Int32))) hp0 (hb hby d23_39) (pc' := 40) rfl ?_
  refine o_if_lt X15 hx (pc' := 43) (pt := 68) (hb hby d23_40) rfl (by decide) (by decide) (fun _ => ?_) (fun q => absurd (by decide) q)
  refine o_aloadN X15 hx (pc' := 69) (hb hby d23_68) rfl rfl rfl ?_
  exact finA X15 hx hlk rfl hret rfl rfl (hb hby d23_69) (by decide) (by decide) ⟨b6, k6, rfl, NN, by rw [e15]; exact KK, sz_b6, by rw [e15]; exact vL⟩
set_option maxRecDepth 65536 in
set_option maxHeartbeats 40000000 in
theorem rmM320 (l : Launch) (Z : State) (a0 : Array Value) (hw : ∀ d ∈ tables_1, d.before a0 Z = true) (h0 : Heap) (n0 : Nat) (Z0 : n0 ≤ h0.size) (a1 : Addr) (n : Int32) (pv mv : List Value) (f : Nat → Int32) (hT : Tab Z h0 a1 n pv mv f) (hp3 : pv.getD ((3 : Int32)).toNatClampNeg (.int 0) = .int (2)) (hp2 : pv.getD ((2 : Int32)).toNatClampNeg (.int 0) = .int (0)) (hp0 : pv.getD ((0 : Int32)).toNatClampNeg (.int 0) = .int (-1)) (m3 : Int32) (hm3 : mv.getD ((3 : Int32)).toNatClampNeg (.int 0) = .int m3) (m2 : Int32) (hm2 : mv.getD ((2 : Int32)).toNatClampNeg (.int 0) = .int m2) : Ctr l Z (⟨"com/example/jadoube/jadoube/PositionTable", "movesTo", "(I)[I"⟩ : MethodName) prog_33_method_6_code 5 (some (.array .int)) [] ({ frames := 0, cells := 1, slots := 2, locals := 0 } : Room) #[(.ref a1), (.int (3 : Int32))] h0 (fun v h L => ∃ b kb, v = some (.ref b) ∧ Fr n0 L ∧ Keep h0 h [] ∧ h0.size ≤ b ∧ Arv Z h b kb .int 2 [.int m2, .int m3] (.int 0)) := by
  refine ctr_mk pn_23 (own := "com/example/jadoube/jadoube/PositionTable") (mn := "movesTo") rfl rfl ?_
  intro p e s m below meth c T0 X0 hx hby hml hZ hown hnm hret hlk e0
  refine o_entry (ef_23_a1_3 m a1) ?_
  obtain ⟨ge, sc, wd, pa, mo, sl, k1, k2, k3, k4, k5, x, y, vs, u, w, o1, o2, o3, o4, o5, o6, hE, gE, hWi, hSc, hWo, hPa, hMo, hSl, hSz, hGe, gM, gS, vSc, vWd, vPa, vMo, vSl⟩ := hT
  have NN := Fr.nil n0
  have ZZ := Z0
  have KK := Keep.refl h0 []
  refine o_iconst X0 hx (pc' := 1) (v := (0 : Int32)) (hb hby d23_0) rfl rfl ?_
  refine o_istoreN X0 hx (pc' := 2) (Ls' := #[.val (.ref a1), .val (.int (3 : Int32)), .val (.int (0 : Int32)), .unset, .unset]) (hb hby d23_1) rfl rfl ?_
  refine o_iloadN X0 hx (pc' := 3) (hb hby d23_2) rfl rfl ?_
  refine o_istoreN X0 hx (pc' := 4) (Ls' := #[.val (.ref a1), .val (.int (3 : Int32)), .val (.int (0 : Int32)), .val (.int (3 : Int32)), .unset]) (hb hby d23_3) rfl rfl ?_
  refine o_aloadN X0 hx (pc' := 5) (hb hby d23_4) rfl rfl rfl ?_
  refine o_getfield X0 hx hZ hown (hw _ (List.mem_of_getElem? (i := 79) rfl)) e0 hPa (hb hby d23_5) (pc' := 8) rfl ?_
  intro T1 X1 e1
  refine o_iloadN X1 hx (pc' := 9) (hb hby d23_8) rfl rfl ?_
  refine o_iaload X1 hx hZ e1 vPa (by decide) (v := (.int (2 : Int32))) hp3 (hb hby d23_9) (pc' := 10) rfl ?_
  refine o_if_lt X1 hx (pc' := 13) (pt := 26) (hb hby d23_10) rfl (by decide) (by decide) (fun q => absurd q (by decide)) (fun _ => ?_)
  refine o_iinc X1 hx (pc' := 16) (Ls' := #[.val (.ref a1), .val (.int (3 : Int32)), .val (.int (1 : Int32)), .val (.int (3 : Int32)), .unset]) (v := (1 : Int32)) (hb hby d23_13) rfl rfl rfl rfl ?_
  refine o_aloadN X1 hx (pc' := 17) (hb hby d23_16) rfl rfl rfl ?_
  refine o_getfield X1 hx hZ hown (hw _ (List.mem_of_getElem? (i := 79) rfl)) e1 hPa (hb hby d23_17) (pc' := 20) rfl ?_
  intro T2 X2 e2
  refine o_iloadN X2 hx (pc' := 21) (hb hby d23_20) rfl rfl ?_
  refine o_iaload X2 hx hZ e2 vPa (by decide) (v := (.int (2 : Int32))) hp3 (hb hby d23_21) (pc' := 22) rfl ?_
  refine o_istoreN X2 hx (pc' := 23) (Ls' := #[.val (.ref a1), .val (.int (3 : Int32)), .val (.int (1 : Int32)), .val (.int (2 : Int32)), .unset]) (hb hby d23_22) rfl rfl ?_
  refine o_goto X2 hx (pc' := 4) (hb hby d23_23) (by decide) (by decide) ?_
  refine o_aloadN X2 hx (pc' := 5) (hb hby d23_4) rfl rfl rfl ?_
  refine o_getfield X2 hx hZ hown (hw _ (List.mem_of_getElem? (i := 79) rfl)) e2 hPa (hb hby d23_5) (pc' := 8) rfl ?_
  intro T3 X3 e3
  refine o_iloadN X3 hx (pc' := 9) (hb hby d23_8) rfl rfl ?_
  refine o_iaload X3 hx hZ e3 vPa (by decide) (v := (.int (0 : Int32))) hp2 (hb hby d23_9) (pc' := 10) rfl ?_
  refine o_if_lt X3 hx (pc' := 13) (pt := 26) (hb hby d23_10) rfl (by decide) (by decide) (fun q => absurd q (by decide)) (fun _ => ?_)
  refine o_iinc X3 hx (pc' := 16) (Ls' := #[.val (.ref a1), .val (.int (3 : Int32)), .val (.int (2 : Int32)), .val (.int (2 : Int32)), .unset]) (v := (1 : Int32)) (hb hby d23_13) rfl rfl rfl rfl ?_
  refine o_aloadN X3 hx (pc' := 17) (hb hby d23_16) rfl rfl rfl ?_
  refine o_getfield X3 hx hZ hown (hw _ (List.mem_of_getElem? (i := 79) rfl)) e3 hPa (hb hby d23_17) (pc' := 20) rfl ?_
  intro T4 X4 e4
  refine o_iloadN X4 hx (pc' := 21) (hb hby d23_20) rfl rfl ?_
  refine o_iaload X4 hx hZ e4 vPa (by decide) (v := (.int (0 : Int32))) hp2 (hb hby d23_21) (pc' := 22) rfl ?_
  refine o_istoreN X4 hx (pc' := 23) (Ls' := #[.val (.ref a1), .val (.int (3 : Int32)), .val (.int (2 : Int32)), .val (.int (0 : Int32)), .unset]) (hb hby d23_22) rfl rfl ?_
  refine o_goto X4 hx (pc' := 4) (hb hby d23_23) (by decide) (by decide) ?_
  refine o_aloadN X4 hx (pc' := 5) (hb hby d23_4) rfl rfl rfl ?_
  refine o_getfield X4 hx hZ hown (hw _ (List.mem_of_getElem? (i := 79) rfl)) e4 hPa (hb hby d23_5) (pc' := 8) rfl ?_
  intro T5 X5 e5
  refine o_iloadN X5 hx (pc' := 9) (hb hby d23_8) rfl rfl ?_
  refine o_iaload X5 hx hZ e5 vPa (by decide) (v := (.int (-1 : Int32))) hp0 (hb hby d23_9) (pc' := 10) rfl ?_
  refine o_if_lt X5 hx (pc' := 13) (pt := 26) (hb hby d23_10) rfl (by decide) (by decide) (fun _ => ?_) (fun q => absurd (by decide) q)
  refine o_iloadN X5 hx (pc' := 27) (hb hby d23_26) rfl rfl ?_
  refine o_newarray X5 hx hZ e5 (hw _ (List.mem_of_getElem? (i := 78) rfl)) (hb hby d23_27) (pc' := 29) rfl (by decide) 2 (by decide) (by decide) (by decide) (by decide) ?_
  intro T6 h6 b6 k6 g6 X6 e6 E6 V6
  have lt_a1_b6 : a1 < b6 := Nat.lt_of_lt_of_le hPa.lt (Nat.le_of_eq g6.symm)
  have ne_a1_b6 : a1 ≠ b6 := Nat.ne_of_lt lt_a1_b6
  have lt_mo_b6 : mo < b6 := Nat.lt_of_lt_of_le vMo.lt (Nat.le_of_eq g6.symm)
  have ne_mo_b6 : mo ≠ b6 := Nat.ne_of_lt lt_mo_b6
  have lt_pa_b6 : pa < b6 := Nat.lt_of_lt_of_le vPa.lt (Nat.le_of_eq g6.symm)
  have ne_pa_b6 : pa ≠ b6 := Nat.ne_of_lt lt_pa_b6
  have g_b6 : n0 ≤ b6 := Nat.le_trans ZZ (Nat.le_of_eq g6.symm)
  have sz_b6 : h0.size ≤ b6 := Nat.le_trans KK.1 (Nat.le_of_eq g6.symm)
  have KK := KK.ext E6
  have ZZ := Nat.le_trans ZZ E6.1
  have hPa := hPa.ext E6
  have hMo := hMo.ext E6
  have vPa := vPa.ext E6
  have vMo := vMo.ext E6
  have vL : Arv Z h6 b6 k6 .int (2 : Int32) [.int 0, .int 0] (.int 0) := V6.pad (pad_rep [] _ 2)
  refine o_astoreN X6 hx (pc' := 30) (Ls' := #[.val (.ref a1), .val (.int (3 : Int32)), .val (.int (2 : Int32)), .val (.ref b6), .unset]) (hb hby d23_29) rfl rfl rfl ?_
  refine o_iloadN X6 hx (pc' := 31) (hb hby d23_30) rfl rfl ?_
  refine o_istore X6 hx (pc' := 33) (Ls' := #[.val (.ref a1), .val (.int (3 : Int32)), .val (.int (2 : Int32)), .val (.ref b6), .val (.int (3 : Int32))]) (hb hby d23_31) rfl rfl ?_
  refine o_aloadN X6 hx (pc' := 34) (hb hby d23_33) rfl rfl rfl ?_
  refine o_getfield X6 hx hZ hown (hw _ (List.mem_of_getElem? (i := 79) rfl)) e6 hPa (hb hby d23_34) (pc' := 37) rfl ?_
  intro T7 X7 e7
  refine o_iload X7 hx (pc' := 39) (hb hby d23_37) rfl rfl ?_
  refine o_iaload X7 hx hZ e7 vPa (by decide) (v := (.int (2 : Int32))) hp3 (hb hby d23_39) (pc' := 40) rfl ?_
  refine o_if_lt X7 hx (pc' := 43) (pt := 68) (hb hby d23_40) rfl (by decide) (by decide) (fun q => absurd q (by decide)) (fun _ => ?_)
  refine o_aloadN X7 hx (pc' := 44) (hb hby d23_43) rfl rfl rfl ?_
  refine o_iinc X7 hx (pc' := 47) (Ls' := #[.val (.ref a1), .val (.int (3 : Int32)), .val (.int (1 : Int32)), .val (.ref b6), .val (.int (3 : Int32))]) (v := (-1 : Int32)) (hb hby d23_44) rfl rfl rfl rfl ?_
  refine o_iloadN X7 hx (pc' := 48) (hb hby d23_47) rfl rfl ?_
  refine o_aloadN X7 hx (pc' := 49) (hb hby d23_48) rfl rfl rfl ?_
  refine o_getfield X7 hx hZ hown (hw _ (List.mem_of_getElem? (i := 81) rfl)) e7 hMo (hb hby d23_49) (pc' := 52) rfl ?_
  intro T8 X8 e8
  refine o_iload X8 hx (pc' := 54) (hb hby d23_52) rfl rfl ?_
  refine o_iaload X8 hx hZ e8 vMo (by decide) (v := (.int m3)) hm3 (hb hby d23_54) (pc' := 55) rfl ?_
  refine o_iastore X8 hx hZ e8 vL (by decide) 1 rfl (Nat.le_of_ble_eq_true rfl) (hb hby d23_55) (pc' := 56) rfl ?_
  intro T9 h9 X9 e9 W9 V9
  have NN := Fr.snoc X9 NN g_b6
  have KK := KK.wr W9 (Or.inr sz_b6)
  have ZZ := Nat.le_trans ZZ (Keep.of_wr W9).1
  have hPa := hPa.other W9 (Or.inl ne_a1_b6)
  have hMo := hMo.other W9 (Or.inl ne_a1_b6)
  have vPa := vPa.other W9 ne_pa_b6
  have vMo := vMo.other W9 ne_mo_b6
  have vL : Arv Z h9 b6 k6 .int 2 [.int 0, .int m3] (.int 0) := V9
  refine o_aloadN X9 hx (pc' := 57) (hb hby d23_56) rfl rfl rfl ?_
  refine o_getfield X9 hx hZ hown (hw _ (List.mem_of_getElem? (i := 79) rfl)) e9 hPa (hb hby d23_57) (pc' := 60) rfl ?_
  intro T10 X10 e10
  refine o_iload X10 hx (pc' := 62) (hb hby d23_60) rfl rfl ?_
  refine o_iaload X10 hx hZ e10 vPa (by decide) (v := (.int (2 : Int32))) hp3 (hb hby d23_62) (pc' := 63) rfl ?_
  refine o_istore X10 hx (pc' := 65) (Ls' := #[.val (.ref a1), .val (.int (3 : Int32)), .val (.int (1 : Int32)), .val (.ref b6), .val (.int (2 : Int32))]) (hb hby d23_63) rfl rfl ?_
  refine o_goto X10 hx (pc' := 33) (hb hby d23_65) (by decide) (by decide) ?_
  refine o_aloadN X10 hx (pc' := 34) (hb hby d23_33) rfl rfl rfl ?_
  refine o_getfield X10 hx hZ hown (hw _ (List.mem_of_getElem? (i := 79) rfl)) e10 hPa (hb hby d23_34) (pc' := 37) rfl ?_
  intro T11 X11 e11
  refine o_iload X11 hx (pc' := 39) (hb hby d23_37) rfl rfl ?_
  refine o_iaload X11 hx hZ e11 vPa (by decide) (v := (.int (0 : Int32))) hp2 (hb hby d23_39) (pc' := 40) rfl ?_
  refine o_if_lt X11 hx (pc' := 43) (pt := 68) (hb hby d23_40) rfl (by decide) (by decide) (fun q => absurd q (by decide)) (fun _ => ?_)
  refine o_aloadN X11 hx (pc' := 44) (hb hby d23_43) rfl rfl rfl ?_
  refine o_iinc X11 hx (pc' := 47) (Ls' := #[.val (.ref a1), .val (.int (3 : Int32)), .val (.int (0 : Int32)), .val (.ref b6), .val (.int (2 : Int32))]) (v := (-1 : Int32)) (hb hby d23_44) rfl rfl rfl rfl ?_
  refine o_iloadN X11 hx (pc' := 48) (hb hby d23_47) rfl rfl ?_
  refine o_aloadN X11 hx (pc' := 49) (hb hby d23_48) rfl rfl rfl ?_
  refine o_getfield X11 hx hZ hown (hw _ (List.mem_of_getElem? (i := 81) rfl)) e11 hMo (hb hby d23_49) (pc' := 52) rfl ?_
  intro T12 X12 e12
  refine o_iload X12 hx (pc' := 54) (hb hby d23_52) rfl rfl ?_
  refine o_iaload X12 hx hZ e12 vMo (by decide) (v := (.int m2)) hm2 (hb hby d23_54) (pc' := 55) rfl ?_
  refine o_iastore X12 hx hZ e12 vL (by decide) 0 rfl (Nat.le_of_ble_eq_true rfl) (hb hby d23_55) (pc' := 56) rfl ?_
  intro T13 h13 X13 e13 W13 V13
  have NN := Fr.snoc X13 NN g_b6
  have KK := KK.wr W13 (Or.inr sz_b6)
  have ZZ := Nat.le_trans ZZ (Keep.of_wr W13).1
  have hPa := hPa.other W13 (Or.inl ne_a1_b6)
  have hMo := hMo.other W13 (Or.inl ne_a1_b6)
  have vPa := vPa.other W13 ne_pa_b6
  have vMo := vMo.other W13 ne_mo_b6
  have vL : Arv Z h13 b6 k6 .int 2 [.int m2, .int m3] (.int 0) := V13
  refine o_aloadN X13 hx (pc' := 57) (hb hby d23_56) rfl rfl rfl ?_
  refine o_getfield X13 hx hZ hown (hw _ (List.mem_of_getElem? (i := 79) rfl)) e13 hPa (hb hby d23_57) (pc' := 60) rfl ?_
  intro T14 X14 e14
  refine o_iload X14 hx (pc' := 62) (hb hby d23_60) rfl rfl ?_
  refine o_iaload X14 hx hZ e14 vPa (by decide) (v := (.int (0 : Int32))) hp2 (hb hby d23_62) (pc' := 63) rfl ?_
  refine o_istore X14 hx (pc' := 65) (Ls' := #[.val (.ref a1), .val (.int (3 : Int32)), .val (.int (0 : Int32)), .val (.ref b6), .val (.int (0 : Int32))]) (hb hby d23_63) rfl rfl ?_
  refine o_goto X14 hx (pc' := 33) (hb hby d23_65) (by decide) (by decide) ?_
  refine o_aloadN X14 hx (pc' := 34) (hb hby d23_33) rfl rfl rfl ?_
  refine o_getfield X14 hx hZ hown (hw _ (List.mem_of_getElem? (i := 79) rfl)) e14 hPa (hb hby d23_34) (pc' := 37) rfl ?_
  intro T15 X15 e15
  refine o_iload X15 hx (pc' := 39) (hb hby d23_37) rfl rfl ?_
  refine o_iaload X15 hx hZ e15 vPa (by decide) (v := (.int (-1 : Int32))) hp0 (hb hby d23_39) (pc' := 40) rfl ?_
  refine o_if_lt X15 hx (pc' := 43) (pt := 68) (hb hby d23_40) rfl (by decide) (by decide) (fun _ => ?_) (fun q => absurd (by decide) q)
  refine o_aloadN X15 hx (pc' := 69) (hb hby d23_68) rfl rfl rfl ?_
  exact finA X15 hx hlk rfl hret rfl rfl (hb hby d23_69) (by decide) (by decide) ⟨b6, k6, rfl, NN, by rw [e15]; exact KK, sz_b6, by rw [e15]; exact vL⟩
set_option maxRecDepth 65536 in
set_option maxHeartbeats 40000000 in
theorem rmM3210 (l : Launch) (Z : State) (a0 : Array Value) (hw : ∀ d ∈ tables_1, d.before a0 Z = true) (h0 : Heap) (n0 : Nat) (Z0 : n0 ≤ h0.size) (a1 : Addr) (n : Int32) (pv mv : List Value) (f : Nat → Int32) (hT : Tab Z h0 a1 n pv mv f) (hp3 : pv.getD ((3 : Int32)).toNatClampNeg (.int 0) = .int (2)) (hp2 : pv.getD ((2 : Int32)).toNatClampNeg (.int 0) = .int (1)) (hp1 : pv.getD ((1 : Int32)).toNatClampNeg (.int 0) = .int (0)) (hp0 : pv.getD ((0 : Int32)).toNatClampNeg (.int 0) = .int (-1)) (m3 : Int32) (hm3 : mv.getD ((3 : Int32)).toNatClampNeg (.int 0) = .int m3) (m2 : Int32) (hm2 : mv.getD ((2 : Int32)).toNatClampNeg (.int 0) = .int m2) (m1 : Int32) (hm1 : mv.getD ((1 : Int32)).toNatClampNeg (.int 0) = .int m1) : Ctr l Z (⟨"com/example/jadoube/jadoube/PositionTable", "movesTo", "(I)[I"⟩ : MethodName) prog_33_method_6_code 5 (some (.array .int)) [] ({ frames := 0, cells := 1, slots := 3, locals := 0 } : Room) #[(.ref a1), (.int (3 : Int32))] h0 (fun v h L => ∃ b kb, v = some (.ref b) ∧ Fr n0 L ∧ Keep h0 h [] ∧ h0.size ≤ b ∧ Arv Z h b kb .int 3 [.int m1, .int m2, .int m3] (.int 0)) := by
  refine ctr_mk pn_23 (own := "com/example/jadoube/jadoube/PositionTable") (mn := "movesTo") rfl rfl ?_
  intro p e s m below meth c T0 X0 hx hby hml hZ hown hnm hret hlk e0
  refine o_entry (ef_23_a1_3 m a1) ?_
  obtain ⟨ge, sc, wd, pa, mo, sl, k1, k2, k3, k4, k5, x, y, vs, u, w, o1, o2, o3, o4, o5, o6, hE, gE, hWi, hSc, hWo, hPa, hMo, hSl, hSz, hGe, gM, gS, vSc, vWd, vPa, vMo, vSl⟩ := hT
  have NN := Fr.nil n0
  have ZZ := Z0
  have KK := Keep.refl h0 []
  refine o_iconst X0 hx (pc' := 1) (v := (0 : Int32)) (hb hby d23_0) rfl rfl ?_
  refine o_istoreN X0 hx (pc' := 2) (Ls' := #[.val (.ref a1), .val (.int (3 : Int32)), .val (.int (0 : Int32)), .unset, .unset]) (hb hby d23_1) rfl rfl ?_
  refine o_iloadN X0 hx (pc' := 3) (hb hby d23_2) rfl rfl ?_
  refine o_istoreN X0 hx (pc' := 4) (Ls' := #[.val (.ref a1), .val (.int (3 : Int32)), .val (.int (0 : Int32)), .val (.int (3 : Int32)), .unset]) (hb hby d23_3) rfl rfl ?_
  refine o_aloadN X0 hx (pc' := 5) (hb hby d23_4) rfl rfl rfl ?_
  refine o_getfield X0 hx hZ hown (hw _ (List.mem_of_getElem? (i := 79) rfl)) e0 hPa (hb hby d23_5) (pc' := 8) rfl ?_
  intro T1 X1 e1
  refine o_iloadN X1 hx (pc' := 9) (hb hby d23_8) rfl rfl ?_
  refine o_iaload X1 hx hZ e1 vPa (by decide) (v := (.int (2 : Int32))) hp3 (hb hby d23_9) (pc' := 10) rfl ?_
  refine o_if_lt X1 hx (pc' := 13) (pt := 26) (hb hby d23_10) rfl (by decide) (by decide) (fun q => absurd q (by decide)) (fun _ => ?_)
  refine o_iinc X1 hx (pc' := 16) (Ls' := #[.val (.ref a1), .val (.int (3 : Int32)), .val (.int (1 : Int32)), .val (.int (3 : Int32)), .unset]) (v := (1 : Int32)) (hb hby d23_13) rfl rfl rfl rfl ?_
  refine o_aloadN X1 hx (pc' := 17) (hb hby d23_16) rfl rfl rfl ?_
  refine o_getfield X1 hx hZ hown (hw _ (List.mem_of_getElem? (i := 79) rfl)) e1 hPa (hb hby d23_17) (pc' := 20) rfl ?_
  intro T2 X2 e2
  refine o_iloadN X2 hx (pc' := 21) (hb hby d23_20) rfl rfl ?_
  refine o_iaload X2 hx hZ e2 vPa (by decide) (v := (.int (2 : Int32))) hp3 (hb hby d23_21) (pc' := 22) rfl ?_
  refine o_istoreN X2 hx (pc' := 23) (Ls' := #[.val (.ref a1), .val (.int (3 : Int32)), .val (.int (1 : Int32)), .val (.int (2 : Int32)), .unset]) (hb hby d23_22) rfl rfl ?_
  refine o_goto X2 hx (pc' := 4) (hb hby d23_23) (by decide) (by decide) ?_
  refine o_aloadN X2 hx (pc' := 5) (hb hby d23_4) rfl rfl rfl ?_
  refine o_getfield X2 hx hZ hown (hw _ (List.mem_of_getElem? (i := 79) rfl)) e2 hPa (hb hby d23_5) (pc' := 8) rfl ?_
  intro T3 X3 e3
  refine o_iloadN X3 hx (pc' := 9) (hb hby d23_8) rfl rfl ?_
  refine o_iaload X3 hx hZ e3 vPa (by decide) (v := (.int (1 : Int32))) hp2 (hb hby d23_9) (pc' := 10) rfl ?_
  refine o_if_lt X3 hx (pc' := 13) (pt := 26) (hb hby d23_10) rfl (by decide) (by decide) (fun q => absurd q (by decide)) (fun _ => ?_)
  refine o_iinc X3 hx (pc' := 16) (Ls' := #[.val (.ref a1), .val (.int (3 : Int32)), .val (.int (2 : Int32)), .val (.int (2 : Int32)), .unset]) (v := (1 : Int32)) (hb hby d23_13) rfl rfl rfl rfl ?_
  refine o_aloadN X3 hx (pc' := 17) (hb hby d23_16) rfl rfl rfl ?_
  refine o_getfield X3 hx hZ hown (hw _ (List.mem_of_getElem? (i := 79) rfl)) e3 hPa (hb hby d23_17) (pc' := 20) rfl ?_
  intro T4 X4 e4
  refine o_iloadN X4 hx (pc' := 21) (hb hby d23_20) rfl rfl ?_
  refine o_iaload X4 hx hZ e4 vPa (by decide) (v := (.int (1 : Int32))) hp2 (hb hby d23_21) (pc' := 22) rfl ?_
  refine o_istoreN X4 hx (pc' := 23) (Ls' := #[.val (.ref a1), .val (.int (3 : Int32)), .val (.int (2 : Int32)), .val (.int (1 : Int32)), .unset]) (hb hby d23_22) rfl rfl ?_
  refine o_goto X4 hx (pc' := 4) (hb hby d23_23) (by decide) (by decide) ?_
  refine o_aloadN X4 hx (pc' := 5) (hb hby d23_4) rfl rfl rfl ?_
  refine o_getfield X4 hx hZ hown (hw _ (List.mem_of_getElem? (i := 79) rfl)) e4 hPa (hb hby d23_5) (pc' := 8) rfl ?_
  intro T5 X5 e5
  refine o_iloadN X5 hx (pc' := 9) (hb hby d23_8) rfl rfl ?_
  refine o_iaload X5 hx hZ e5 vPa (by decide) (v := (.int (0 : Int32))) hp1 (hb hby d23_9) (pc' := 10) rfl ?_
  refine o_if_lt X5 hx (pc' := 13) (pt := 26) (hb hby d23_10) rfl (by decide) (by decide) (fun q => absurd q (by decide)) (fun _ => ?_)
  refine o_iinc X5 hx (pc' := 16) (Ls' := #[.val (.ref a1), .val (.int (3 : Int32)), .val (.int (3 : Int32)), .val (.int (1 : Int32)), .unset]) (v := (1 : Int32)) (hb hby d23_13) rfl rfl rfl rfl ?_
  refine o_aloadN X5 hx (pc' := 17) (hb hby d23_16) rfl rfl rfl ?_
  refine o_getfield X5 hx hZ hown (hw _ (List.mem_of_getElem? (i := 79) rfl)) e5 hPa (hb hby d23_17) (pc' := 20) rfl ?_
  intro T6 X6 e6
  refine o_iloadN X6 hx (pc' := 21) (hb hby d23_20) rfl rfl ?_
  refine o_iaload X6 hx hZ e6 vPa (by decide) (v := (.int (0 : Int32))) hp1 (hb hby d23_21) (pc' := 22) rfl ?_
  refine o_istoreN X6 hx (pc' := 23) (Ls' := #[.val (.ref a1), .val (.int (3 : Int32)), .val (.int (3 : Int32)), .val (.int (0 : Int32)), .unset]) (hb hby d23_22) rfl rfl ?_
  refine o_goto X6 hx (pc' := 4) (hb hby d23_23) (by decide) (by decide) ?_
  refine o_aloadN X6 hx (pc' := 5) (hb hby d23_4) rfl rfl rfl ?_
  refine o_getfield X6 hx hZ hown (hw _ (List.mem_of_getElem? (i := 79) rfl)) e6 hPa (hb hby d23_5) (pc' := 8) rfl ?_
  intro T7 X7 e7
  refine o_iloadN X7 hx (pc' := 9) (hb hby d23_8) rfl rfl ?_
  refine o_iaload X7 hx hZ e7 vPa (by decide) (v := (.int (-1 : Int32))) hp0 (hb hby d23_9) (pc' := 10) rfl ?_
  refine o_if_lt X7 hx (pc' := 13) (pt := 26) (hb hby d23_10) rfl (by decide) (by decide) (fun _ => ?_) (fun q => absurd (by decide) q)
  refine o_iloadN X7 hx (pc' := 27) (hb hby d23_26) rfl rfl ?_
  refine o_newarray X7 hx hZ e7 (hw _ (List.mem_of_getElem? (i := 78) rfl)) (hb hby d23_27) (pc' := 29) rfl (by decide) 3 (by decide) (by decide) (by decide) (by decide) ?_
  intro T8 h8 b8 k8 g8 X8 e8 E8 V8
  have lt_a1_b8 : a1 < b8 := Nat.lt_of_lt_of_le hPa.lt (Nat.le_of_eq g8.symm)
  have ne_a1_b8 : a1 ≠ b8 := Nat.ne_of_lt lt_a1_b8
  have lt_mo_b8 : mo < b8 := Nat.lt_of_lt_of_le vMo.lt (Nat.le_of_eq g8.symm)
  have ne_mo_b8 : mo ≠ b8 := Nat.ne_of_lt lt_mo_b8
  have lt_pa_b8 : pa < b8 := Nat.lt_of_lt_of_le vPa.lt (Nat.le_of_eq g8.symm)
  have ne_pa_b8 : pa ≠ b8 := Nat.ne_of_lt lt_pa_b8
  have g_b8 : n0 ≤ b8 := Nat.le_trans ZZ (Nat.le_of_eq g8.symm)
  have sz_b8 : h0.size ≤ b8 := Nat.le_trans KK.1 (Nat.le_of_eq g8.symm)
  have KK := KK.ext E8
  have ZZ := Nat.le_trans ZZ E8.1
  have hPa := hPa.ext E8
  have hMo := hMo.ext E8
  have vPa := vPa.ext E8
  have vMo := vMo.ext E8
  have vL : Arv Z h8 b8 k8 .int (3 : Int32) [.int 0, .int 0, .int 0] (.int 0) := V8.pad (pad_rep [] _ 3)
  refine o_astoreN X8 hx (pc' := 30) (Ls' := #[.val (.ref a1), .val (.int (3 : Int32)), .val (.int (3 : Int32)), .val (.ref b8), .unset]) (hb hby d23_29) rfl rfl rfl ?_
  refine o_iloadN X8 hx (pc' := 31) (hb hby d23_30) rfl rfl ?_
  refine o_istore X8 hx (pc' := 33) (Ls' := #[.val (.ref a1), .val (.int (3 : Int32)), .val (.int (3 : Int32)), .val (.ref b8), .val (.int (3 : Int32))]) (hb hby d23_31) rfl rfl ?_
  refine o_aloadN X8 hx (pc' := 34) (hb hby d23_33) rfl rfl rfl ?_
  refine o_getfield X8 hx hZ hown (hw _ (List.mem_of_getElem? (i := 79) rfl)) e8 hPa (hb hby d23_34) (pc' := 37) rfl ?_
  intro T9 X9 e9
  refine o_iload X9 hx (pc' := 39) (hb hby d23_37) rfl rfl ?_
  refine o_iaload X9 hx hZ e9 vPa (by decide) (v := (.int (2 : Int32))) hp3 (hb hby d23_39) (pc' := 40) rfl ?_
  refine o_if_lt X9 hx (pc' := 43) (pt := 68) (hb hby d23_40) rfl (by decide) (by decide) (fun q => absurd q (by decide)) (fun _ => ?_)
  refine o_aloadN X9 hx (pc' := 44) (hb hby d23_43) rfl rfl rfl ?_
  refine o_iinc X9 hx (pc' := 47) (Ls' := #[.val (.ref a1), .val (.int (3 : Int32)), .val (.int (2 : Int32)), .val (.ref b8), .val (.int (3 : Int32))]) (v := (-1 : Int32)) (hb hby d23_44) rfl rfl rfl rfl ?_
  refine o_iloadN X9 hx (pc' := 48) (hb hby d23_47) rfl rfl ?_
  refine o_aloadN X9 hx (pc' := 49) (hb hby d23_48) rfl rfl rfl ?_
  refine o_getfield X9 hx hZ hown (hw _ (List.mem_of_getElem? (i := 81) rfl)) e9 hMo (hb hby d23_49) (pc' := 52) rfl ?_
  intro T10 X10 e10
  refine o_iload X10 hx (pc' := 54) (hb hby d23_52) rfl rfl ?_
  refine o_iaload X10 hx hZ e10 vMo (by decide) (v := (.int m3)) hm3 (hb hby d23_54) (pc' := 55) rfl ?_
  refine o_iastore X10 hx hZ e10 vL (by decide) 2 rfl (Nat.le_of_ble_eq_true rfl) (hb hby d23_55) (pc' := 56) rfl ?_
  intro T11 h11 X11 e11 W11 V11
  have NN := Fr.snoc X11 NN g_b8
  have KK := KK.wr W11 (Or.inr sz_b8)
  have ZZ := Nat.le_trans ZZ (Keep.of_wr W11).1
  have hPa := hPa.other W11 (Or.inl ne_a1_b8)
  have hMo := hMo.other W11 (Or.inl ne_a1_b8)
  have vPa := vPa.other W11 ne_pa_b8
  have vMo := vMo.other W11 ne_mo_b8
  have vL : Arv Z h11 b8 k8 .int 3 [.int 0, .int 0, .int m3] (.int 0) := V11
  refine o_aloadN X11 hx (pc' := 57) (hb hby d23_56) rfl rfl rfl ?_
  refine o_getfield X11 hx hZ hown (hw _ (List.mem_of_getElem? (i := 79) rfl)) e11 hPa (hb hby d23_57) (pc' := 60) rfl ?_
  intro T12 X12 e12
  refine o_iload X12 hx (pc' := 62) (hb hby d23_60) rfl rfl ?_
  refine o_iaload X12 hx hZ e12 vPa (by decide) (v := (.int (2 : Int32))) hp3 (hb hby d23_62) (pc' := 63) rfl ?_
  refine o_istore X12 hx (pc' := 65) (Ls' := #[.val (.ref a1), .val (.int (3 : Int32)), .val (.int (2 : Int32)), .val (.ref b8), .val (.int (2 : Int32))]) (hb hby d23_63) rfl rfl ?_
  refine o_goto X12 hx (pc' := 33) (hb hby d23_65) (by decide) (by decide) ?_
  refine o_aloadN X12 hx (pc' := 34) (hb hby d23_33) rfl rfl rfl ?_
  refine o_getfield X12 hx hZ hown (hw _ (List.mem_of_getElem? (i := 79) rfl)) e12 hPa (hb hby d23_34) (pc' := 37) rfl ?_
  intro T13 X13 e13
  refine o_iload X13 hx (pc' := 39) (hb hby d23_37) rfl rfl ?_
  refine o_iaload X13 hx hZ e13 vPa (by decide) (v := (.int (1 : Int32))) hp2 (hb hby d23_39) (pc' := 40) rfl ?_
  refine o_if_lt X13 hx (pc' := 43) (pt := 68) (hb hby d23_40) rfl (by decide) (by decide) (fun q => absurd q (by decide)) (fun _ => ?_)
  refine o_aloadN X13 hx (pc' := 44) (hb hby d23_43) rfl rfl rfl ?_
  refine o_iinc X13 hx (pc' := 47) (Ls' := #[.val (.ref a1), .val (.int (3 : Int32)), .val (.int (1 : Int32)), .val (.ref b8), .val (.int (2 : Int32))]) (v := (-1 : Int32)) (hb hby d23_44) rfl rfl rfl rfl ?_
  refine o_iloadN X13 hx (pc' := 48) (hb hby d23_47) rfl rfl ?_
  refine o_aloadN X13 hx (pc' := 49) (hb hby d23_48) rfl rfl rfl ?_
  refine o_getfield X13 hx hZ hown (hw _ (List.mem_of_getElem? (i := 81) rfl)) e13 hMo (hb hby d23_49) (pc' := 52) rfl ?_
  intro T14 X14 e14
  refine o_iload X14 hx (pc' := 54) (hb hby d23_52) rfl rfl ?_
  refine o_iaload X14 hx hZ e14 vMo (by decide) (v := (.int m2)) hm2 (hb hby d23_54) (pc' := 55) rfl ?_
  refine o_iastore X14 hx hZ e14 vL (by decide) 1 rfl (Nat.le_of_ble_eq_true rfl) (hb hby d23_55) (pc' := 56) rfl ?_
  intro T15 h15 X15 e15 W15 V15
  have NN := Fr.snoc X15 NN g_b8
  have KK := KK.wr W15 (Or.inr sz_b8)
  have ZZ := Nat.le_trans ZZ (Keep.of_wr W15).1
  have hPa := hPa.other W15 (Or.inl ne_a1_b8)
  have hMo := hMo.other W15 (Or.inl ne_a1_b8)
  have vPa := vPa.other W15 ne_pa_b8
  have vMo := vMo.other W15 ne_mo_b8
  have vL : Arv Z h15 b8 k8 .int 3 [.int 0, .int m2, .int m3] (.int 0) := V15
  refine o_aloadN X15 hx (pc' := 57) (hb hby d23_56) rfl rfl rfl ?_
  refine o_getfield X15 hx hZ hown (hw _ (List.mem_of_getElem? (i := 79) rfl)) e15 hPa (hb hby d23_57) (pc' := 60) rfl ?_
  intro T16 X16 e16
  refine o_iload X16 hx (pc' := 62) (hb hby d23_60) rfl rfl ?_
  refine o_iaload X16 hx hZ e16 vPa (by decide) (v := (.int (1 : Int32))) hp2 (hb hby d23_62) (pc' := 63) rfl ?_
  refine o_istore X16 hx (pc' := 65) (Ls' := #[.val (.ref a1), .val (.int (3 : Int32)), .val (.int (1 : Int32)), .val (.ref b8), .val (.int (1 : Int32))]) (hb hby d23_63) rfl rfl ?_
  refine o_goto X16 hx (pc' := 33) (hb hby d23_65) (by decide) (by decide) ?_
  refine o_aloadN X16 hx (pc' := 34) (hb hby d23_33) rfl rfl rfl ?_
  refine o_getfield X16 hx hZ hown (hw _ (List.mem_of_getElem? (i := 79) rfl)) e16 hPa (hb hby d23_34) (pc' := 37) rfl ?_
  intro T17 X17 e17
  refine o_iload X17 hx (pc' := 39) (hb hby d23_37) rfl rfl ?_
  refine o_iaload X17 hx hZ e17 vPa (by decide) (v := (.int (0 : Int32))) hp1 (hb hby d23_39) (pc' := 40) rfl ?_
  refine o_if_lt X17 hx (pc' := 43) (pt := 68) (hb hby d23_40) rfl (by decide) (by decide) (fun q => absurd q (by decide)) (fun _ => ?_)
  refine o_aloadN X17 hx (pc' := 44) (hb hby d23_43) rfl rfl rfl ?_
  refine o_iinc X17 hx (pc' := 47) (Ls' := #[.val (.ref a1), .val (.int (3 : Int32)), .val (.int (0 : Int32)), .val (.ref b8), .val (.int (1 : Int32))]) (v := (-1 : Int32)) (hb hby d23_44) rfl rfl rfl rfl ?_
  refine o_iloadN X17 hx (pc' := 48) (hb hby d23_47) rfl rfl ?_
  refine o_aloadN X17 hx (pc' := 49) (hb hby d23_48) rfl rfl rfl ?_
  refine o_getfield X17 hx hZ hown (hw _ (List.mem_of_getElem? (i := 81) rfl)) e17 hMo (hb hby d23_49) (pc' := 52) rfl ?_
  intro T18 X18 e18
  refine o_iload X18 hx (pc' := 54) (hb hby d23_52) rfl rfl ?_
  refine o_iaload X18 hx hZ e18 vMo (by decide) (v := (.int m1)) hm1 (hb hby d23_54) (pc' := 55) rfl ?_
  refine o_iastore X18 hx hZ e18 vL (by decide) 0 rfl (Nat.le_of_ble_eq_true rfl) (hb hby d23_55) (pc' := 56) rfl ?_
  intro T19 h19 X19 e19 W19 V19
  have NN := Fr.snoc X19 NN g_b8
  have KK := KK.wr W19 (Or.inr sz_b8)
  have ZZ := Nat.le_trans ZZ (Keep.of_wr W19).1
  have hPa := hPa.other W19 (Or.inl ne_a1_b8)
  have hMo := hMo.other W19 (Or.inl ne_a1_b8)
  have vPa := vPa.other W19 ne_pa_b8
  have vMo := vMo.other W19 ne_mo_b8
  have vL : Arv Z h19 b8 k8 .int 3 [.int m1, .int m2, .int m3] (.int 0) := V19
  refine o_aloadN X19 hx (pc' := 57) (hb hby d23_56) rfl rfl rfl ?_
  refine o_getfield X19 hx hZ hown (hw _ (List.mem_of_getElem? (i := 79) rfl)) e19 hPa (hb hby d23_57) (pc' := 60) rfl ?_
  intro T20 X20 e20
  refine o_iload X20 hx (pc' := 62) (hb hby d23_60) rfl rfl ?_
  refine o_iaload X20 hx hZ e20 vPa (by decide) (v := (.int (0 : Int32))) hp1 (hb hby d23_62) (pc' := 63) rfl ?_
  refine o_istore X20 hx (pc' := 65) (Ls' := #[.val (.ref a1), .val (.int (3 : Int32)), .val (.int (0 : Int32)), .val (.ref b8), .val (.int (0 : Int32))]) (hb hby d23_63) rfl rfl ?_
  refine o_goto X20 hx (pc' := 33) (hb hby d23_65) (by decide) (by decide) ?_
  refine o_aloadN X20 hx (pc' := 34) (hb hby d23_33) rfl rfl rfl ?_
  refine o_getfield X20 hx hZ hown (hw _ (List.mem_of_getElem? (i := 79) rfl)) e20 hPa (hb hby d23_34) (pc' := 37) rfl ?_
  intro T21 X21 e21
  refine o_iload X21 hx (pc' := 39) (hb hby d23_37) rfl rfl ?_
  refine o_iaload X21 hx hZ e21 vPa (by decide) (v := (.int (-1 : Int32))) hp0 (hb hby d23_39) (pc' := 40) rfl ?_
  refine o_if_lt X21 hx (pc' := 43) (pt := 68) (hb hby d23_40) rfl (by decide) (by decide) (fun _ => ?_) (fun q => absurd (by decide) q)
  refine o_aloadN X21 hx (pc' := 69) (hb hby d23_68) rfl rfl rfl ?_
  exact finA X21 hx hlk rfl hret rfl rfl (hb hby d23_69) (by decide) (by decide) ⟨b8, k8, rfl, NN, by rw [e21]; exact KK, sz_b8, by rw [e21]; exact vL⟩
theorem d24_0 : decode method_4_code 0 = .ok (.aload_n 0, 1) := by decide +kernel
theorem d24_1 : decode method_4_code 1 = .ok (.arraylength, 1) := by decide +kernel
theorem d24_2 : decode method_4_code 2 = .ok (.aload_n 1, 1) := by decide +kernel
theorem d24_3 : decode method_4_code 3 = .ok (.arraylength, 1) := by decide +kernel
theorem d24_4 : decode method_4_code 4 = .ok (.if_icmp .eq 5, 3) := by decide +kernel
theorem d24_9 : decode method_4_code 9 = .ok (.aload_n 0, 1) := by decide +kernel
theorem d24_10 : decode method_4_code 10 = .ok (.arraylength, 1) := by decide +kernel
theorem d24_11 : decode method_4_code 11 = .ok (.ifCond .le 14, 3) := by decide +kernel
theorem d24_25 : decode method_4_code 25 = .ok (.aload_n 0, 1) := by decide +kernel
theorem d24_26 : decode method_4_code 26 = .ok (.arraylength, 1) := by decide +kernel
theorem d24_27 : decode method_4_code 27 = .ok (.iconst 1, 1) := by decide +kernel
theorem d24_28 : decode method_4_code 28 = .ok (.if_icmp .le 14, 3) := by decide +kernel
theorem d24_42 : decode method_4_code 42 = .ok (.aload_n 0, 1) := by decide +kernel
theorem d24_43 : decode method_4_code 43 = .ok (.arraylength, 1) := by decide +kernel
theorem d24_44 : decode method_4_code 44 = .ok (.iconst 2, 1) := by decide +kernel
theorem d24_45 : decode method_4_code 45 = .ok (.if_icmp .le 14, 3) := by decide +kernel
theorem d24_59 : decode method_4_code 59 = .ok (.aload_n 0, 1) := by decide +kernel
theorem d24_60 : decode method_4_code 60 = .ok (.arraylength, 1) := by decide +kernel
theorem d24_61 : decode method_4_code 61 = .ok (.iconst 3, 1) := by decide +kernel
theorem d24_62 : decode method_4_code 62 = .ok (.if_icmp .gt 7, 3) := by decide +kernel
theorem d24_65 : decode method_4_code 65 = .ok (.iconst 1, 1) := by decide +kernel
theorem d24_66 : decode method_4_code 66 = .ok (.goto 4, 3) := by decide +kernel
theorem d24_70 : decode method_4_code 70 = .ok (.ireturn, 1) := by decide +kernel
theorem pn_24 : plainFor (⟨"com/example/jadoube/jadoube/PositionTableMovesToPinLaw", "same", "([I[I)Z"⟩ : MethodName) = true := plainFor_of_name (by show plainName "com/example/jadoube/jadoube/PositionTableMovesToPinLaw" = true; first | (simp [plainName, overriddenIn]; done) | decide +kernel)
theorem ef_24 (m : MethodId) (a1 : Addr) (a2 : Addr) : entryFrame m #[(.ref a1), (.ref a2)] 2 = mkF m 0 #[.val (.ref a1), .val (.ref a2)] [] := by first | (simp [entryFrame, mkF, argsToLocals, Value.category]; done) | rfl
set_option maxRecDepth 65536 in
set_option maxHeartbeats 40000000 in
theorem rmS0 (l : Launch) (Z : State) (a0 : Array Value) (hw : ∀ d ∈ tables_1, d.before a0 Z = true) (h0 : Heap) (n0 : Nat) (Z0 : n0 ≤ h0.size) (a1 : Addr) (a2 : Addr) (k1 k2 : ClassId)  (v1 : Arv Z h0 a1 k1 .int 0 [] (.int 0)) (v2 : Arv Z h0 a2 k2 .int 0 [] (.int 0)) : Ctr l Z (⟨"com/example/jadoube/jadoube/PositionTableMovesToPinLaw", "same", "([I[I)Z"⟩ : MethodName) method_4_code 2 (some .boolean) [] ({ frames := 0, cells := 0, slots := 0, locals := 0 } : Room) #[(.ref a1), (.ref a2)] h0 (Pure (.int 1) h0) := by
  refine ctr_mk pn_24 (own := "com/example/jadoube/jadoube/PositionTableMovesToPinLaw") (mn := "same") rfl rfl ?_
  intro p e s m below meth c T0 X0 hx hby hml hZ hown hnm hret hlk e0
  refine o_entry (ef_24 m a1 a2) ?_
  refine o_aloadN X0 hx (pc' := 1) (hb hby d24_0) rfl rfl rfl ?_
  refine o_arraylength X0 hx hZ e0 v1 (hb hby d24_1) (pc' := 2) rfl ?_
  refine o_aloadN X0 hx (pc' := 3) (hb hby d24_2) rfl rfl rfl ?_
  refine o_arraylength X0 hx hZ e0 v2 (hb hby d24_3) (pc' := 4) rfl ?_
  refine o_icmp_eq X0 hx (pc' := 7) (pt := 9) (hb hby d24_4) rfl (by decide) (by decide) (fun _ => ?_) (fun q => absurd (by decide) q)
  refine o_aloadN X0 hx (pc' := 10) (hb hby d24_9) rfl rfl rfl ?_
  refine o_arraylength X0 hx hZ e0 v1 (hb hby d24_10) (pc' := 11) rfl ?_
  refine o_if_le X0 hx (pc' := 14) (pt := 25) (hb hby d24_11) rfl (by decide) (by decide) (fun _ => ?_) (fun q => absurd q (by decide))
  refine o_aloadN X0 hx (pc' := 26) (hb hby d24_25) rfl rfl rfl ?_
  refine o_arraylength X0 hx hZ e0 v1 (hb hby d24_26) (pc' := 27) rfl ?_
  refine o_iconst X0 hx (pc' := 28) (v := (1 : Int32)) (hb hby d24_27) rfl rfl ?_
  refine o_icmp_le X0 hx (pc' := 31) (pt := 42) (hb hby d24_28) rfl (by decide) (by decide) (fun _ => ?_) (fun q => absurd q (by decide))
  refine o_aloadN X0 hx (pc' := 43) (hb hby d24_42) rfl rfl rfl ?_
  refine o_arraylength X0 hx hZ e0 v1 (hb hby d24_43) (pc' := 44) rfl ?_
  refine o_iconst X0 hx (pc' := 45) (v := (2 : Int32)) (hb hby d24_44) rfl rfl ?_
  refine o_icmp_le X0 hx (pc' := 48) (pt := 59) (hb hby d24_45) rfl (by decide) (by decide) (fun _ => ?_) (fun q => absurd q (by decide))
  refine o_aloadN X0 hx (pc' := 60) (hb hby d24_59) rfl rfl rfl ?_
  refine o_arraylength X0 hx hZ e0 v1 (hb hby d24_60) (pc' := 61) rfl ?_
  refine o_iconst X0 hx (pc' := 62) (v := (3 : Int32)) (hb hby d24_61) rfl rfl ?_
  refine o_icmp_gt X0 hx (pc' := 65) (pt := 69) (hb hby d24_62) rfl (by decide) (by decide) (fun q => absurd q (by decide)) (fun _ => ?_)
  refine o_iconst X0 hx (pc' := 66) (v := (1 : Int32)) (hb hby d24_65) rfl rfl ?_
  refine o_goto X0 hx (pc' := 70) (hb hby d24_66) (by decide) (by decide) ?_
  exact finN X0 hx hlk (t := .boolean) hret (by simp) (hb hby d24_70) (by decide) (by decide) ⟨rfl, rfl, e0⟩
theorem d24_14 : decode method_4_code 14 = .ok (.aload_n 0, 1) := by decide +kernel
theorem d24_15 : decode method_4_code 15 = .ok (.iconst 0, 1) := by decide +kernel
theorem d24_16 : decode method_4_code 16 = .ok (.iaload, 1) := by decide +kernel
theorem d24_17 : decode method_4_code 17 = .ok (.aload_n 1, 1) := by decide +kernel
theorem d24_18 : decode method_4_code 18 = .ok (.iconst 0, 1) := by decide +kernel
theorem d24_19 : decode method_4_code 19 = .ok (.iaload, 1) := by decide +kernel
theorem d24_20 : decode method_4_code 20 = .ok (.if_icmp .eq 5, 3) := by decide +kernel
set_option maxRecDepth 65536 in
set_option maxHeartbeats 40000000 in
theorem rmS1 (l : Launch) (Z : State) (a0 : Array Value) (hw : ∀ d ∈ tables_1, d.before a0 Z = true) (h0 : Heap) (n0 : Nat) (Z0 : n0 ≤ h0.size) (a1 : Addr) (a2 : Addr) (k1 k2 : ClassId) (x0 : Int32) (v1 : Arv Z h0 a1 k1 .int 1 [.int x0] (.int 0)) (v2 : Arv Z h0 a2 k2 .int 1 [.int x0] (.int 0)) : Ctr l Z (⟨"com/example/jadoube/jadoube/PositionTableMovesToPinLaw", "same", "([I[I)Z"⟩ : MethodName) method_4_code 2 (some .boolean) [] ({ frames := 0, cells := 0, slots := 0, locals := 0 } : Room) #[(.ref a1), (.ref a2)] h0 (Pure (.int 1) h0) := by
  refine ctr_mk pn_24 (own := "com/example/jadoube/jadoube/PositionTableMovesToPinLaw") (mn := "same") rfl rfl ?_
  intro p e s m below meth c T0 X0 hx hby hml hZ hown hnm hret hlk e0
  refine o_entry (ef_24 m a1 a2) ?_
  refine o_aloadN X0 hx (pc' := 1) (hb hby d24_0) rfl rfl rfl ?_
  refine o_arraylength X0 hx hZ e0 v1 (hb hby d24_1) (pc' := 2) rfl ?_
  refine o_aloadN X0 hx (pc' := 3) (hb hby d24_2) rfl rfl rfl ?_
  refine o_arraylength X0 hx hZ e0 v2 (hb hby d24_3) (pc' := 4) rfl ?_
  refine o_icmp_eq X0 hx (pc' := 7) (pt := 9) (hb hby d24_4) rfl (by decide) (by decide) (fun _ => ?_) (fun q => absurd (by decide) q)
  refine o_aloadN X0 hx (pc' := 10) (hb hby d24_9) rfl rfl rfl ?_
  refine o_arraylength X0 hx hZ e0 v1 (hb hby d24_10) (pc' := 11) rfl ?_
  refine o_if_le X0 hx (pc' := 14) (pt := 25) (hb hby d24_11) rfl (by decide) (by decide) (fun q => absurd (by decide) q) (fun _ => ?_)
  refine o_aloadN X0 hx (pc' := 15) (hb hby d24_14) rfl rfl rfl ?_
  refine o_iconst X0 hx (pc' := 16) (v := (0 : Int32)) (hb hby d24_15) rfl rfl ?_
  refine o_iaload X0 hx hZ e0 v1 (by decide) (v := (.int x0)) rfl (hb hby d24_16) (pc' := 17) rfl ?_
  refine o_aloadN X0 hx (pc' := 18) (hb hby d24_17) rfl rfl rfl ?_
  refine o_iconst X0 hx (pc' := 19) (v := (0 : Int32)) (hb hby d24_18) rfl rfl ?_
  refine o_iaload X0 hx hZ e0 v2 (by decide) (v := (.int x0)) rfl (hb hby d24_19) (pc' := 20) rfl ?_
  refine o_icmp_eq X0 hx (pc' := 23) (pt := 25) (hb hby d24_20) rfl (by decide) (by decide) (fun _ => ?_) (fun q => absurd rfl q)
  refine o_aloadN X0 hx (pc' := 26) (hb hby d24_25) rfl rfl rfl ?_
  refine o_arraylength X0 hx hZ e0 v1 (hb hby d24_26) (pc' := 27) rfl ?_
  refine o_iconst X0 hx (pc' := 28) (v := (1 : Int32)) (hb hby d24_27) rfl rfl ?_
  refine o_icmp_le X0 hx (pc' := 31) (pt := 42) (hb hby d24_28) rfl (by decide) (by decide) (fun _ => ?_) (fun q => absurd q (by decide))
  refine o_aloadN X0 hx (pc' := 43) (hb hby d24_42) rfl rfl rfl ?_
  refine o_arraylength X0 hx hZ e0 v1 (hb hby d24_43) (pc' := 44) rfl ?_
  refine o_iconst X0 hx (pc' := 45) (v := (2 : Int32)) (hb hby d24_44) rfl rfl ?_
  refine o_icmp_le X0 hx (pc' := 48) (pt := 59) (hb hby d24_45) rfl (by decide) (by decide) (fun _ => ?_) (fun q => absurd q (by decide))
  refine o_aloadN X0 hx (pc' := 60) (hb hby d24_59) rfl rfl rfl ?_
  refine o_arraylength X0 hx hZ e0 v1 (hb hby d24_60) (pc' := 61) rfl ?_
  refine o_iconst X0 hx (pc' := 62) (v := (3 : Int32)) (hb hby d24_61) rfl rfl ?_
  refine o_icmp_gt X0 hx (pc' := 65) (pt := 69) (hb hby d24_62) rfl (by decide) (by decide) (fun q => absurd q (by decide)) (fun _ => ?_)
  refine o_iconst X0 hx (pc' := 66) (v := (1 : Int32)) (hb hby d24_65) rfl rfl ?_
  refine o_goto X0 hx (pc' := 70) (hb hby d24_66) (by decide) (by decide) ?_
  exact finN X0 hx hlk (t := .boolean) hret (by simp) (hb hby d24_70) (by decide) (by decide) ⟨rfl, rfl, e0⟩
theorem d24_31 : decode method_4_code 31 = .ok (.aload_n 0, 1) := by decide +kernel
theorem d24_32 : decode method_4_code 32 = .ok (.iconst 1, 1) := by decide +kernel
theorem d24_33 : decode method_4_code 33 = .ok (.iaload, 1) := by decide +kernel
theorem d24_34 : decode method_4_code 34 = .ok (.aload_n 1, 1) := by decide +kernel
theorem d24_35 : decode method_4_code 35 = .ok (.iconst 1, 1) := by decide +kernel
theorem d24_36 : decode method_4_code 36 = .ok (.iaload, 1) := by decide +kernel
theorem d24_37 : decode method_4_code 37 = .ok (.if_icmp .eq 5, 3) := by decide +kernel
set_option maxRecDepth 65536 in
set_option maxHeartbeats 40000000 in
theorem rmS2 (l : Launch) (Z : State) (a0 : Array Value) (hw : ∀ d ∈ tables_1, d.before a0 Z = true) (h0 : Heap) (n0 : Nat) (Z0 : n0 ≤ h0.size) (a1 : Addr) (a2 : Addr) (k1 k2 : ClassId) (x0 x1 : Int32) (v1 : Arv Z h0 a1 k1 .int 2 [.int x0, .int x1] (.int 0)) (v2 : Arv Z h0 a2 k2 .int 2 [.int x0, .int x1] (.int 0)) : Ctr l Z (⟨"com/example/jadoube/jadoube/PositionTableMovesToPinLaw", "same", "([I[I)Z"⟩ : MethodName) method_4_code 2 (some .boolean) [] ({ frames := 0, cells := 0, slots := 0, locals := 0 } : Room) #[(.ref a1), (.ref a2)] h0 (Pure (.int 1) h0) := by
  refine ctr_mk pn_24 (own := "com/example/jadoube/jadoube/PositionTableMovesToPinLaw") (mn := "same") rfl rfl ?_
  intro p e s m below meth c T0 X0 hx hby hml hZ hown hnm hret hlk e0
  refine o_entry (ef_24 m a1 a2) ?_
  refine o_aloadN X0 hx (pc' := 1) (hb hby d24_0) rfl rfl rfl ?_
  refine o_arraylength X0 hx hZ e0 v1 (hb hby d24_1) (pc' := 2) rfl ?_
  refine o_aloadN X0 hx (pc' := 3) (hb hby d24_2) rfl rfl rfl ?_
  refine o_arraylength X0 hx hZ e0 v2 (hb hby d24_3) (pc' := 4) rfl ?_
  refine o_icmp_eq X0 hx (pc' := 7) (pt := 9) (hb hby d24_4) rfl (by decide) (by decide) (fun _ => ?_) (fun q => absurd (by decide) q)
  refine o_aloadN X0 hx (pc' := 10) (hb hby d24_9) rfl rfl rfl ?_
  refine o_arraylength X0 hx hZ e0 v1 (hb hby d24_10) (pc' := 11) rfl ?_
  refine o_if_le X0 hx (pc' := 14) (pt := 25) (hb hby d24_11) rfl (by decide) (by decide) (fun q => absurd (by decide) q) (fun _ => ?_)
  refine o_aloadN X0 hx (pc' := 15) (hb hby d24_14) rfl rfl rfl ?_
  refine o_iconst X0 hx (pc' := 16) (v := (0 : Int32)) (hb hby d24_15) rfl rfl ?_
  refine o_iaload X0 hx hZ e0 v1 (by decide) (v := (.int x0)) rfl (hb hby d24_16) (pc' := 17) rfl ?_
  refine o_aloadN X0 hx (pc' := 18) (hb hby d24_17) rfl rfl rfl ?_
  refine o_iconst X0 hx (pc' := 19) (v := (0 : Int32)) (hb hby d24_18) rfl rfl ?_
  refine o_iaload X0 hx hZ e0 v2 (by decide) (v := (.int x0)) rfl (hb hby d24_19) (pc' := 20) rfl ?_
  refine o_icmp_eq X0 hx (pc' := 23) (pt := 25) (hb hby d24_20) rfl (by decide) (by decide) (fun _ => ?_) (fun q => absurd rfl q)
  refine o_aloadN X0 hx (pc' := 26) (hb hby d24_25) rfl rfl rfl ?_
  refine o_arraylength X0 hx hZ e0 v1 (hb hby d24_26) (pc' := 27) rfl ?_
  refine o_iconst X0 hx (pc' := 28) (v := (1 : Int32)) (hb hby d24_27) rfl rfl ?_
  refine o_icmp_le X0 hx (pc' := 31) (pt := 42) (hb hby d24_28) rfl (by decide) (by decide) (fun q => absurd (by decide) q) (fun _ => ?_)
  refine o_aloadN X0 hx (pc' := 32) (hb hby d24_31) rfl rfl rfl ?_
  refine o_iconst X0 hx (pc' := 33) (v := (1 : Int32)) (hb hby d24_32) rfl rfl ?_
  refine o_iaload X0 hx hZ e0 v1 (by decide) (v := (.int x1)) rfl (hb hby d24_33) (pc' := 34) rfl ?_
  refine o_aloadN X0 hx (pc' := 35) (hb hby d24_34) rfl rfl rfl ?_
  refine o_iconst X0 hx (pc' := 36) (v := (1 : Int32)) (hb hby d24_35) rfl rfl ?_
  refine o_iaload X0 hx hZ e0 v2 (by decide) (v := (.int x1)) rfl (hb hby d24_36) (pc' := 37) rfl ?_
  refine o_icmp_eq X0 hx (pc' := 40) (pt := 42) (hb hby d24_37) rfl (by decide) (by decide) (fun _ => ?_) (fun q => absurd rfl q)
  refine o_aloadN X0 hx (pc' := 43) (hb hby d24_42) rfl rfl rfl ?_
  refine o_arraylength X0 hx hZ e0 v1 (hb hby d24_43) (pc' := 44) rfl ?_
  refine o_iconst X0 hx (pc' := 45) (v := (2 : Int32)) (hb hby d24_44) rfl rfl ?_
  refine o_icmp_le X0 hx (pc' := 48) (pt := 59) (hb hby d24_45) rfl (by decide) (by decide) (fun _ => ?_) (fun q => absurd q (by decide))
  refine o_aloadN X0 hx (pc' := 60) (hb hby d24_59) rfl rfl rfl ?_
  refine o_arraylength X0 hx hZ e0 v1 (hb hby d24_60) (pc' := 61) rfl ?_
  refine o_iconst X0 hx (pc' := 62) (v := (3 : Int32)) (hb hby d24_61) rfl rfl ?_
  refine o_icmp_gt X0 hx (pc' := 65) (pt := 69) (hb hby d24_62) rfl (by decide) (by decide) (fun q => absurd q (by decide)) (fun _ => ?_)
  refine o_iconst X0 hx (pc' := 66) (v := (1 : Int32)) (hb hby d24_65) rfl rfl ?_
  refine o_goto X0 hx (pc' := 70) (hb hby d24_66) (by decide) (by decide) ?_
  exact finN X0 hx hlk (t := .boolean) hret (by simp) (hb hby d24_70) (by decide) (by decide) ⟨rfl, rfl, e0⟩
theorem d24_48 : decode method_4_code 48 = .ok (.aload_n 0, 1) := by decide +kernel
theorem d24_49 : decode method_4_code 49 = .ok (.iconst 2, 1) := by decide +kernel
theorem d24_50 : decode method_4_code 50 = .ok (.iaload, 1) := by decide +kernel
theorem d24_51 : decode method_4_code 51 = .ok (.aload_n 1, 1) := by decide +kernel
theorem d24_52 : decode method_4_code 52 = .ok (.iconst 2, 1) := by decide +kernel
theorem d24_53 : decode method_4_code 53 = .ok (.iaload, 1) := by decide +kernel
theorem d24_54 : decode method_4_code 54 = .ok (.if_icmp .eq 5, 3) := by decide +kernel
set_option maxRecDepth 65536 in
set_option maxHeartbeats 40000000 in
theorem rmS3 (l : Launch) (Z : State) (a0 : Array Value) (hw : ∀ d ∈ tables_1, d.before a0 Z = true) (h0 : Heap) (n0 : Nat) (Z0 : n0 ≤ h0.size) (a1 : Addr) (a2 : Addr) (k1 k2 : ClassId) (x0 x1 x2 : Int32) (v1 : Arv Z h0 a1 k1 .int 3 [.int x0, .int x1, .int x2] (.int 0)) (v2 : Arv Z h0 a2 k2 .int 3 [.int x0, .int x1, .int x2] (.int 0)) : Ctr l Z (⟨"com/example/jadoube/jadoube/PositionTableMovesToPinLaw", "same", "([I[I)Z"⟩ : MethodName) method_4_code 2 (some .boolean) [] ({ frames := 0, cells := 0, slots := 0, locals := 0 } : Room) #[(.ref a1), (.ref a2)] h0 (Pure (.int 1) h0) := by
  refine ctr_mk pn_24 (own := "com/example/jadoube/jadoube/PositionTableMovesToPinLaw") (mn := "same") rfl rfl ?_
  intro p e s m below meth c T0 X0 hx hby hml hZ hown hnm hret hlk e0
  refine o_entry (ef_24 m a1 a2) ?_
  refine o_aloadN X0 hx (pc' := 1) (hb hby d24_0) rfl rfl rfl ?_
  refine o_arraylength X0 hx hZ e0 v1 (hb hby d24_1) (pc' := 2) rfl ?_
  refine o_aloadN X0 hx (pc' := 3) (hb hby d24_2) rfl rfl rfl ?_
  refine o_arraylength X0 hx hZ e0 v2 (hb hby d24_3) (pc' := 4) rfl ?_
  refine o_icmp_eq X0 hx (pc' := 7) (pt := 9) (hb hby d24_4) rfl (by decide) (by decide) (fun _ => ?_) (fun q => absurd (by decide) q)
  refine o_aloadN X0 hx (pc' := 10) (hb hby d24_9) rfl rfl rfl ?_
  refine o_arraylength X0 hx hZ e0 v1 (hb hby d24_10) (pc' := 11) rfl ?_
  refine o_if_le X0 hx (pc' := 14) (pt := 25) (hb hby d24_11) rfl (by decide) (by decide) (fun q => absurd (by decide) q) (fun _ => ?_)
  refine o_aloadN X0 hx (pc' := 15) (hb hby d24_14) rfl rfl rfl ?_
  refine o_iconst X0 hx (pc' := 16) (v := (0 : Int32)) (hb hby d24_15) rfl rfl ?_
  refine o_iaload X0 hx hZ e0 v1 (by decide) (v := (.int x0)) rfl (hb hby d24_16) (pc' := 17) rfl ?_
  refine o_aloadN X0 hx (pc' := 18) (hb hby d24_17) rfl rfl rfl ?_
  refine o_iconst X0 hx (pc' := 19) (v := (0 : Int32)) (hb hby d24_18) rfl rfl ?_
  refine o_iaload X0 hx hZ e0 v2 (by decide) (v := (.int x0)) rfl (hb hby d24_19) (pc' := 20) rfl ?_
  refine o_icmp_eq X0 hx (pc' := 23) (pt := 25) (hb hby d24_20) rfl (by decide) (by decide) (fun _ => ?_) (fun q => absurd rfl q)
  refine o_aloadN X0 hx (pc' := 26) (hb hby d24_25) rfl rfl rfl ?_
  refine o_arraylength X0 hx hZ e0 v1 (hb hby d24_26) (pc' := 27) rfl ?_
  refine o_iconst X0 hx (pc' := 28) (v := (1 : Int32)) (hb hby d24_27) rfl rfl ?_
  refine o_icmp_le X0 hx (pc' := 31) (pt := 42) (hb hby d24_28) rfl (by decide) (by decide) (fun q => absurd (by decide) q) (fun _ => ?_)
  refine o_aloadN X0 hx (pc' := 32) (hb hby d24_31) rfl rfl rfl ?_
  refine o_iconst X0 hx (pc' := 33) (v := (1 : Int32)) (hb hby d24_32) rfl rfl ?_
  refine o_iaload X0 hx hZ e0 v1 (by decide) (v := (.int x1)) rfl (hb hby d24_33) (pc' := 34) rfl ?_
  refine o_aloadN X0 hx (pc' := 35) (hb hby d24_34) rfl rfl rfl ?_
  refine o_iconst X0 hx (pc' := 36) (v := (1 : Int32)) (hb hby d24_35) rfl rfl ?_
  refine o_iaload X0 hx hZ e0 v2 (by decide) (v := (.int x1)) rfl (hb hby d24_36) (pc' := 37) rfl ?_
  refine o_icmp_eq X0 hx (pc' := 40) (pt := 42) (hb hby d24_37) rfl (by decide) (by decide) (fun _ => ?_) (fun q => absurd rfl q)
  refine o_aloadN X0 hx (pc' := 43) (hb hby d24_42) rfl rfl rfl ?_
  refine o_arraylength X0 hx hZ e0 v1 (hb hby d24_43) (pc' := 44) rfl ?_
  refine o_iconst X0 hx (pc' := 45) (v := (2 : Int32)) (hb hby d24_44) rfl rfl ?_
  refine o_icmp_le X0 hx (pc' := 48) (pt := 59) (hb hby d24_45) rfl (by decide) (by decide) (fun q => absurd (by decide) q) (fun _ => ?_)
  refine o_aloadN X0 hx (pc' := 49) (hb hby d24_48) rfl rfl rfl ?_
  refine o_iconst X0 hx (pc' := 50) (v := (2 : Int32)) (hb hby d24_49) rfl rfl ?_
  refine o_iaload X0 hx hZ e0 v1 (by decide) (v := (.int x2)) rfl (hb hby d24_50) (pc' := 51) rfl ?_
  refine o_aloadN X0 hx (pc' := 52) (hb hby d24_51) rfl rfl rfl ?_
  refine o_iconst X0 hx (pc' := 53) (v := (2 : Int32)) (hb hby d24_52) rfl rfl ?_
  refine o_iaload X0 hx hZ e0 v2 (by decide) (v := (.int x2)) rfl (hb hby d24_53) (pc' := 54) rfl ?_
  refine o_icmp_eq X0 hx (pc' := 57) (pt := 59) (hb hby d24_54) rfl (by decide) (by decide) (fun _ => ?_) (fun q => absurd rfl q)
  refine o_aloadN X0 hx (pc' := 60) (hb hby d24_59) rfl rfl rfl ?_
  refine o_arraylength X0 hx hZ e0 v1 (hb hby d24_60) (pc' := 61) rfl ?_
  refine o_iconst X0 hx (pc' := 62) (v := (3 : Int32)) (hb hby d24_61) rfl rfl ?_
  refine o_icmp_gt X0 hx (pc' := 65) (pt := 69) (hb hby d24_62) rfl (by decide) (by decide) (fun q => absurd q (by decide)) (fun _ => ?_)
  refine o_iconst X0 hx (pc' := 66) (v := (1 : Int32)) (hb hby d24_65) rfl rfl ?_
  refine o_goto X0 hx (pc' := 70) (hb hby d24_66) (by decide) (by decide) ?_
  exact finN X0 hx hlk (t := .boolean) hret (by simp) (hb hby d24_70) (by decide) (by decide) ⟨rfl, rfl, e0⟩
theorem own_m1 (x : Int32) : x &&& (1 : Int32) = 0 ∨ x &&& (1 : Int32) = 1 := by
  have e := c_mask x 1 1 (by decide) (by decide)
  have q : (x &&& (1 : Int32)).toInt = 0 ∨ (x &&& (1 : Int32)).toInt = 1 := by omega
  rcases q with q | q
  · exact Or.inl (Int32.toInt_inj.mp (by rw [q]; decide))
  · exact Or.inr (Int32.toInt_inj.mp (by rw [q]; decide))
theorem own_m3 (x : Int32) : x &&& (3 : Int32) = 0 ∨ x &&& (3 : Int32) = 1 ∨ x &&& (3 : Int32) = 2 ∨ x &&& (3 : Int32) = 3 := by
  have e := c_mask x 3 2 (by decide) (by decide)
  have q : (x &&& (3 : Int32)).toInt = 0 ∨ (x &&& (3 : Int32)).toInt = 1 ∨ (x &&& (3 : Int32)).toInt = 2 ∨ (x &&& (3 : Int32)).toInt = 3 := by omega
  rcases q with q | q | q | q
  · exact Or.inl (Int32.toInt_inj.mp (by rw [q]; decide))
  · exact Or.inr (Or.inl (Int32.toInt_inj.mp (by rw [q]; decide)))
  · exact Or.inr (Or.inr (Or.inl (Int32.toInt_inj.mp (by rw [q]; decide))))
  · exact Or.inr (Or.inr (Or.inr (Int32.toInt_inj.mp (by rw [q]; decide))))
theorem own_r3 (x : Int32) : ((x.toUInt32 >>> ((1 : Int32) &&& 31).toUInt32).toInt32) % (3 : Int32) = 0 ∨ ((x.toUInt32 >>> ((1 : Int32) &&& 31).toUInt32).toInt32) % (3 : Int32) = 1 ∨ ((x.toUInt32 >>> ((1 : Int32) &&& 31).toUInt32).toInt32) % (3 : Int32) = 2 := by
  have s := c_iushr x 1 1 (by decide) (by decide)
  have r := rng32 x
  have e := (c_irem ((x.toUInt32 >>> ((1 : Int32) &&& 31).toUInt32).toInt32) 3 3 (by decide)).1 (by rw [s]; omega)
  have q : (((x.toUInt32 >>> ((1 : Int32) &&& 31).toUInt32).toInt32) % (3 : Int32)).toInt = 0 ∨ (((x.toUInt32 >>> ((1 : Int32) &&& 31).toUInt32).toInt32) % (3 : Int32)).toInt = 1 ∨ (((x.toUInt32 >>> ((1 : Int32) &&& 31).toUInt32).toInt32) % (3 : Int32)).toInt = 2 := by omega
  rcases q with q | q | q
  · exact Or.inl (Int32.toInt_inj.mp (by rw [q]; decide))
  · exact Or.inr (Or.inl (Int32.toInt_inj.mp (by rw [q]; decide)))
  · exact Or.inr (Or.inr (Int32.toInt_inj.mp (by rw [q]; decide)))
theorem pd_13 : parseMethodDescriptor "(I)Lcom/example/jadoube/jadoube/Position;" = some ⟨[.int], some (.object "com/example/jadoube/jadoube/Position")⟩ := by decide +kernel
theorem pd_14 : parseMethodDescriptor "(Lcom/example/jadoube/jadoube/Position;)V" = some ⟨[(.object "com/example/jadoube/jadoube/Position")], none⟩ := by decide +kernel
theorem pd_15 : parseMethodDescriptor "(Lcom/example/jadoube/jadoube/Position;II)I" = some ⟨[(.object "com/example/jadoube/jadoube/Position"), .int, .int], some .int⟩ := by decide +kernel
theorem pd_16 : parseMethodDescriptor "(I)[I" = some ⟨[.int], some (.array .int)⟩ := by decide +kernel
theorem pd_17 : parseMethodDescriptor "([I[I)Z" = some ⟨[(.array .int), (.array .int)], some .boolean⟩ := by decide +kernel
theorem pn_0 : plainFor x = true := plainFor_of_name (by show plainName "com/example/jadoube/jadoube/PositionTableMovesToPinLaw" = true; first | (simp [plainName, overriddenIn]; done) | decide +kernel)
theorem ef_0 (m : MethodId) (p1 : Int32) (p2 : Int32) (p3 : Int32) (p4 : Int32) (p5 : Int32) (p6 : Int32) : entryFrame m #[(.int p1), (.int p2), (.int p3), (.int p4), (.int p5), (.int p6)] maxLocals = mkF m 0 #[.val (.int p1), .val (.int p2), .val (.int p3), .val (.int p4), .val (.int p5), .val (.int p6), .unset, .unset, .unset, .unset, .unset, .unset, .unset, .unset, .unset, .unset] [] := by first | (simp [entryFrame, mkF, argsToLocals, Value.category, maxLocals]; done) | rfl
set_option maxRecDepth 65536 in
set_option maxHeartbeats 40000000 in
theorem rm0 (l : Launch) (Z : State) (a0 : Array Value) (hw : ∀ d ∈ tables_1, d.before a0 Z = true) (ws : List Jvm.Cond) (h0 : Heap) (n0 : Nat) (Z0 : n0 ≤ h0.size) (p1 : Int32) (p2 : Int32) (p3 : Int32) (p4 : Int32) (p5 : Int32) (p6 : Int32)  : Ctr l Z x code maxLocals ret ws room_1 #[(.int p1), (.int p2), (.int p3), (.int p4), (.int p5), (.int p6)] h0 (fun v h L => v = some (.int 1) ∧ Fr n0 L) := by
  refine ctr_mk pn_0 (own := "com/example/jadoube/jadoube/PositionTableMovesToPinLaw") (mn := "law") rfl rfl ?_
  intro p e s m below meth c T0 X0 hx hby hml hZ hown hnm hret hlk e0
  refine o_entry (ef_0 m p1 p2 p3 p4 p5 p6) ?_
  have NN := Fr.nil n0
  have ZZ := Z0
  refine o_iloadN X0 hx (pc' := 1) (hb hby at_0) rfl rfl ?_
  refine o_iconst X0 hx (pc' := 2) (v := (1 : Int32)) (hb hby at_1) rfl rfl ?_
  refine o_iand X0 hx (pc' := 3) (hb hby at_2) rfl ?_
  refine o_istore X0 hx (pc' := 5) (Ls' := #[.val (.int p1), .val (.int p2), .val (.int p3), .val (.int p4), .val (.int p5), .val (.int p6), .val (.int (p1 &&& (1 : Int32))), .unset, .unset, .unset, .unset, .unset, .unset, .unset, .unset, .unset]) (hb hby at_3) rfl rfl ?_
  refine o_iloadN X0 hx (pc' := 6) (hb hby at_5) rfl rfl ?_
  refine o_iconst X0 hx (pc' := 7) (v := (1 : Int32)) (hb hby at_6) rfl rfl ?_
  refine o_iushr X0 hx (pc' := 8) (hb hby at_7) rfl ?_
  refine o_iconst X0 hx (pc' := 9) (v := (3 : Int32)) (hb hby at_8) rfl rfl ?_
  refine o_irem X0 hx (pc' := 10) (hb hby at_9) rfl (by decide) ?_
  refine o_istore X0 hx (pc' := 12) (Ls' := #[.val (.int p1), .val (.int p2), .val (.int p3), .val (.int p4), .val (.int p5), .val (.int p6), .val (.int (p1 &&& (1 : Int32))), .val (.int (((p1.toUInt32 >>> ((1 : Int32) &&& 31).toUInt32).toInt32) % (3 : Int32))), .unset, .unset, .unset, .unset, .unset, .unset, .unset, .unset]) (hb hby at_10) rfl rfl ?_
  refine o_iload X0 hx (pc' := 14) (hb hby at_12) rfl rfl ?_
  refine o_iconst X0 hx (pc' := 15) (v := (3 : Int32)) (hb hby at_14) rfl rfl ?_
  refine o_iand X0 hx (pc' := 16) (hb hby at_15) rfl ?_
  refine o_istore X0 hx (pc' := 18) (Ls' := #[.val (.int p1), .val (.int p2), .val (.int p3), .val (.int p4), .val (.int p5), .val (.int p6), .val (.int (p1 &&& (1 : Int32))), .val (.int (((p1.toUInt32 >>> ((1 : Int32) &&& 31).toUInt32).toInt32) % (3 : Int32))), .val (.int (p6 &&& (3 : Int32))), .unset, .unset, .unset, .unset, .unset, .unset, .unset]) (hb hby at_16) rfl rfl ?_
  refine o_iconst X0 hx (pc' := 19) (v := (0 : Int32)) (hb hby at_18) rfl rfl ?_
  refine o_callS X0 hx hZ [(.int (0 : Int32))] (rmK0 l Z a0 hw h0 n0 ZZ) hown (hw _ (List.mem_of_getElem? (i := 0) rfl)) (hw _ (List.mem_of_getElem? (i := 1) rfl)) (hw _ (List.mem_of_getElem? (i := 2) rfl)) (hw _ (List.mem_of_getElem? (i := 3) rfl)) (by decide) pd_13 e0 (by rw [hml]; rfl) rfl rfl rfl (hb hby at_19) (pc' := 22) rfl 0 (Nat.le_of_eq rfl) (by decide) (by decide) (by decide) (by decide) ?_
  intro T1 v1 L1 X1 hQ1
  obtain ⟨k1, rfl, Nq, Kq, hP0⟩ := hQ1
  have NN := Fr.app NN Nq
  have ZZ := Nat.le_trans ZZ Kq.1
  show Dn p e below _ (T1.setTop (mkF m 22 #[.val (.int p1), .val (.int p2), .val (.int p3), .val (.int p4), .val (.int p5), .val (.int p6), .val (.int (p1 &&& (1 : Int32))), .val (.int (((p1.toUInt32 >>> ((1 : Int32) &&& 31).toUInt32).toInt32) % (3 : Int32))), .val (.int (p6 &&& (3 : Int32))), .unset, .unset, .unset, .unset, .unset, .unset, .unset] [(.ref k1)]))
  refine o_astore X1 hx (pc' := 24) (Ls' := #[.val (.int p1), .val (.int p2), .val (.int p3), .val (.int p4), .val (.int p5), .val (.int p6), .val (.int (p1 &&& (1 : Int32))), .val (.int (((p1.toUInt32 >>> ((1 : Int32) &&& 31).toUInt32).toInt32) % (3 : Int32))), .val (.int (p6 &&& (3 : Int32))), .val (.ref k1), .unset, .unset, .unset, .unset, .unset, .unset]) (hb hby at_22) rfl rfl rfl ?_
  refine o_iconst X1 hx (pc' := 25) (v := (1 : Int32)) (hb hby at_24) rfl rfl ?_
  refine o_callS X1 hx hZ [(.int (1 : Int32))] (rmK1 l Z a0 hw T1.heap n0 ZZ) hown (hw _ (List.mem_of_getElem? (i := 0) rfl)) (hw _ (List.mem_of_getElem? (i := 1) rfl)) (hw _ (List.mem_of_getElem? (i := 2) rfl)) (hw _ (List.mem_of_getElem? (i := 3) rfl)) (by decide) pd_13 rfl (by rw [hml]; rfl) rfl rfl rfl (hb hby at_25) (pc' := 28) rfl 0 (Nat.le_of_eq rfl) (by decide) (by decide) (by decide) (by decide) ?_
  intro T2 v2 L2 X2 hQ2
  obtain ⟨k2, rfl, Nq, Kq, hP1⟩ := hQ2
  have NN := Fr.app NN Nq
  have ZZ := Nat.le_trans ZZ Kq.1
  have hP0 := (hP0.keep Kq (fun x hx => nomatch hx)).mono Kq.1
  show Dn p e below _ (T2.setTop (mkF m 28 #[.val (.int p1), .val (.int p2), .val (.int p3), .val (.int p4), .val (.int p5), .val (.int p6), .val (.int (p1 &&& (1 : Int32))), .val (.int (((p1.toUInt32 >>> ((1 : Int32) &&& 31).toUInt32).toInt32) % (3 : Int32))), .val (.int (p6 &&& (3 : Int32))), .val (.ref k1), .unset, .unset, .unset, .unset, .unset, .unset] [(.ref k2)]))
  refine o_astore X2 hx (pc' := 30) (Ls' := #[.val (.int p1), .val (.int p2), .val (.int p3), .val (.int p4), .val (.int p5), .val (.int p6), .val (.int (p1 &&& (1 : Int32))), .val (.int (((p1.toUInt32 >>> ((1 : Int32) &&& 31).toUInt32).toInt32) % (3 : Int32))), .val (.int (p6 &&& (3 : Int32))), .val (.ref k1), .val (.ref k2), .unset, .unset, .unset, .unset, .unset]) (hb hby at_28) rfl rfl rfl ?_
  refine o_iconst X2 hx (pc' := 31) (v := (2 : Int32)) (hb hby at_30) rfl rfl ?_
  refine o_callS X2 hx hZ [(.int (2 : Int32))] (rmK2 l Z a0 hw T2.heap n0 ZZ) hown (hw _ (List.mem_of_getElem? (i := 0) rfl)) (hw _ (List.mem_of_getElem? (i := 1) rfl)) (hw _ (List.mem_of_getElem? (i := 2) rfl)) (hw _ (List.mem_of_getElem? (i := 3) rfl)) (by decide) pd_13 rfl (by rw [hml]; rfl) rfl rfl rfl (hb hby at_31) (pc' := 34) rfl 0 (Nat.le_of_eq rfl) (by decide) (by decide) (by decide) (by decide) ?_
  intro T3 v3 L3 X3 hQ3
  obtain ⟨k3, rfl, Nq, Kq, hP2⟩ := hQ3
  have NN := Fr.app NN Nq
  have ZZ := Nat.le_trans ZZ Kq.1
  have hP0 := (hP0.keep Kq (fun x hx => nomatch hx)).mono Kq.1
  have hP1 := (hP1.keep Kq (fun x hx => nomatch hx)).mono Kq.1
  show Dn p e below _ (T3.setTop (mkF m 34 #[.val (.int p1), .val (.int p2), .val (.int p3), .val (.int p4), .val (.int p5), .val (.int p6), .val (.int (p1 &&& (1 : Int32))), .val (.int (((p1.toUInt32 >>> ((1 : Int32) &&& 31).toUInt32).toInt32) % (3 : Int32))), .val (.int (p6 &&& (3 : Int32))), .val (.ref k1), .val (.ref k2), .unset, .unset, .unset, .unset, .unset] [(.ref k3)]))
  refine o_astore X3 hx (pc' := 36) (Ls' := #[.val (.int p1), .val (.int p2), .val (.int p3), .val (.int p4), .val (.int p5), .val (.int p6), .val (.int (p1 &&& (1 : Int32))), .val (.int (((p1.toUInt32 >>> ((1 : Int32) &&& 31).toUInt32).toInt32) % (3 : Int32))), .val (.int (p6 &&& (3 : Int32))), .val (.ref k1), .val (.ref k2), .val (.ref k3), .unset, .unset, .unset, .unset]) (hb hby at_34) rfl rfl rfl ?_
  refine o_iconst X3 hx (pc' := 37) (v := (3 : Int32)) (hb hby at_36) rfl rfl ?_
  refine o_callS X3 hx hZ [(.int (3 : Int32))] (rmK3 l Z a0 hw T3.heap n0 ZZ) hown (hw _ (List.mem_of_getElem? (i := 0) rfl)) (hw _ (List.mem_of_getElem? (i := 1) rfl)) (hw _ (List.mem_of_getElem? (i := 2) rfl)) (hw _ (List.mem_of_getElem? (i := 3) rfl)) (by decide) pd_13 rfl (by rw [hml]; rfl) rfl rfl rfl (hb hby at_37) (pc' := 40) rfl 0 (Nat.le_of_eq rfl) (by decide) (by decide) (by decide) (by decide) ?_
  intro T4 v4 L4 X4 hQ4
  obtain ⟨k4, rfl, Nq, Kq, hP3⟩ := hQ4
  have NN := Fr.app NN Nq
  have ZZ := Nat.le_trans ZZ Kq.1
  have hP0 := (hP0.keep Kq (fun x hx => nomatch hx)).mono Kq.1
  have hP1 := (hP1.keep Kq (fun x hx => nomatch hx)).mono Kq.1
  have hP2 := (hP2.keep Kq (fun x hx => nomatch hx)).mono Kq.1
  show Dn p e below _ (T4.setTop (mkF m 40 #[.val (.int p1), .val (.int p2), .val (.int p3), .val (.int p4), .val (.int p5), .val (.int p6), .val (.int (p1 &&& (1 : Int32))), .val (.int (((p1.toUInt32 >>> ((1 : Int32) &&& 31).toUInt32).toInt32) % (3 : Int32))), .val (.int (p6 &&& (3 : Int32))), .val (.ref k1), .val (.ref k2), .val (.ref k3), .unset, .unset, .unset, .unset] [(.ref k4)]))
  refine o_astore X4 hx (pc' := 42) (Ls' := #[.val (.int p1), .val (.int p2), .val (.int p3), .val (.int p4), .val (.int p5), .val (.int p6), .val (.int (p1 &&& (1 : Int32))), .val (.int (((p1.toUInt32 >>> ((1 : Int32) &&& 31).toUInt32).toInt32) % (3 : Int32))), .val (.int (p6 &&& (3 : Int32))), .val (.ref k1), .val (.ref k2), .val (.ref k3), .val (.ref k4), .unset, .unset, .unset]) (hb hby at_40) rfl rfl rfl ?_
  refine o_new X4 hx hZ hown (hw _ (List.mem_of_getElem? (i := 30) rfl)) (hw _ (List.mem_of_getElem? (i := 31) rfl)) (hw _ (List.mem_of_getElem? (i := 32) rfl)) rfl (hb hby at_42) (pc' := 45) rfl (by decide) (by decide) ?_
  intro T5 h5 b5 g5 X5 e5 E5 A5 D5
  have g_b5 : n0 ≤ b5 := Nat.le_trans ZZ (Nat.le_of_eq g5.symm)
  have ZZ := Nat.le_trans ZZ E5.1
  have hE := A5
  have hWi : Fld Z h5 b5 "com/example/jadoube/jadoube/PositionTable" "width" "I" (.int 0) := D5 (Or.inr (hw _ (List.mem_of_getElem? (i := 59) rfl))) (ty := .int) (by decide)
  have hCr : Fld Z h5 b5 "com/example/jadoube/jadoube/PositionTable" "castlingRooks" "J" (.long 0) := D5 (Or.inr (hw _ (List.mem_of_getElem? (i := 66) rfl))) (ty := .long) (by decide)
  have hC9 : Fld Z h5 b5 "com/example/jadoube/jadoube/PositionTable" "chess960" "Z" (.int 0) := D5 (Or.inr (hw _ (List.mem_of_getElem? (i := 73) rfl))) (ty := .boolean) (by decide)
  have hSc : Fld Z h5 b5 "com/example/jadoube/jadoube/PositionTable" "scratch" "[J" .null := D5 (Or.inr (hw _ (List.mem_of_getElem? (i := 75) rfl))) (ty := (.array .long)) (by decide)
  have hWo : Fld Z h5 b5 "com/example/jadoube/jadoube/PositionTable" "words" "[J" .null := D5 (Or.inl (hw _ (List.mem_of_getElem? (i := 77) rfl))) (ty := (.array .long)) (by decide)
  have hPa : Fld Z h5 b5 "com/example/jadoube/jadoube/PositionTable" "parents" "[I" .null := D5 (Or.inl (hw _ (List.mem_of_getElem? (i := 80) rfl))) (ty := (.array .int)) (by decide)
  have hMo : Fld Z h5 b5 "com/example/jadoube/jadoube/PositionTable" "moves" "[I" .null := D5 (Or.inl (hw _ (List.mem_of_getElem? (i := 82) rfl))) (ty := (.array .int)) (by decide)
  have hSl : Fld Z h5 b5 "com/example/jadoube/jadoube/PositionTable" "slots" "[I" .null := D5 (Or.inl (hw _ (List.mem_of_getElem? (i := 84) rfl))) (ty := (.array .int)) (by decide)
  have hSz : Fld Z h5 b5 "com/example/jadoube/jadoube/PositionTable" "size" "I" (.int 0) := D5 (Or.inl (hw _ (List.mem_of_getElem? (i := 153) rfl))) (ty := .int) (by decide)
  have hGe : Fld Z h5 b5 "com/example/jadoube/jadoube/PositionTable" "generator" "Lcom/example/jadoube/jadoube/MoveGenerator;" .null := D5 (Or.inr (hw _ (List.mem_of_getElem? (i := 45) rfl))) (ty := (.object "com/example/jadoube/jadoube/MoveGenerator")) (by decide)
  have hP0 : Pos Z h5 b5 k1 1 := (hP0.ext E5).mono (Nat.le_of_eq g5.symm)
  have hP1 : Pos Z h5 b5 k2 2 := (hP1.ext E5).mono (Nat.le_of_eq g5.symm)
  have hP2 : Pos Z h5 b5 k3 4 := (hP2.ext E5).mono (Nat.le_of_eq g5.symm)
  have hP3 : Pos Z h5 b5 k4 8 := (hP3.ext E5).mono (Nat.le_of_eq g5.symm)
  refine o_dup X5 hx (pc' := 46) (hb hby at_45) rfl rfl ?_
  refine o_aload X5 hx (pc' := 48) (hb hby at_46) rfl rfl rfl ?_
  refine o_callI X5 hx hZ b5 [(.ref k1)] (rm4 l Z a0 hw h5 n0 ZZ b5 k1 hP0 hE hWi hCr hC9 hSc hWo hPa hMo hSl hSz hGe g_b5) rfl hown (hw _ (List.mem_of_getElem? (i := 33) rfl)) (hw _ (List.mem_of_getElem? (i := 34) rfl)) (hw _ (List.mem_of_getElem? (i := 32) rfl)) (hw _ (List.mem_of_getElem? (i := 35) rfl)) (by decide) pd_14 e5 (by rw [hml]; rfl) rfl rfl rfl (hb hby at_48) (pc' := 51) rfl 1 (Nat.le_of_eq rfl) (by decide) (by decide) (by decide) (by decide) ?_
  intro T6 v6 L6 X6 hQ6
  obtain ⟨rfl, Nq, ⟨ws, Kq, hws⟩, hT⟩ := hQ6
  have NN := Fr.app NN Nq
  have ZZ := Nat.le_trans ZZ Kq.1
  have hP0 := hP0.keep Kq hws
  have hP1 := hP1.keep Kq hws
  have hP2 := hP2.keep Kq hws
  have hP3 := hP3.keep Kq hws
  show Dn p e below _ (T6.setTop (mkF m 51 #[.val (.int p1), .val (.int p2), .val (.int p3), .val (.int p4), .val (.int p5), .val (.int p6), .val (.int (p1 &&& (1 : Int32))), .val (.int (((p1.toUInt32 >>> ((1 : Int32) &&& 31).toUInt32).toInt32) % (3 : Int32))), .val (.int (p6 &&& (3 : Int32))), .val (.ref k1), .val (.ref k2), .val (.ref k3), .val (.ref k4), .unset, .unset, .unset] [(.ref b5)]))
  refine o_astore X6 hx (pc' := 53) (Ls' := #[.val (.int p1), .val (.int p2), .val (.int p3), .val (.int p4), .val (.int p5), .val (.int p6), .val (.int (p1 &&& (1 : Int32))), .val (.int (((p1.toUInt32 >>> ((1 : Int32) &&& 31).toUInt32).toInt32) % (3 : Int32))), .val (.int (p6 &&& (3 : Int32))), .val (.ref k1), .val (.ref k2), .val (.ref k3), .val (.ref k4), .val (.ref b5), .unset, .unset]) (hb hby at_51) rfl rfl rfl ?_
  refine o_aload X6 hx (pc' := 55) (hb hby at_53) rfl rfl rfl ?_
  refine o_aload X6 hx (pc' := 57) (hb hby at_55) rfl rfl rfl ?_
  refine o_iconst X6 hx (pc' := 58) (v := (-1 : Int32)) (hb hby at_57) rfl rfl ?_
  refine o_iloadN X6 hx (pc' := 59) (hb hby at_58) rfl rfl ?_
  refine o_callV X6 hx hZ b5 [(.ref k1), (.int (-1 : Int32)), (.int p2)] (rmA0 l Z a0 hw T6.heap n0 ZZ b5 k1 (-1 : Int32) p2 [.int 0, .int 0, .int 0, .int 0] [.int 0, .int 0, .int 0, .int 0] (fun _ => 0) hT hP0 (by decide) (Nat.le_of_ble_eq_true rfl) (Nat.le_of_ble_eq_true rfl) g_b5) hown (hw _ (List.mem_of_getElem? (i := 85) rfl)) (hw _ (List.mem_of_getElem? (i := 86) rfl)) (hw _ (List.mem_of_getElem? (i := 88) rfl)) (hw _ (List.mem_of_getElem? (i := 87) rfl)) (hw _ (List.mem_of_getElem? (i := 32) rfl)) (hw _ (List.mem_of_getElem? (i := 89) rfl)) (by decide) hT.exa pd_15 rfl (by rw [hml]; rfl) rfl rfl rfl (hb hby at_59) (pc' := 62) rfl 0 (Nat.le_of_eq rfl) (by decide) (by decide) (by decide) (by decide) ?_
  intro T7 v7 L7 X7 hQ7
  obtain ⟨rfl, Nq, ⟨ws, Kq, hws⟩, hT⟩ := hQ7
  have NN := Fr.app NN Nq
  have ZZ := Nat.le_trans ZZ Kq.1
  have hP0 := hP0.keep Kq hws
  have hP1 := hP1.keep Kq hws
  have hP2 := hP2.keep Kq hws
  have hP3 := hP3.keep Kq hws
  have hT : Tab Z T7.heap b5 1 [.int (-1 : Int32), .int 0, .int 0, .int 0] [.int p2, .int 0, .int 0, .int 0] (fun j => if j = 1917 then 1 else (fun _ => 0) j) := hT
  show Dn p e below _ (T7.setTop (mkF m 62 #[.val (.int p1), .val (.int p2), .val (.int p3), .val (.int p4), .val (.int p5), .val (.int p6), .val (.int (p1 &&& (1 : Int32))), .val (.int (((p1.toUInt32 >>> ((1 : Int32) &&& 31).toUInt32).toInt32) % (3 : Int32))), .val (.int (p6 &&& (3 : Int32))), .val (.ref k1), .val (.ref k2), .val (.ref k3), .val (.ref k4), .val (.ref b5), .unset, .unset] [(.int (0 : Int32))]))
  refine o_if_eq X7 hx (pc' := 65) (pt := 67) (hb hby at_62) rfl (by decide) (by decide) (fun _ => ?_) (fun q => absurd (by decide) q)
  refine o_aload X7 hx (pc' := 69) (hb hby at_67) rfl rfl rfl ?_
  refine o_aload X7 hx (pc' := 71) (hb hby at_69) rfl rfl rfl ?_
  refine o_iconst X7 hx (pc' := 72) (v := (0 : Int32)) (hb hby at_71) rfl rfl ?_
  refine o_iloadN X7 hx (pc' := 73) (hb hby at_72) rfl rfl ?_
  refine o_callV X7 hx hZ b5 [(.ref k2), (.int (0 : Int32)), (.int p3)] (rmA1 l Z a0 hw T7.heap n0 ZZ b5 k2 (0 : Int32) p3 [.int (-1 : Int32), .int 0, .int 0, .int 0] [.int p2, .int 0, .int 0, .int 0] (fun j => if j = 1917 then 1 else (fun _ => 0) j) hT hP1 (by decide) (Nat.le_of_ble_eq_true rfl) (Nat.le_of_ble_eq_true rfl) g_b5) hown (hw _ (List.mem_of_getElem? (i := 85) rfl)) (hw _ (List.mem_of_getElem? (i := 86) rfl)) (hw _ (List.mem_of_getElem? (i := 88) rfl)) (hw _ (List.mem_of_getElem? (i := 87) rfl)) (hw _ (List.mem_of_getElem? (i := 32) rfl)) (hw _ (List.mem_of_getElem? (i := 89) rfl)) (by decide) hT.exa pd_15 rfl (by rw [hml]; rfl) rfl rfl rfl (hb hby at_73) (pc' := 76) rfl 0 (Nat.le_of_eq rfl) (by decide) (by decide) (by decide) (by decide) ?_
  intro T8 v8 L8 X8 hQ8
  obtain ⟨rfl, Nq, ⟨ws, Kq, hws⟩, hT⟩ := hQ8
  have NN := Fr.app NN Nq
  have ZZ := Nat.le_trans ZZ Kq.1
  have hP0 := hP0.keep Kq hws
  have hP1 := hP1.keep Kq hws
  have hP2 := hP2.keep Kq hws
  have hP3 := hP3.keep Kq hws
  have hT : Tab Z T8.heap b5 2 [.int (-1 : Int32), .int (0 : Int32), .int 0, .int 0] [.int p2, .int p3, .int 0, .int 0] (fun j => if j = 954 then 2 else (fun j => if j = 1917 then 1 else (fun _ => 0) j) j) := hT
  show Dn p e below _ (T8.setTop (mkF m 76 #[.val (.int p1), .val (.int p2), .val (.int p3), .val (.int p4), .val (.int p5), .val (.int p6), .val (.int (p1 &&& (1 : Int32))), .val (.int (((p1.toUInt32 >>> ((1 : Int32) &&& 31).toUInt32).toInt32) % (3 : Int32))), .val (.int (p6 &&& (3 : Int32))), .val (.ref k1), .val (.ref k2), .val (.ref k3), .val (.ref k4), .val (.ref b5), .unset, .unset] [(.int (1 : Int32))]))
  refine o_iconst X8 hx (pc' := 77) (v := (1 : Int32)) (hb hby at_76) rfl rfl ?_
  refine o_icmp_eq X8 hx (pc' := 80) (pt := 82) (hb hby at_77) rfl (by decide) (by decide) (fun _ => ?_) (fun q => absurd (by decide) q)
  refine o_aload X8 hx (pc' := 84) (hb hby at_82) rfl rfl rfl ?_
  refine o_aload X8 hx (pc' := 86) (hb hby at_84) rfl rfl rfl ?_
  refine o_iload X8 hx (pc' := 88) (hb hby at_86) rfl rfl ?_
  refine o_iloadN X8 hx (pc' := 89) (hb hby at_88) rfl rfl ?_
  refine o_callV X8 hx hZ b5 [(.ref k3), (.int (p1 &&& (1 : Int32))), (.int p4)] (rmA2 l Z a0 hw T8.heap n0 ZZ b5 k3 (p1 &&& (1 : Int32)) p4 [.int (-1 : Int32), .int (0 : Int32), .int 0, .int 0] [.int p2, .int p3, .int 0, .int 0] (fun j => if j = 954 then 2 else (fun j => if j = 1917 then 1 else (fun _ => 0) j) j) hT hP2 (by decide) (Nat.le_of_ble_eq_true rfl) (Nat.le_of_ble_eq_true rfl) g_b5) hown (hw _ (List.mem_of_getElem? (i := 85) rfl)) (hw _ (List.mem_of_getElem? (i := 86) rfl)) (hw _ (List.mem_of_getElem? (i := 88) rfl)) (hw _ (List.mem_of_getElem? (i := 87) rfl)) (hw _ (List.mem_of_getElem? (i := 32) rfl)) (hw _ (List.mem_of_getElem? (i := 89) rfl)) (by decide) hT.exa pd_15 rfl (by rw [hml]; rfl) rfl rfl rfl (hb hby at_89) (pc' := 92) rfl 0 (Nat.le_of_eq rfl) (by decide) (by decide) (by decide) (by decide) ?_
  intro T9 v9 L9 X9 hQ9
  obtain ⟨rfl, Nq, ⟨ws, Kq, hws⟩, hT⟩ := hQ9
  have NN := Fr.app NN Nq
  have ZZ := Nat.le_trans ZZ Kq.1
  have hP0 := hP0.keep Kq hws
  have hP1 := hP1.keep Kq hws
  have hP2 := hP2.keep Kq hws
  have hP3 := hP3.keep Kq hws
  have hT : Tab Z T9.heap b5 3 [.int (-1 : Int32), .int (0 : Int32), .int (p1 &&& (1 : Int32)), .int 0] [.int p2, .int p3, .int p4, .int 0] (fun j => if j = 1141 then 3 else (fun j => if j = 954 then 2 else (fun j => if j = 1917 then 1 else (fun _ => 0) j) j) j) := hT
  show Dn p e below _ (T9.setTop (mkF m 92 #[.val (.int p1), .val (.int p2), .val (.int p3), .val (.int p4), .val (.int p5), .val (.int p6), .val (.int (p1 &&& (1 : Int32))), .val (.int (((p1.toUInt32 >>> ((1 : Int32) &&& 31).toUInt32).toInt32) % (3 : Int32))), .val (.int (p6 &&& (3 : Int32))), .val (.ref k1), .val (.ref k2), .val (.ref k3), .val (.ref k4), .val (.ref b5), .unset, .unset] [(.int (2 : Int32))]))
  refine o_iconst X9 hx (pc' := 93) (v := (2 : Int32)) (hb hby at_92) rfl rfl ?_
  refine o_icmp_eq X9 hx (pc' := 96) (pt := 98) (hb hby at_93) rfl (by decide) (by decide) (fun _ => ?_) (fun q => absurd (by decide) q)
  refine o_aload X9 hx (pc' := 100) (hb hby at_98) rfl rfl rfl ?_
  refine o_aload X9 hx (pc' := 102) (hb hby at_100) rfl rfl rfl ?_
  refine o_iload X9 hx (pc' := 104) (hb hby at_102) rfl rfl ?_
  refine o_iload X9 hx (pc' := 106) (hb hby at_104) rfl rfl ?_
  refine o_callV X9 hx hZ b5 [(.ref k4), (.int (((p1.toUInt32 >>> ((1 : Int32) &&& 31).toUInt32).toInt32) % (3 : Int32))), (.int p5)] (rmA3 l Z a0 hw T9.heap n0 ZZ b5 k4 (((p1.toUInt32 >>> ((1 : Int32) &&& 31).toUInt32).toInt32) % (3 : Int32)) p5 [.int (-1 : Int32), .int (0 : Int32), .int (p1 &&& (1 : Int32)), .int 0] [.int p2, .int p3, .int p4, .int 0] (fun j => if j = 1141 then 3 else (fun j => if j = 954 then 2 else (fun j => if j = 1917 then 1 else (fun _ => 0) j) j) j) hT hP3 (by decide) (Nat.le_of_ble_eq_true rfl) (Nat.le_of_ble_eq_true rfl) g_b5) hown (hw _ (List.mem_of_getElem? (i := 85) rfl)) (hw _ (List.mem_of_getElem? (i := 86) rfl)) (hw _ (List.mem_of_getElem? (i := 88) rfl)) (hw _ (List.mem_of_getElem? (i := 87) rfl)) (hw _ (List.mem_of_getElem? (i := 32) rfl)) (hw _ (List.mem_of_getElem? (i := 89) rfl)) (by decide) hT.exa pd_15 rfl (by rw [hml]; rfl) rfl rfl rfl (hb hby at_106) (pc' := 109) rfl 0 (Nat.le_of_eq rfl) (by decide) (by decide) (by decide) (by decide) ?_
  intro T10 v10 L10 X10 hQ10
  obtain ⟨rfl, Nq, ⟨ws, Kq, hws⟩, hT⟩ := hQ10
  have NN := Fr.app NN Nq
  have ZZ := Nat.le_trans ZZ Kq.1
  have hP0 := hP0.keep Kq hws
  have hP1 := hP1.keep Kq hws
  have hP2 := hP2.keep Kq hws
  have hP3 := hP3.keep Kq hws
  have hT : Tab Z T10.heap b5 4 [.int (-1 : Int32), .int (0 : Int32), .int (p1 &&& (1 : Int32)), .int (((p1.toUInt32 >>> ((1 : Int32) &&& 31).toUInt32).toInt32) % (3 : Int32))] [.int p2, .int p3, .int p4, .int p5] (fun j => if j = 239 then 4 else (fun j => if j = 1141 then 3 else (fun j => if j = 954 then 2 else (fun j => if j = 1917 then 1 else (fun _ => 0) j) j) j) j) := hT
  show Dn p e below _ (T10.setTop (mkF m 109 #[.val (.int p1), .val (.int p2), .val (.int p3), .val (.int p4), .val (.int p5), .val (.int p6), .val (.int (p1 &&& (1 : Int32))), .val (.int (((p1.toUInt32 >>> ((1 : Int32) &&& 31).toUInt32).toInt32) % (3 : Int32))), .val (.int (p6 &&& (3 : Int32))), .val (.ref k1), .val (.ref k2), .val (.ref k3), .val (.ref k4), .val (.ref b5), .unset, .unset] [(.int (3 : Int32))]))
  refine o_iconst X10 hx (pc' := 110) (v := (3 : Int32)) (hb hby at_109) rfl rfl ?_
  refine o_icmp_eq X10 hx (pc' := 113) (pt := 115) (hb hby at_110) rfl (by decide) (by decide) (fun _ => ?_) (fun q => absurd (by decide) q)
  refine o_aload X10 hx (pc' := 117) (hb hby at_115) rfl rfl rfl ?_
  refine o_iload X10 hx (pc' := 119) (hb hby at_117) rfl rfl ?_
  rcases own_m3 p6 with he | he | he | he
  · rw [he]
    show Dn p e below _ (T10.setTop (mkF m 119 #[.val (.int p1), .val (.int p2), .val (.int p3), .val (.int p4), .val (.int p5), .val (.int p6), .val (.int (p1 &&& (1 : Int32))), .val (.int (((p1.toUInt32 >>> ((1 : Int32) &&& 31).toUInt32).toInt32) % (3 : Int32))), .val (.int (0 : Int32)), .val (.ref k1), .val (.ref k2), .val (.ref k3), .val (.ref k4), .val (.ref b5), .unset, .unset] [(.int (0 : Int32)), (.ref b5)]))
    refine o_callV X10 hx hZ b5 [(.int (0 : Int32))] (rmM0 l Z a0 hw T10.heap n0 ZZ b5 _ [.int (-1 : Int32), .int (0 : Int32), .int (p1 &&& (1 : Int32)), .int (((p1.toUInt32 >>> ((1 : Int32) &&& 31).toUInt32).toInt32) % (3 : Int32))] [.int p2, .int p3, .int p4, .int p5] _ hT rfl ) hown (hw _ (List.mem_of_getElem? (i := 159) rfl)) (hw _ (List.mem_of_getElem? (i := 160) rfl)) (hw _ (List.mem_of_getElem? (i := 162) rfl)) (hw _ (List.mem_of_getElem? (i := 161) rfl)) (hw _ (List.mem_of_getElem? (i := 32) rfl)) (hw _ (List.mem_of_getElem? (i := 163) rfl)) (by decide) hT.exa pd_16 rfl (by rw [hml]; rfl) rfl rfl rfl (hb hby at_119) (pc' := 122) rfl 0 (Nat.le_of_eq rfl) (by decide) (by decide) (by decide) (by decide) ?_
    intro T11 v11 L11 X11 hQ11
    obtain ⟨bl, kl, rfl, Nq, Kq, szl, vL⟩ := hQ11
    have NN := Fr.app NN Nq
    have ZZ := Nat.le_trans ZZ Kq.1
    show Dn p e below _ (T11.setTop (mkF m 122 #[.val (.int p1), .val (.int p2), .val (.int p3), .val (.int p4), .val (.int p5), .val (.int p6), .val (.int (p1 &&& (1 : Int32))), .val (.int (((p1.toUInt32 >>> ((1 : Int32) &&& 31).toUInt32).toInt32) % (3 : Int32))), .val (.int (0 : Int32)), .val (.ref k1), .val (.ref k2), .val (.ref k3), .val (.ref k4), .val (.ref b5), .unset, .unset] [(.ref bl)]))
    refine o_astore X11 hx (pc' := 124) (Ls' := #[.val (.int p1), .val (.int p2), .val (.int p3), .val (.int p4), .val (.int p5), .val (.int p6), .val (.int (p1 &&& (1 : Int32))), .val (.int (((p1.toUInt32 >>> ((1 : Int32) &&& 31).toUInt32).toInt32) % (3 : Int32))), .val (.int (0 : Int32)), .val (.ref k1), .val (.ref k2), .val (.ref k3), .val (.ref k4), .val (.ref b5), .val (.ref bl), .unset]) (hb hby at_122) rfl rfl rfl ?_
    refine o_iload X11 hx (pc' := 126) (hb hby at_124) rfl rfl ?_
    refine o_if_ne X11 hx (pc' := 129) (pt := 137) (hb hby at_126) rfl (by decide) (by decide) (fun q => absurd (by decide) q) (fun _ => ?_)
    refine o_iconst X11 hx (pc' := 130) (v := (0 : Int32)) (hb hby at_129) rfl rfl ?_
    refine o_newarray X11 hx hZ rfl (hw _ (List.mem_of_getElem? (i := 78) rfl)) (hb hby at_130) (pc' := 132) rfl (by decide) 0 (by decide) (by decide) (by decide) (by decide) ?_
    intro T12 h12 b12 k12 g12 X12 e12 E12 V12
    have lt_bl_b12 : bl < b12 := Nat.lt_of_lt_of_le vL.lt (Nat.le_of_eq g12.symm)
    have ne_bl_b12 : bl ≠ b12 := Nat.ne_of_lt lt_bl_b12
    have g_b12 : n0 ≤ b12 := Nat.le_trans ZZ (Nat.le_of_eq g12.symm)
    have ZZ := Nat.le_trans ZZ E12.1
    have vL := vL.ext E12
    have vX : Arv Z h12 b12 k12 .int (0 : Int32) [] (.int 0) := V12.pad (pad_rep [] _ 0)
    refine o_astore X12 hx (pc' := 134) (Ls' := #[.val (.int p1), .val (.int p2), .val (.int p3), .val (.int p4), .val (.int p5), .val (.int p6), .val (.int (p1 &&& (1 : Int32))), .val (.int (((p1.toUInt32 >>> ((1 : Int32) &&& 31).toUInt32).toInt32) % (3 : Int32))), .val (.int (0 : Int32)), .val (.ref k1), .val (.ref k2), .val (.ref k3), .val (.ref k4), .val (.ref b5), .val (.ref bl), .val (.ref b12)]) (hb hby at_132) rfl rfl rfl ?_
    refine o_goto X12 hx (pc' := 271) (hb hby at_134) (by decide) (by decide) ?_
    refine o_aload X12 hx (pc' := 273) (hb hby at_271) rfl rfl rfl ?_
    refine o_aload X12 hx (pc' := 275) (hb hby at_273) rfl rfl rfl ?_
    refine o_callSP X12 hx hZ [(.ref bl), (.ref b12)] (rmS0 l Z a0 hw h12 n0 ZZ bl b12 kl k12  vL vX) hown (hw _ (List.mem_of_getElem? (i := 164) rfl)) (hw _ (List.mem_of_getElem? (i := 165) rfl)) (hw _ (List.mem_of_getElem? (i := 2) rfl)) (hw _ (List.mem_of_getElem? (i := 166) rfl)) (by decide) pd_17 e12 (by rw [hml]; rfl) rfl rfl rfl (hb hby at_275) (pc' := 278) rfl 0 (Nat.le_of_eq rfl) (by decide) (by decide) rfl rfl (by decide) (by decide) ?_
    intro T13 X13 e13
    show Dn p e below _ (T13.setTop (mkF m 278 #[.val (.int p1), .val (.int p2), .val (.int p3), .val (.int p4), .val (.int p5), .val (.int p6), .val (.int (p1 &&& (1 : Int32))), .val (.int (((p1.toUInt32 >>> ((1 : Int32) &&& 31).toUInt32).toInt32) % (3 : Int32))), .val (.int (0 : Int32)), .val (.ref k1), .val (.ref k2), .val (.ref k3), .val (.ref k4), .val (.ref b5), .val (.ref bl), .val (.ref b12)] [(.int (1 : Int32))]))
    exact finN X13 hx hlk (t := .boolean) hret (by simp) (hb hby at_278) (by decide) (by decide) ⟨rfl, NN⟩
  · rw [he]
    show Dn p e below _ (T10.setTop (mkF m 119 #[.val (.int p1), .val (.int p2), .val (.int p3), .val (.int p4), .val (.int p5), .val (.int p6), .val (.int (p1 &&& (1 : Int32))), .val (.int (((p1.toUInt32 >>> ((1 : Int32) &&& 31).toUInt32).toInt32) % (3 : Int32))), .val (.int (1 : Int32)), .val (.ref k1), .val (.ref k2), .val (.ref k3), .val (.ref k4), .val (.ref b5), .unset, .unset] [(.int (1 : Int32)), (.ref b5)]))
    refine o_callV X10 hx hZ b5 [(.int (1 : Int32))] (rmM10 l Z a0 hw T10.heap n0 ZZ b5 _ [.int (-1 : Int32), .int (0 : Int32), .int (p1 &&& (1 : Int32)), .int (((p1.toUInt32 >>> ((1 : Int32) &&& 31).toUInt32).toInt32) % (3 : Int32))] [.int p2, .int p3, .int p4, .int p5] _ hT rfl rfl p3 rfl) hown (hw _ (List.mem_of_getElem? (i := 159) rfl)) (hw _ (List.mem_of_getElem? (i := 160) rfl)) (hw _ (List.mem_of_getElem? (i := 162) rfl)) (hw _ (List.mem_of_getElem? (i := 161) rfl)) (hw _ (List.mem_of_getElem? (i := 32) rfl)) (hw _ (List.mem_of_getElem? (i := 163) rfl)) (by decide) hT.exa pd_16 rfl (by rw [hml]; rfl) rfl rfl rfl (hb hby at_119) (pc' := 122) rfl 0 (Nat.le_of_eq rfl) (by decide) (by decide) (by decide) (by decide) ?_
    intro T14 v14 L14 X14 hQ14
    obtain ⟨bl, kl, rfl, Nq, Kq, szl, vL⟩ := hQ14
    have NN := Fr.app NN Nq
    have ZZ := Nat.le_trans ZZ Kq.1
    show Dn p e below _ (T14.setTop (mkF m 122 #[.val (.int p1), .val (.int p2), .val (.int p3), .val (.int p4), .val (.int p5), .val (.int p6), .val (.int (p1 &&& (1 : Int32))), .val (.int (((p1.toUInt32 >>> ((1 : Int32) &&& 31).toUInt32).toInt32) % (3 : Int32))), .val (.int (1 : Int32)), .val (.ref k1), .val (.ref k2), .val (.ref k3), .val (.ref k4), .val (.ref b5), .unset, .unset] [(.ref bl)]))
    refine o_astore X14 hx (pc' := 124) (Ls' := #[.val (.int p1), .val (.int p2), .val (.int p3), .val (.int p4), .val (.int p5), .val (.int p6), .val (.int (p1 &&& (1 : Int32))), .val (.int (((p1.toUInt32 >>> ((1 : Int32) &&& 31).toUInt32).toInt32) % (3 : Int32))), .val (.int (1 : Int32)), .val (.ref k1), .val (.ref k2), .val (.ref k3), .val (.ref k4), .val (.ref b5), .val (.ref bl), .unset]) (hb hby at_122) rfl rfl rfl ?_
    refine o_iload X14 hx (pc' := 126) (hb hby at_124) rfl rfl ?_
    refine o_if_ne X14 hx (pc' := 129) (pt := 137) (hb hby at_126) rfl (by decide) (by decide) (fun _ => ?_) (fun q => absurd q (by decide))
    refine o_iload X14 hx (pc' := 139) (hb hby at_137) rfl rfl ?_
    refine o_iconst X14 hx (pc' := 140) (v := (1 : Int32)) (hb hby at_139) rfl rfl ?_
    refine o_icmp_ne X14 hx (pc' := 143) (pt := 155) (hb hby at_140) rfl (by decide) (by decide) (fun q => absurd (by decide) q) (fun _ => ?_)
    refine o_iconst X14 hx (pc' := 144) (v := (1 : Int32)) (hb hby at_143) rfl rfl ?_
    refine o_newarray X14 hx hZ rfl (hw _ (List.mem_of_getElem? (i := 78) rfl)) (hb hby at_144) (pc' := 146) rfl (by decide) 1 (by decide) (by decide) (by decide) (by decide) ?_
    intro T15 h15 b15 k15 g15 X15 e15 E15 V15
    have lt_bl_b15 : bl < b15 := Nat.lt_of_lt_of_le vL.lt (Nat.le_of_eq g15.symm)
    have ne_bl_b15 : bl ≠ b15 := Nat.ne_of_lt lt_bl_b15
    have g_b15 : n0 ≤ b15 := Nat.le_trans ZZ (Nat.le_of_eq g15.symm)
    have ZZ := Nat.le_trans ZZ E15.1
    have vL := vL.ext E15
    have vX : Arv Z h15 b15 k15 .int (1 : Int32) [.int 0] (.int 0) := V15.pad (pad_rep [] _ 1)
    refine o_dup X15 hx (pc' := 147) (hb hby at_146) rfl rfl ?_
    refine o_iconst X15 hx (pc' := 148) (v := (0 : Int32)) (hb hby at_147) rfl rfl ?_
    refine o_iloadN X15 hx (pc' := 149) (hb hby at_148) rfl rfl ?_
    refine o_iastore X15 hx hZ e15 vX (by decide) 0 rfl (Nat.le_of_ble_eq_true rfl) (hb hby at_149) (pc' := 150) rfl ?_
    intro T16 h16 X16 e16 W16 V16
    have NN := Fr.snoc X16 NN g_b15
    have ZZ := Nat.le_trans ZZ (Keep.of_wr W16).1
    have vL := vL.other W16 ne_bl_b15
    have vX : Arv Z h16 b15 k15 .int 1 [.int p3] (.int 0) := V16
    refine o_astore X16 hx (pc' := 152) (Ls' := #[.val (.int p1), .val (.int p2), .val (.int p3), .val (.int p4), .val (.int p5), .val (.int p6), .val (.int (p1 &&& (1 : Int32))), .val (.int (((p1.toUInt32 >>> ((1 : Int32) &&& 31).toUInt32).toInt32) % (3 : Int32))), .val (.int (1 : Int32)), .val (.ref k1), .val (.ref k2), .val (.ref k3), .val (.ref k4), .val (.ref b5), .val (.ref bl), .val (.ref b15)]) (hb hby at_150) rfl rfl rfl ?_
    refine o_goto X16 hx (pc' := 271) (hb hby at_152) (by decide) (by decide) ?_
    refine o_aload X16 hx (pc' := 273) (hb hby at_271) rfl rfl rfl ?_
    refine o_aload X16 hx (pc' := 275) (hb hby at_273) rfl rfl rfl ?_
    refine o_callSP X16 hx hZ [(.ref bl), (.ref b15)] (rmS1 l Z a0 hw h16 n0 ZZ bl b15 kl k15 p3 vL vX) hown (hw _ (List.mem_of_getElem? (i := 164) rfl)) (hw _ (List.mem_of_getElem? (i := 165) rfl)) (hw _ (List.mem_of_getElem? (i := 2) rfl)) (hw _ (List.mem_of_getElem? (i := 166) rfl)) (by decide) pd_17 e16 (by rw [hml]; rfl) rfl rfl rfl (hb hby at_275) (pc' := 278) rfl 0 (Nat.le_of_eq rfl) (by decide) (by decide) rfl rfl (by decide) (by decide) ?_
    intro T17 X17 e17
    show Dn p e below _ (T17.setTop (mkF m 278 #[.val (.int p1), .val (.int p2), .val (.int p3), .val (.int p4), .val (.int p5), .val (.int p6), .val (.int (p1 &&& (1 : Int32))), .val (.int (((p1.toUInt32 >>> ((1 : Int32) &&& 31).toUInt32).toInt32) % (3 : Int32))), .val (.int (1 : Int32)), .val (.ref k1), .val (.ref k2), .val (.ref k3), .val (.ref k4), .val (.ref b5), .val (.ref bl), .val (.ref b15)] [(.int (1 : Int32))]))
    exact finN X17 hx hlk (t := .boolean) hret (by simp) (hb hby at_278) (by decide) (by decide) ⟨rfl, NN⟩
  · rw [he]
    rcases own_m1 p1 with h2 | h2
    · rw [h2] at hT ⊢
      show Dn p e below _ (T10.setTop (mkF m 119 #[.val (.int p1), .val (.int p2), .val (.int p3), .val (.int p4), .val (.int p5), .val (.int p6), .val (.int (0 : Int32)), .val (.int (((p1.toUInt32 >>> ((1 : Int32) &&& 31).toUInt32).toInt32) % (3 : Int32))), .val (.int (2 : Int32)), .val (.ref k1), .val (.ref k2), .val (.ref k3), .val (.ref k4), .val (.ref b5), .unset, .unset] [(.int (2 : Int32)), (.ref b5)]))
      refine o_callV X10 hx hZ b5 [(.int (2 : Int32))] (rmM20 l Z a0 hw T10.heap n0 ZZ b5 _ [.int (-1 : Int32), .int (0 : Int32), .int (0 : Int32), .int (((p1.toUInt32 >>> ((1 : Int32) &&& 31).toUInt32).toInt32) % (3 : Int32))] [.int p2, .int p3, .int p4, .int p5] _ hT rfl rfl p4 rfl) hown (hw _ (List.mem_of_getElem? (i := 159) rfl)) (hw _ (List.mem_of_getElem? (i := 160) rfl)) (hw _ (List.mem_of_getElem? (i := 162) rfl)) (hw _ (List.mem_of_getElem? (i := 161) rfl)) (hw _ (List.mem_of_getElem? (i := 32) rfl)) (hw _ (List.mem_of_getElem? (i := 163) rfl)) (by decide) hT.exa pd_16 rfl (by rw [hml]; rfl) rfl rfl rfl (hb hby at_119) (pc' := 122) rfl 0 (Nat.le_of_eq rfl) (by decide) (by decide) (by decide) (by decide) ?_
      intro T18 v18 L18 X18 hQ18
      obtain ⟨bl, kl, rfl, Nq, Kq, szl, vL⟩ := hQ18
      have NN := Fr.app NN Nq
      have ZZ := Nat.le_trans ZZ Kq.1
      show Dn p e below _ (T18.setTop (mkF m 122 #[.val (.int p1), .val (.int p2), .val (.int p3), .val (.int p4), .val (.int p5), .val (.int p6), .val (.int (0 : Int32)), .val (.int (((p1.toUInt32 >>> ((1 : Int32) &&& 31).toUInt32).toInt32) % (3 : Int32))), .val (.int (2 : Int32)), .val (.ref k1), .val (.ref k2), .val (.ref k3), .val (.ref k4), .val (.ref b5), .unset, .unset] [(.ref bl)]))
      refine o_astore X18 hx (pc' := 124) (Ls' := #[.val (.int p1), .val (.int p2), .val (.int p3), .val (.int p4), .val (.int p5), .val (.int p6), .val (.int (0 : Int32)), .val (.int (((p1.toUInt32 >>> ((1 : Int32) &&& 31).toUInt32).toInt32) % (3 : Int32))), .val (.int (2 : Int32)), .val (.ref k1), .val (.ref k2), .val (.ref k3), .val (.ref k4), .val (.ref b5), .val (.ref bl), .unset]) (hb hby at_122) rfl rfl rfl ?_
      refine o_iload X18 hx (pc' := 126) (hb hby at_124) rfl rfl ?_
      refine o_if_ne X18 hx (pc' := 129) (pt := 137) (hb hby at_126) rfl (by decide) (by decide) (fun _ => ?_) (fun q => absurd q (by decide))
      refine o_iload X18 hx (pc' := 139) (hb hby at_137) rfl rfl ?_
      refine o_iconst X18 hx (pc' := 140) (v := (1 : Int32)) (hb hby at_139) rfl rfl ?_
      refine o_icmp_ne X18 hx (pc' := 143) (pt := 155) (hb hby at_140) rfl (by decide) (by decide) (fun _ => ?_) (fun q => absurd q (by decide))
      refine o_iload X18 hx (pc' := 157) (hb hby at_155) rfl rfl ?_
      refine o_iconst X18 hx (pc' := 158) (v := (2 : Int32)) (hb hby at_157) rfl rfl ?_
      refine o_icmp_ne X18 hx (pc' := 161) (pt := 192) (hb hby at_158) rfl (by decide) (by decide) (fun q => absurd (by decide) q) (fun _ => ?_)
      refine o_iload X18 hx (pc' := 163) (hb hby at_161) rfl rfl ?_
      refine o_if_ne X18 hx (pc' := 166) (pt := 176) (hb hby at_163) rfl (by decide) (by decide) (fun q => absurd (by decide) q) (fun _ => ?_)
      refine o_iconst X18 hx (pc' := 167) (v := (1 : Int32)) (hb hby at_166) rfl rfl ?_
      refine o_newarray X18 hx hZ rfl (hw _ (List.mem_of_getElem? (i := 78) rfl)) (hb hby at_167) (pc' := 169) rfl (by decide) 1 (by decide) (by decide) (by decide) (by decide) ?_
      intro T19 h19 b19 k19 g19 X19 e19 E19 V19
      have lt_bl_b19 : bl < b19 := Nat.lt_of_lt_of_le vL.lt (Nat.le_of_eq g19.symm)
      have ne_bl_b19 : bl ≠ b19 := Nat.ne_of_lt lt_bl_b19
      have g_b19 : n0 ≤ b19 := Nat.le_trans ZZ (Nat.le_of_eq g19.symm)
      have ZZ := Nat.le_trans ZZ E19.1
      have vL := vL.ext E19
      have vX : Arv Z h19 b19 k19 .int (1 : Int32) [.int 0] (.int 0) := V19.pad (pad_rep [] _ 1)
      refine o_dup X19 hx (pc' := 170) (hb hby at_169) rfl rfl ?_
      refine o_iconst X19 hx (pc' := 171) (v := (0 : Int32)) (hb hby at_170) rfl rfl ?_
      refine o_iloadN X19 hx (pc' := 172) (hb hby at_171) rfl rfl ?_
      refine o_iastore X19 hx hZ e19 vX (by decide) 0 rfl (Nat.le_of_ble_eq_true rfl) (hb hby at_172) (pc' := 173) rfl ?_
      intro T20 h20 X20 e20 W20 V20
      have NN := Fr.snoc X20 NN g_b19
      have ZZ := Nat.le_trans ZZ (Keep.of_wr W20).1
      have vL := vL.other W20 ne_bl_b19
      have vX : Arv Z h20 b19 k19 .int 1 [.int p4] (.int 0) := V20
      refine o_goto X20 hx (pc' := 187) (hb hby at_173) (by decide) (by decide) ?_
      refine o_astore X20 hx (pc' := 189) (Ls' := #[.val (.int p1), .val (.int p2), .val (.int p3), .val (.int p4), .val (.int p5), .val (.int p6), .val (.int (0 : Int32)), .val (.int (((p1.toUInt32 >>> ((1 : Int32) &&& 31).toUInt32).toInt32) % (3 : Int32))), .val (.int (2 : Int32)), .val (.ref k1), .val (.ref k2), .val (.ref k3), .val (.ref k4), .val (.ref b5), .val (.ref bl), .val (.ref b19)]) (hb hby at_187) rfl rfl rfl ?_
      refine o_goto X20 hx (pc' := 271) (hb hby at_189) (by decide) (by decide) ?_
      refine o_aload X20 hx (pc' := 273) (hb hby at_271) rfl rfl rfl ?_
      refine o_aload X20 hx (pc' := 275) (hb hby at_273) rfl rfl rfl ?_
      refine o_callSP X20 hx hZ [(.ref bl), (.ref b19)] (rmS1 l Z a0 hw h20 n0 ZZ bl b19 kl k19 p4 vL vX) hown (hw _ (List.mem_of_getElem? (i := 164) rfl)) (hw _ (List.mem_of_getElem? (i := 165) rfl)) (hw _ (List.mem_of_getElem? (i := 2) rfl)) (hw _ (List.mem_of_getElem? (i := 166) rfl)) (by decide) pd_17 e20 (by rw [hml]; rfl) rfl rfl rfl (hb hby at_275) (pc' := 278) rfl 0 (Nat.le_of_eq rfl) (by decide) (by decide) rfl rfl (by decide) (by decide) ?_
      intro T21 X21 e21
      show Dn p e below _ (T21.setTop (mkF m 278 #[.val (.int p1), .val (.int p2), .val (.int p3), .val (.int p4), .val (.int p5), .val (.int p6), .val (.int (0 : Int32)), .val (.int (((p1.toUInt32 >>> ((1 : Int32) &&& 31).toUInt32).toInt32) % (3 : Int32))), .val (.int (2 : Int32)), .val (.ref k1), .val (.ref k2), .val (.ref k3), .val (.ref k4), .val (.ref b5), .val (.ref bl), .val (.ref b19)] [(.int (1 : Int32))]))
      exact finN X21 hx hlk (t := .boolean) hret (by simp) (hb hby at_278) (by decide) (by decide) ⟨rfl, NN⟩
    · rw [h2] at hT ⊢
      show Dn p e below _ (T10.setTop (mkF m 119 #[.val (.int p1), .val (.int p2), .val (.int p3), .val (.int p4), .val (.int p5), .val (.int p6), .val (.int (1 : Int32)), .val (.int (((p1.toUInt32 >>> ((1 : Int32) &&& 31).toUInt32).toInt32) % (3 : Int32))), .val (.int (2 : Int32)), .val (.ref k1), .val (.ref k2), .val (.ref k3), .val (.ref k4), .val (.ref b5), .unset, .unset] [(.int (2 : Int32)), (.ref b5)]))
      refine o_callV X10 hx hZ b5 [(.int (2 : Int32))] (rmM210 l Z a0 hw T10.heap n0 ZZ b5 _ [.int (-1 : Int32), .int (0 : Int32), .int (1 : Int32), .int (((p1.toUInt32 >>> ((1 : Int32) &&& 31).toUInt32).toInt32) % (3 : Int32))] [.int p2, .int p3, .int p4, .int p5] _ hT rfl rfl rfl p4 rfl p3 rfl) hown (hw _ (List.mem_of_getElem? (i := 159) rfl)) (hw _ (List.mem_of_getElem? (i := 160) rfl)) (hw _ (List.mem_of_getElem? (i := 162) rfl)) (hw _ (List.mem_of_getElem? (i := 161) rfl)) (hw _ (List.mem_of_getElem? (i := 32) rfl)) (hw _ (List.mem_of_getElem? (i := 163) rfl)) (by decide) hT.exa pd_16 rfl (by rw [hml]; rfl) rfl rfl rfl (hb hby at_119) (pc' := 122) rfl 0 (Nat.le_of_eq rfl) (by decide) (by decide) (by decide) (by decide) ?_
      intro T22 v22 L22 X22 hQ22
      obtain ⟨bl, kl, rfl, Nq, Kq, szl, vL⟩ := hQ22
      have NN := Fr.app NN Nq
      have ZZ := Nat.le_trans ZZ Kq.1
      show Dn p e below _ (T22.setTop (mkF m 122 #[.val (.int p1), .val (.int p2), .val (.int p3), .val (.int p4), .val (.int p5), .val (.int p6), .val (.int (1 : Int32)), .val (.int (((p1.toUInt32 >>> ((1 : Int32) &&& 31).toUInt32).toInt32) % (3 : Int32))), .val (.int (2 : Int32)), .val (.ref k1), .val (.ref k2), .val (.ref k3), .val (.ref k4), .val (.ref b5), .unset, .unset] [(.ref bl)]))
      refine o_astore X22 hx (pc' := 124) (Ls' := #[.val (.int p1), .val (.int p2), .val (.int p3), .val (.int p4), .val (.int p5), .val (.int p6), .val (.int (1 : Int32)), .val (.int (((p1.toUInt32 >>> ((1 : Int32) &&& 31).toUInt32).toInt32) % (3 : Int32))), .val (.int (2 : Int32)), .val (.ref k1), .val (.ref k2), .val (.ref k3), .val (.ref k4), .val (.ref b5), .val (.ref bl), .unset]) (hb hby at_122) rfl rfl rfl ?_
      refine o_iload X22 hx (pc' := 126) (hb hby at_124) rfl rfl ?_
      refine o_if_ne X22 hx (pc' := 129) (pt := 137) (hb hby at_126) rfl (by decide) (by decide) (fun _ => ?_) (fun q => absurd q (by decide))
      refine o_iload X22 hx (pc' := 139) (hb hby at_137) rfl rfl ?_
      refine o_iconst X22 hx (pc' := 140) (v := (1 : Int32)) (hb hby at_139) rfl rfl ?_
      refine o_icmp_ne X22 hx (pc' := 143) (pt := 155) (hb hby at_140) rfl (by decide) (by decide) (fun _ => ?_) (fun q => absurd q (by decide))
      refine o_iload X22 hx (pc' := 157) (hb hby at_155) rfl rfl ?_
      refine o_iconst X22 hx (pc' := 158) (v := (2 : Int32)) (hb hby at_157) rfl rfl ?_
      refine o_icmp_ne X22 hx (pc' := 161) (pt := 192) (hb hby at_158) rfl (by decide) (by decide) (fun q => absurd (by decide) q) (fun _ => ?_)
      refine o_iload X22 hx (pc' := 163) (hb hby at_161) rfl rfl ?_
      refine o_if_ne X22 hx (pc' := 166) (pt := 176) (hb hby at_163) rfl (by decide) (by decide) (fun _ => ?_) (fun q => absurd q (by decide))
      refine o_iconst X22 hx (pc' := 177) (v := (2 : Int32)) (hb hby at_176) rfl rfl ?_
      refine o_newarray X22 hx hZ rfl (hw _ (List.mem_of_getElem? (i := 78) rfl)) (hb hby at_177) (pc' := 179) rfl (by decide) 2 (by decide) (by decide) (by decide) (by decide) ?_
      intro T23 h23 b23 k23 g23 X23 e23 E23 V23
      have lt_bl_b23 : bl < b23 := Nat.lt_of_lt_of_le vL.lt (Nat.le_of_eq g23.symm)
      have ne_bl_b23 : bl ≠ b23 := Nat.ne_of_lt lt_bl_b23
      have g_b23 : n0 ≤ b23 := Nat.le_trans ZZ (Nat.le_of_eq g23.symm)
      have ZZ := Nat.le_trans ZZ E23.1
      have vL := vL.ext E23
      have vX : Arv Z h23 b23 k23 .int (2 : Int32) [.int 0, .int 0] (.int 0) := V23.pad (pad_rep [] _ 2)
      refine o_dup X23 hx (pc' := 180) (hb hby at_179) rfl rfl ?_
      refine o_iconst X23 hx (pc' := 181) (v := (0 : Int32)) (hb hby at_180) rfl rfl ?_
      refine o_iloadN X23 hx (pc' := 182) (hb hby at_181) rfl rfl ?_
      refine o_iastore X23 hx hZ e23 vX (by decide) 0 rfl (Nat.le_of_ble_eq_true rfl) (hb hby at_182) (pc' := 183) rfl ?_
      intro T24 h24 X24 e24 W24 V24
      have NN := Fr.snoc X24 NN g_b23
      have ZZ := Nat.le_trans ZZ (Keep.of_wr W24).1
      have vL := vL.other W24 ne_bl_b23
      have vX : Arv Z h24 b23 k23 .int 2 [.int p3, .int 0] (.int 0) := V24
      refine o_dup X24 hx (pc' := 184) (hb hby at_183) rfl rfl ?_
      refine o_iconst X24 hx (pc' := 185) (v := (1 : Int32)) (hb hby at_184) rfl rfl ?_
      refine o_iloadN X24 hx (pc' := 186) (hb hby at_185) rfl rfl ?_
      refine o_iastore X24 hx hZ e24 vX (by decide) 1 rfl (Nat.le_of_ble_eq_true rfl) (hb hby at_186) (pc' := 187) rfl ?_
      intro T25 h25 X25 e25 W25 V25
      have NN := Fr.snoc X25 NN g_b23
      have ZZ := Nat.le_trans ZZ (Keep.of_wr W25).1
      have vL := vL.other W25 ne_bl_b23
      have vX : Arv Z h25 b23 k23 .int 2 [.int p3, .int p4] (.int 0) := V25
      refine o_astore X25 hx (pc' := 189) (Ls' := #[.val (.int p1), .val (.int p2), .val (.int p3), .val (.int p4), .val (.int p5), .val (.int p6), .val (.int (1 : Int32)), .val (.int (((p1.toUInt32 >>> ((1 : Int32) &&& 31).toUInt32).toInt32) % (3 : Int32))), .val (.int (2 : Int32)), .val (.ref k1), .val (.ref k2), .val (.ref k3), .val (.ref k4), .val (.ref b5), .val (.ref bl), .val (.ref b23)]) (hb hby at_187) rfl rfl rfl ?_
      refine o_goto X25 hx (pc' := 271) (hb hby at_189) (by decide) (by decide) ?_
      refine o_aload X25 hx (pc' := 273) (hb hby at_271) rfl rfl rfl ?_
      refine o_aload X25 hx (pc' := 275) (hb hby at_273) rfl rfl rfl ?_
      refine o_callSP X25 hx hZ [(.ref bl), (.ref b23)] (rmS2 l Z a0 hw h25 n0 ZZ bl b23 kl k23 p3 p4 vL vX) hown (hw _ (List.mem_of_getElem? (i := 164) rfl)) (hw _ (List.mem_of_getElem? (i := 165) rfl)) (hw _ (List.mem_of_getElem? (i := 2) rfl)) (hw _ (List.mem_of_getElem? (i := 166) rfl)) (by decide) pd_17 e25 (by rw [hml]; rfl) rfl rfl rfl (hb hby at_275) (pc' := 278) rfl 0 (Nat.le_of_eq rfl) (by decide) (by decide) rfl rfl (by decide) (by decide) ?_
      intro T26 X26 e26
      show Dn p e below _ (T26.setTop (mkF m 278 #[.val (.int p1), .val (.int p2), .val (.int p3), .val (.int p4), .val (.int p5), .val (.int p6), .val (.int (1 : Int32)), .val (.int (((p1.toUInt32 >>> ((1 : Int32) &&& 31).toUInt32).toInt32) % (3 : Int32))), .val (.int (2 : Int32)), .val (.ref k1), .val (.ref k2), .val (.ref k3), .val (.ref k4), .val (.ref b5), .val (.ref bl), .val (.ref b23)] [(.int (1 : Int32))]))
      exact finN X26 hx hlk (t := .boolean) hret (by simp) (hb hby at_278) (by decide) (by decide) ⟨rfl, NN⟩
  · rw [he]
    rcases own_r3 p1 with h3 | h3 | h3
    · rw [h3] at hT ⊢
      show Dn p e below _ (T10.setTop (mkF m 119 #[.val (.int p1), .val (.int p2), .val (.int p3), .val (.int p4), .val (.int p5), .val (.int p6), .val (.int (p1 &&& (1 : Int32))), .val (.int (0 : Int32)), .val (.int (3 : Int32)), .val (.ref k1), .val (.ref k2), .val (.ref k3), .val (.ref k4), .val (.ref b5), .unset, .unset] [(.int (3 : Int32)), (.ref b5)]))
      refine o_callV X10 hx hZ b5 [(.int (3 : Int32))] (rmM30 l Z a0 hw T10.heap n0 ZZ b5 _ [.int (-1 : Int32), .int (0 : Int32), .int (p1 &&& (1 : Int32)), .int (0 : Int32)] [.int p2, .int p3, .int p4, .int p5] _ hT rfl rfl p5 rfl) hown (hw _ (List.mem_of_getElem? (i := 159) rfl)) (hw _ (List.mem_of_getElem? (i := 160) rfl)) (hw _ (List.mem_of_getElem? (i := 162) rfl)) (hw _ (List.mem_of_getElem? (i := 161) rfl)) (hw _ (List.mem_of_getElem? (i := 32) rfl)) (hw _ (List.mem_of_getElem? (i := 163) rfl)) (by decide) hT.exa pd_16 rfl (by rw [hml]; rfl) rfl rfl rfl (hb hby at_119) (pc' := 122) rfl 0 (Nat.le_of_eq rfl) (by decide) (by decide) (by decide) (by decide) ?_
      intro T27 v27 L27 X27 hQ27
      obtain ⟨bl, kl, rfl, Nq, Kq, szl, vL⟩ := hQ27
      have NN := Fr.app NN Nq
      have ZZ := Nat.le_trans ZZ Kq.1
      show Dn p e below _ (T27.setTop (mkF m 122 #[.val (.int p1), .val (.int p2), .val (.int p3), .val (.int p4), .val (.int p5), .val (.int p6), .val (.int (p1 &&& (1 : Int32))), .val (.int (0 : Int32)), .val (.int (3 : Int32)), .val (.ref k1), .val (.ref k2), .val (.ref k3), .val (.ref k4), .val (.ref b5), .unset, .unset] [(.ref bl)]))
      refine o_astore X27 hx (pc' := 124) (Ls' := #[.val (.int p1), .val (.int p2), .val (.int p3), .val (.int p4), .val (.int p5), .val (.int p6), .val (.int (p1 &&& (1 : Int32))), .val (.int (0 : Int32)), .val (.int (3 : Int32)), .val (.ref k1), .val (.ref k2), .val (.ref k3), .val (.ref k4), .val (.ref b5), .val (.ref bl), .unset]) (hb hby at_122) rfl rfl rfl ?_
      refine o_iload X27 hx (pc' := 126) (hb hby at_124) rfl rfl ?_
      refine o_if_ne X27 hx (pc' := 129) (pt := 137) (hb hby at_126) rfl (by decide) (by decide) (fun _ => ?_) (fun q => absurd q (by decide))
      refine o_iload X27 hx (pc' := 139) (hb hby at_137) rfl rfl ?_
      refine o_iconst X27 hx (pc' := 140) (v := (1 : Int32)) (hb hby at_139) rfl rfl ?_
      refine o_icmp_ne X27 hx (pc' := 143) (pt := 155) (hb hby at_140) rfl (by decide) (by decide) (fun _ => ?_) (fun q => absurd q (by decide))
      refine o_iload X27 hx (pc' := 157) (hb hby at_155) rfl rfl ?_
      refine o_iconst X27 hx (pc' := 158) (v := (2 : Int32)) (hb hby at_157) rfl rfl ?_
      refine o_icmp_ne X27 hx (pc' := 161) (pt := 192) (hb hby at_158) rfl (by decide) (by decide) (fun _ => ?_) (fun q => absurd q (by decide))
      refine o_iload X27 hx (pc' := 194) (hb hby at_192) rfl rfl ?_
      refine o_if_ne X27 hx (pc' := 197) (pt := 210) (hb hby at_194) rfl (by decide) (by decide) (fun q => absurd (by decide) q) (fun _ => ?_)
      refine o_iconst X27 hx (pc' := 198) (v := (1 : Int32)) (hb hby at_197) rfl rfl ?_
      refine o_newarray X27 hx hZ rfl (hw _ (List.mem_of_getElem? (i := 78) rfl)) (hb hby at_198) (pc' := 200) rfl (by decide) 1 (by decide) (by decide) (by decide) (by decide) ?_
      intro T28 h28 b28 k28 g28 X28 e28 E28 V28
      have lt_bl_b28 : bl < b28 := Nat.lt_of_lt_of_le vL.lt (Nat.le_of_eq g28.symm)
      have ne_bl_b28 : bl ≠ b28 := Nat.ne_of_lt lt_bl_b28
      have g_b28 : n0 ≤ b28 := Nat.le_trans ZZ (Nat.le_of_eq g28.symm)
      have ZZ := Nat.le_trans ZZ E28.1
      have vL := vL.ext E28
      have vX : Arv Z h28 b28 k28 .int (1 : Int32) [.int 0] (.int 0) := V28.pad (pad_rep [] _ 1)
      refine o_dup X28 hx (pc' := 201) (hb hby at_200) rfl rfl ?_
      refine o_iconst X28 hx (pc' := 202) (v := (0 : Int32)) (hb hby at_201) rfl rfl ?_
      refine o_iload X28 hx (pc' := 204) (hb hby at_202) rfl rfl ?_
      refine o_iastore X28 hx hZ e28 vX (by decide) 0 rfl (Nat.le_of_ble_eq_true rfl) (hb hby at_204) (pc' := 205) rfl ?_
      intro T29 h29 X29 e29 W29 V29
      have NN := Fr.snoc X29 NN g_b28
      have ZZ := Nat.le_trans ZZ (Keep.of_wr W29).1
      have vL := vL.other W29 ne_bl_b28
      have vX : Arv Z h29 b28 k28 .int 1 [.int p5] (.int 0) := V29
      refine o_astore X29 hx (pc' := 207) (Ls' := #[.val (.int p1), .val (.int p2), .val (.int p3), .val (.int p4), .val (.int p5), .val (.int p6), .val (.int (p1 &&& (1 : Int32))), .val (.int (0 : Int32)), .val (.int (3 : Int32)), .val (.ref k1), .val (.ref k2), .val (.ref k3), .val (.ref k4), .val (.ref b5), .val (.ref bl), .val (.ref b28)]) (hb hby at_205) rfl rfl rfl ?_
      refine o_goto X29 hx (pc' := 271) (hb hby at_207) (by decide) (by decide) ?_
      refine o_aload X29 hx (pc' := 273) (hb hby at_271) rfl rfl rfl ?_
      refine o_aload X29 hx (pc' := 275) (hb hby at_273) rfl rfl rfl ?_
      refine o_callSP X29 hx hZ [(.ref bl), (.ref b28)] (rmS1 l Z a0 hw h29 n0 ZZ bl b28 kl k28 p5 vL vX) hown (hw _ (List.mem_of_getElem? (i := 164) rfl)) (hw _ (List.mem_of_getElem? (i := 165) rfl)) (hw _ (List.mem_of_getElem? (i := 2) rfl)) (hw _ (List.mem_of_getElem? (i := 166) rfl)) (by decide) pd_17 e29 (by rw [hml]; rfl) rfl rfl rfl (hb hby at_275) (pc' := 278) rfl 0 (Nat.le_of_eq rfl) (by decide) (by decide) rfl rfl (by decide) (by decide) ?_
      intro T30 X30 e30
      show Dn p e below _ (T30.setTop (mkF m 278 #[.val (.int p1), .val (.int p2), .val (.int p3), .val (.int p4), .val (.int p5), .val (.int p6), .val (.int (p1 &&& (1 : Int32))), .val (.int (0 : Int32)), .val (.int (3 : Int32)), .val (.ref k1), .val (.ref k2), .val (.ref k3), .val (.ref k4), .val (.ref b5), .val (.ref bl), .val (.ref b28)] [(.int (1 : Int32))]))
      exact finN X30 hx hlk (t := .boolean) hret (by simp) (hb hby at_278) (by decide) (by decide) ⟨rfl, NN⟩
    · rw [h3] at hT ⊢
      show Dn p e below _ (T10.setTop (mkF m 119 #[.val (.int p1), .val (.int p2), .val (.int p3), .val (.int p4), .val (.int p5), .val (.int p6), .val (.int (p1 &&& (1 : Int32))), .val (.int (1 : Int32)), .val (.int (3 : Int32)), .val (.ref k1), .val (.ref k2), .val (.ref k3), .val (.ref k4), .val (.ref b5), .unset, .unset] [(.int (3 : Int32)), (.ref b5)]))
      refine o_callV X10 hx hZ b5 [(.int (3 : Int32))] (rmM310 l Z a0 hw T10.heap n0 ZZ b5 _ [.int (-1 : Int32), .int (0 : Int32), .int (p1 &&& (1 : Int32)), .int (1 : Int32)] [.int p2, .int p3, .int p4, .int p5] _ hT rfl rfl rfl p5 rfl p3 rfl) hown (hw _ (List.mem_of_getElem? (i := 159) rfl)) (hw _ (List.mem_of_getElem? (i := 160) rfl)) (hw _ (List.mem_of_getElem? (i := 162) rfl)) (hw _ (List.mem_of_getElem? (i := 161) rfl)) (hw _ (List.mem_of_getElem? (i := 32) rfl)) (hw _ (List.mem_of_getElem? (i := 163) rfl)) (by decide) hT.exa pd_16 rfl (by rw [hml]; rfl) rfl rfl rfl (hb hby at_119) (pc' := 122) rfl 0 (Nat.le_of_eq rfl) (by decide) (by decide) (by decide) (by decide) ?_
      intro T31 v31 L31 X31 hQ31
      obtain ⟨bl, kl, rfl, Nq, Kq, szl, vL⟩ := hQ31
      have NN := Fr.app NN Nq
      have ZZ := Nat.le_trans ZZ Kq.1
      show Dn p e below _ (T31.setTop (mkF m 122 #[.val (.int p1), .val (.int p2), .val (.int p3), .val (.int p4), .val (.int p5), .val (.int p6), .val (.int (p1 &&& (1 : Int32))), .val (.int (1 : Int32)), .val (.int (3 : Int32)), .val (.ref k1), .val (.ref k2), .val (.ref k3), .val (.ref k4), .val (.ref b5), .unset, .unset] [(.ref bl)]))
      refine o_astore X31 hx (pc' := 124) (Ls' := #[.val (.int p1), .val (.int p2), .val (.int p3), .val (.int p4), .val (.int p5), .val (.int p6), .val (.int (p1 &&& (1 : Int32))), .val (.int (1 : Int32)), .val (.int (3 : Int32)), .val (.ref k1), .val (.ref k2), .val (.ref k3), .val (.ref k4), .val (.ref b5), .val (.ref bl), .unset]) (hb hby at_122) rfl rfl rfl ?_
      refine o_iload X31 hx (pc' := 126) (hb hby at_124) rfl rfl ?_
      refine o_if_ne X31 hx (pc' := 129) (pt := 137) (hb hby at_126) rfl (by decide) (by decide) (fun _ => ?_) (fun q => absurd q (by decide))
      refine o_iload X31 hx (pc' := 139) (hb hby at_137) rfl rfl ?_
      refine o_iconst X31 hx (pc' := 140) (v := (1 : Int32)) (hb hby at_139) rfl rfl ?_
      refine o_icmp_ne X31 hx (pc' := 143) (pt := 155) (hb hby at_140) rfl (by decide) (by decide) (fun _ => ?_) (fun q => absurd q (by decide))
      refine o_iload X31 hx (pc' := 157) (hb hby at_155) rfl rfl ?_
      refine o_iconst X31 hx (pc' := 158) (v := (2 : Int32)) (hb hby at_157) rfl rfl ?_
      refine o_icmp_ne X31 hx (pc' := 161) (pt := 192) (hb hby at_158) rfl (by decide) (by decide) (fun _ => ?_) (fun q => absurd q (by decide))
      refine o_iload X31 hx (pc' := 194) (hb hby at_192) rfl rfl ?_
      refine o_if_ne X31 hx (pc' := 197) (pt := 210) (hb hby at_194) rfl (by decide) (by decide) (fun _ => ?_) (fun q => absurd q (by decide))
      refine o_iload X31 hx (pc' := 212) (hb hby at_210) rfl rfl ?_
      refine o_iconst X31 hx (pc' := 213) (v := (1 : Int32)) (hb hby at_212) rfl rfl ?_
      refine o_icmp_ne X31 hx (pc' := 216) (pt := 233) (hb hby at_213) rfl (by decide) (by decide) (fun q => absurd (by decide) q) (fun _ => ?_)
      refine o_iconst X31 hx (pc' := 217) (v := (2 : Int32)) (hb hby at_216) rfl rfl ?_
      refine o_newarray X31 hx hZ rfl (hw _ (List.mem_of_getElem? (i := 78) rfl)) (hb hby at_217) (pc' := 219) rfl (by decide) 2 (by decide) (by decide) (by decide) (by decide) ?_
      intro T32 h32 b32 k32 g32 X32 e32 E32 V32
      have lt_bl_b32 : bl < b32 := Nat.lt_of_lt_of_le vL.lt (Nat.le_of_eq g32.symm)
      have ne_bl_b32 : bl ≠ b32 := Nat.ne_of_lt lt_bl_b32
      have g_b32 : n0 ≤ b32 := Nat.le_trans ZZ (Nat.le_of_eq g32.symm)
      have ZZ := Nat.le_trans ZZ E32.1
      have vL := vL.ext E32
      have vX : Arv Z h32 b32 k32 .int (2 : Int32) [.int 0, .int 0] (.int 0) := V32.pad (pad_rep [] _ 2)
      refine o_dup X32 hx (pc' := 220) (hb hby at_219) rfl rfl ?_
      refine o_iconst X32 hx (pc' := 221) (v := (0 : Int32)) (hb hby at_220) rfl rfl ?_
      refine o_iloadN X32 hx (pc' := 222) (hb hby at_221) rfl rfl ?_
      refine o_iastore X32 hx hZ e32 vX (by decide) 0 rfl (Nat.le_of_ble_eq_true rfl) (hb hby at_222) (pc' := 223) rfl ?_
      intro T33 h33 X33 e33 W33 V33
      have NN := Fr.snoc X33 NN g_b32
      have ZZ := Nat.le_trans ZZ (Keep.of_wr W33).1
      have vL := vL.other W33 ne_bl_b32
      have vX : Arv Z h33 b32 k32 .int 2 [.int p3, .int 0] (.int 0) := V33
      refine o_dup X33 hx (pc' := 224) (hb hby at_223) rfl rfl ?_
      refine o_iconst X33 hx (pc' := 225) (v := (1 : Int32)) (hb hby at_224) rfl rfl ?_
      refine o_iload X33 hx (pc' := 227) (hb hby at_225) rfl rfl ?_
      refine o_iastore X33 hx hZ e33 vX (by decide) 1 rfl (Nat.le_of_ble_eq_true rfl) (hb hby at_227) (pc' := 228) rfl ?_
      intro T34 h34 X34 e34 W34 V34
      have NN := Fr.snoc X34 NN g_b32
      have ZZ := Nat.le_trans ZZ (Keep.of_wr W34).1
      have vL := vL.other W34 ne_bl_b32
      have vX : Arv Z h34 b32 k32 .int 2 [.int p3, .int p5] (.int 0) := V34
      refine o_astore X34 hx (pc' := 230) (Ls' := #[.val (.int p1), .val (.int p2), .val (.int p3), .val (.int p4), .val (.int p5), .val (.int p6), .val (.int (p1 &&& (1 : Int32))), .val (.int (1 : Int32)), .val (.int (3 : Int32)), .val (.ref k1), .val (.ref k2), .val (.ref k3), .val (.ref k4), .val (.ref b5), .val (.ref bl), .val (.ref b32)]) (hb hby at_228) rfl rfl rfl ?_
      refine o_goto X34 hx (pc' := 271) (hb hby at_230) (by decide) (by decide) ?_
      refine o_aload X34 hx (pc' := 273) (hb hby at_271) rfl rfl rfl ?_
      refine o_aload X34 hx (pc' := 275) (hb hby at_273) rfl rfl rfl ?_
      refine o_callSP X34 hx hZ [(.ref bl), (.ref b32)] (rmS2 l Z a0 hw h34 n0 ZZ bl b32 kl k32 p3 p5 vL vX) hown (hw _ (List.mem_of_getElem? (i := 164) rfl)) (hw _ (List.mem_of_getElem? (i := 165) rfl)) (hw _ (List.mem_of_getElem? (i := 2) rfl)) (hw _ (List.mem_of_getElem? (i := 166) rfl)) (by decide) pd_17 e34 (by rw [hml]; rfl) rfl rfl rfl (hb hby at_275) (pc' := 278) rfl 0 (Nat.le_of_eq rfl) (by decide) (by decide) rfl rfl (by decide) (by decide) ?_
      intro T35 X35 e35
      show Dn p e below _ (T35.setTop (mkF m 278 #[.val (.int p1), .val (.int p2), .val (.int p3), .val (.int p4), .val (.int p5), .val (.int p6), .val (.int (p1 &&& (1 : Int32))), .val (.int (1 : Int32)), .val (.int (3 : Int32)), .val (.ref k1), .val (.ref k2), .val (.ref k3), .val (.ref k4), .val (.ref b5), .val (.ref bl), .val (.ref b32)] [(.int (1 : Int32))]))
      exact finN X35 hx hlk (t := .boolean) hret (by simp) (hb hby at_278) (by decide) (by decide) ⟨rfl, NN⟩
    · rw [h3] at hT ⊢
      rcases own_m1 p1 with h2 | h2
      · rw [h2] at hT ⊢
        show Dn p e below _ (T10.setTop (mkF m 119 #[.val (.int p1), .val (.int p2), .val (.int p3), .val (.int p4), .val (.int p5), .val (.int p6), .val (.int (0 : Int32)), .val (.int (2 : Int32)), .val (.int (3 : Int32)), .val (.ref k1), .val (.ref k2), .val (.ref k3), .val (.ref k4), .val (.ref b5), .unset, .unset] [(.int (3 : Int32)), (.ref b5)]))
        refine o_callV X10 hx hZ b5 [(.int (3 : Int32))] (rmM320 l Z a0 hw T10.heap n0 ZZ b5 _ [.int (-1 : Int32), .int (0 : Int32), .int (0 : Int32), .int (2 : Int32)] [.int p2, .int p3, .int p4, .int p5] _ hT rfl rfl rfl p5 rfl p4 rfl) hown (hw _ (List.mem_of_getElem? (i := 159) rfl)) (hw _ (List.mem_of_getElem? (i := 160) rfl)) (hw _ (List.mem_of_getElem? (i := 162) rfl)) (hw _ (List.mem_of_getElem? (i := 161) rfl)) (hw _ (List.mem_of_getElem? (i := 32) rfl)) (hw _ (List.mem_of_getElem? (i := 163) rfl)) (by decide) hT.exa pd_16 rfl (by rw [hml]; rfl) rfl rfl rfl (hb hby at_119) (pc' := 122) rfl 0 (Nat.le_of_eq rfl) (by decide) (by decide) (by decide) (by decide) ?_
        intro T36 v36 L36 X36 hQ36
        obtain ⟨bl, kl, rfl, Nq, Kq, szl, vL⟩ := hQ36
        have NN := Fr.app NN Nq
        have ZZ := Nat.le_trans ZZ Kq.1
        show Dn p e below _ (T36.setTop (mkF m 122 #[.val (.int p1), .val (.int p2), .val (.int p3), .val (.int p4), .val (.int p5), .val (.int p6), .val (.int (0 : Int32)), .val (.int (2 : Int32)), .val (.int (3 : Int32)), .val (.ref k1), .val (.ref k2), .val (.ref k3), .val (.ref k4), .val (.ref b5), .unset, .unset] [(.ref bl)]))
        refine o_astore X36 hx (pc' := 124) (Ls' := #[.val (.int p1), .val (.int p2), .val (.int p3), .val (.int p4), .val (.int p5), .val (.int p6), .val (.int (0 : Int32)), .val (.int (2 : Int32)), .val (.int (3 : Int32)), .val (.ref k1), .val (.ref k2), .val (.ref k3), .val (.ref k4), .val (.ref b5), .val (.ref bl), .unset]) (hb hby at_122) rfl rfl rfl ?_
        refine o_iload X36 hx (pc' := 126) (hb hby at_124) rfl rfl ?_
        refine o_if_ne X36 hx (pc' := 129) (pt := 137) (hb hby at_126) rfl (by decide) (by decide) (fun _ => ?_) (fun q => absurd q (by decide))
        refine o_iload X36 hx (pc' := 139) (hb hby at_137) rfl rfl ?_
        refine o_iconst X36 hx (pc' := 140) (v := (1 : Int32)) (hb hby at_139) rfl rfl ?_
        refine o_icmp_ne X36 hx (pc' := 143) (pt := 155) (hb hby at_140) rfl (by decide) (by decide) (fun _ => ?_) (fun q => absurd q (by decide))
        refine o_iload X36 hx (pc' := 157) (hb hby at_155) rfl rfl ?_
        refine o_iconst X36 hx (pc' := 158) (v := (2 : Int32)) (hb hby at_157) rfl rfl ?_
        refine o_icmp_ne X36 hx (pc' := 161) (pt := 192) (hb hby at_158) rfl (by decide) (by decide) (fun _ => ?_) (fun q => absurd q (by decide))
        refine o_iload X36 hx (pc' := 194) (hb hby at_192) rfl rfl ?_
        refine o_if_ne X36 hx (pc' := 197) (pt := 210) (hb hby at_194) rfl (by decide) (by decide) (fun _ => ?_) (fun q => absurd q (by decide))
        refine o_iload X36 hx (pc' := 212) (hb hby at_210) rfl rfl ?_
        refine o_iconst X36 hx (pc' := 213) (v := (1 : Int32)) (hb hby at_212) rfl rfl ?_
        refine o_icmp_ne X36 hx (pc' := 216) (pt := 233) (hb hby at_213) rfl (by decide) (by decide) (fun _ => ?_) (fun q => absurd q (by decide))
        refine o_iload X36 hx (pc' := 235) (hb hby at_233) rfl rfl ?_
        refine o_if_ne X36 hx (pc' := 238) (pt := 253) (hb hby at_235) rfl (by decide) (by decide) (fun q => absurd (by decide) q) (fun _ => ?_)
        refine o_iconst X36 hx (pc' := 239) (v := (2 : Int32)) (hb hby at_238) rfl rfl ?_
        refine o_newarray X36 hx hZ rfl (hw _ (List.mem_of_getElem? (i := 78) rfl)) (hb hby at_239) (pc' := 241) rfl (by decide) 2 (by decide) (by decide) (by decide) (by decide) ?_
        intro T37 h37 b37 k37 g37 X37 e37 E37 V37
        have lt_bl_b37 : bl < b37 := Nat.lt_of_lt_of_le vL.lt (Nat.le_of_eq g37.symm)
        have ne_bl_b37 : bl ≠ b37 := Nat.ne_of_lt lt_bl_b37
        have g_b37 : n0 ≤ b37 := Nat.le_trans ZZ (Nat.le_of_eq g37.symm)
        have ZZ := Nat.le_trans ZZ E37.1
        have vL := vL.ext E37
        have vX : Arv Z h37 b37 k37 .int (2 : Int32) [.int 0, .int 0] (.int 0) := V37.pad (pad_rep [] _ 2)
        refine o_dup X37 hx (pc' := 242) (hb hby at_241) rfl rfl ?_
        refine o_iconst X37 hx (pc' := 243) (v := (0 : Int32)) (hb hby at_242) rfl rfl ?_
        refine o_iloadN X37 hx (pc' := 244) (hb hby at_243) rfl rfl ?_
        refine o_iastore X37 hx hZ e37 vX (by decide) 0 rfl (Nat.le_of_ble_eq_true rfl) (hb hby at_244) (pc' := 245) rfl ?_
        intro T38 h38 X38 e38 W38 V38
        have NN := Fr.snoc X38 NN g_b37
        have ZZ := Nat.le_trans ZZ (Keep.of_wr W38).1
        have vL := vL.other W38 ne_bl_b37
        have vX : Arv Z h38 b37 k37 .int 2 [.int p4, .int 0] (.int 0) := V38
        refine o_dup X38 hx (pc' := 246) (hb hby at_245) rfl rfl ?_
        refine o_iconst X38 hx (pc' := 247) (v := (1 : Int32)) (hb hby at_246) rfl rfl ?_
        refine o_iload X38 hx (pc' := 249) (hb hby at_247) rfl rfl ?_
        refine o_iastore X38 hx hZ e38 vX (by decide) 1 rfl (Nat.le_of_ble_eq_true rfl) (hb hby at_249) (pc' := 250) rfl ?_
        intro T39 h39 X39 e39 W39 V39
        have NN := Fr.snoc X39 NN g_b37
        have ZZ := Nat.le_trans ZZ (Keep.of_wr W39).1
        have vL := vL.other W39 ne_bl_b37
        have vX : Arv Z h39 b37 k37 .int 2 [.int p4, .int p5] (.int 0) := V39
        refine o_goto X39 hx (pc' := 269) (hb hby at_250) (by decide) (by decide) ?_
        refine o_astore X39 hx (pc' := 271) (Ls' := #[.val (.int p1), .val (.int p2), .val (.int p3), .val (.int p4), .val (.int p5), .val (.int p6), .val (.int (0 : Int32)), .val (.int (2 : Int32)), .val (.int (3 : Int32)), .val (.ref k1), .val (.ref k2), .val (.ref k3), .val (.ref k4), .val (.ref b5), .val (.ref bl), .val (.ref b37)]) (hb hby at_269) rfl rfl rfl ?_
        refine o_aload X39 hx (pc' := 273) (hb hby at_271) rfl rfl rfl ?_
        refine o_aload X39 hx (pc' := 275) (hb hby at_273) rfl rfl rfl ?_
        refine o_callSP X39 hx hZ [(.ref bl), (.ref b37)] (rmS2 l Z a0 hw h39 n0 ZZ bl b37 kl k37 p4 p5 vL vX) hown (hw _ (List.mem_of_getElem? (i := 164) rfl)) (hw _ (List.mem_of_getElem? (i := 165) rfl)) (hw _ (List.mem_of_getElem? (i := 2) rfl)) (hw _ (List.mem_of_getElem? (i := 166) rfl)) (by decide) pd_17 e39 (by rw [hml]; rfl) rfl rfl rfl (hb hby at_275) (pc' := 278) rfl 0 (Nat.le_of_eq rfl) (by decide) (by decide) rfl rfl (by decide) (by decide) ?_
        intro T40 X40 e40
        show Dn p e below _ (T40.setTop (mkF m 278 #[.val (.int p1), .val (.int p2), .val (.int p3), .val (.int p4), .val (.int p5), .val (.int p6), .val (.int (0 : Int32)), .val (.int (2 : Int32)), .val (.int (3 : Int32)), .val (.ref k1), .val (.ref k2), .val (.ref k3), .val (.ref k4), .val (.ref b5), .val (.ref bl), .val (.ref b37)] [(.int (1 : Int32))]))
        exact finN X40 hx hlk (t := .boolean) hret (by simp) (hb hby at_278) (by decide) (by decide) ⟨rfl, NN⟩
      · rw [h2] at hT ⊢
        show Dn p e below _ (T10.setTop (mkF m 119 #[.val (.int p1), .val (.int p2), .val (.int p3), .val (.int p4), .val (.int p5), .val (.int p6), .val (.int (1 : Int32)), .val (.int (2 : Int32)), .val (.int (3 : Int32)), .val (.ref k1), .val (.ref k2), .val (.ref k3), .val (.ref k4), .val (.ref b5), .unset, .unset] [(.int (3 : Int32)), (.ref b5)]))
        refine o_callV X10 hx hZ b5 [(.int (3 : Int32))] (rmM3210 l Z a0 hw T10.heap n0 ZZ b5 _ [.int (-1 : Int32), .int (0 : Int32), .int (1 : Int32), .int (2 : Int32)] [.int p2, .int p3, .int p4, .int p5] _ hT rfl rfl rfl rfl p5 rfl p4 rfl p3 rfl) hown (hw _ (List.mem_of_getElem? (i := 159) rfl)) (hw _ (List.mem_of_getElem? (i := 160) rfl)) (hw _ (List.mem_of_getElem? (i := 162) rfl)) (hw _ (List.mem_of_getElem? (i := 161) rfl)) (hw _ (List.mem_of_getElem? (i := 32) rfl)) (hw _ (List.mem_of_getElem? (i := 163) rfl)) (by decide) hT.exa pd_16 rfl (by rw [hml]; rfl) rfl rfl rfl (hb hby at_119) (pc' := 122) rfl 0 (Nat.le_of_eq rfl) (by decide) (by decide) (by decide) (by decide) ?_
        intro T41 v41 L41 X41 hQ41
        obtain ⟨bl, kl, rfl, Nq, Kq, szl, vL⟩ := hQ41
        have NN := Fr.app NN Nq
        have ZZ := Nat.le_trans ZZ Kq.1
        show Dn p e below _ (T41.setTop (mkF m 122 #[.val (.int p1), .val (.int p2), .val (.int p3), .val (.int p4), .val (.int p5), .val (.int p6), .val (.int (1 : Int32)), .val (.int (2 : Int32)), .val (.int (3 : Int32)), .val (.ref k1), .val (.ref k2), .val (.ref k3), .val (.ref k4), .val (.ref b5), .unset, .unset] [(.ref bl)]))
        refine o_astore X41 hx (pc' := 124) (Ls' := #[.val (.int p1), .val (.int p2), .val (.int p3), .val (.int p4), .val (.int p5), .val (.int p6), .val (.int (1 : Int32)), .val (.int (2 : Int32)), .val (.int (3 : Int32)), .val (.ref k1), .val (.ref k2), .val (.ref k3), .val (.ref k4), .val (.ref b5), .val (.ref bl), .unset]) (hb hby at_122) rfl rfl rfl ?_
        refine o_iload X41 hx (pc' := 126) (hb hby at_124) rfl rfl ?_
        refine o_if_ne X41 hx (pc' := 129) (pt := 137) (hb hby at_126) rfl (by decide) (by decide) (fun _ => ?_) (fun q => absurd q (by decide))
        refine o_iload X41 hx (pc' := 139) (hb hby at_137) rfl rfl ?_
        refine o_iconst X41 hx (pc' := 140) (v := (1 : Int32)) (hb hby at_139) rfl rfl ?_
        refine o_icmp_ne X41 hx (pc' := 143) (pt := 155) (hb hby at_140) rfl (by decide) (by decide) (fun _ => ?_) (fun q => absurd q (by decide))
        refine o_iload X41 hx (pc' := 157) (hb hby at_155) rfl rfl ?_
        refine o_iconst X41 hx (pc' := 158) (v := (2 : Int32)) (hb hby at_157) rfl rfl ?_
        refine o_icmp_ne X41 hx (pc' := 161) (pt := 192) (hb hby at_158) rfl (by decide) (by decide) (fun _ => ?_) (fun q => absurd q (by decide))
        refine o_iload X41 hx (pc' := 194) (hb hby at_192) rfl rfl ?_
        refine o_if_ne X41 hx (pc' := 197) (pt := 210) (hb hby at_194) rfl (by decide) (by decide) (fun _ => ?_) (fun q => absurd q (by decide))
        refine o_iload X41 hx (pc' := 212) (hb hby at_210) rfl rfl ?_
        refine o_iconst X41 hx (pc' := 213) (v := (1 : Int32)) (hb hby at_212) rfl rfl ?_
        refine o_icmp_ne X41 hx (pc' := 216) (pt := 233) (hb hby at_213) rfl (by decide) (by decide) (fun _ => ?_) (fun q => absurd q (by decide))
        refine o_iload X41 hx (pc' := 235) (hb hby at_233) rfl rfl ?_
        refine o_if_ne X41 hx (pc' := 238) (pt := 253) (hb hby at_235) rfl (by decide) (by decide) (fun _ => ?_) (fun q => absurd q (by decide))
        refine o_iconst X41 hx (pc' := 254) (v := (3 : Int32)) (hb hby at_253) rfl rfl ?_
        refine o_newarray X41 hx hZ rfl (hw _ (List.mem_of_getElem? (i := 78) rfl)) (hb hby at_254) (pc' := 256) rfl (by decide) 3 (by decide) (by decide) (by decide) (by decide) ?_
        intro T42 h42 b42 k42 g42 X42 e42 E42 V42
        have lt_bl_b42 : bl < b42 := Nat.lt_of_lt_of_le vL.lt (Nat.le_of_eq g42.symm)
        have ne_bl_b42 : bl ≠ b42 := Nat.ne_of_lt lt_bl_b42
        have g_b42 : n0 ≤ b42 := Nat.le_trans ZZ (Nat.le_of_eq g42.symm)
        have ZZ := Nat.le_trans ZZ E42.1
        have vL := vL.ext E42
        have vX : Arv Z h42 b42 k42 .int (3 : Int32) [.int 0, .int 0, .int 0] (.int 0) := V42.pad (pad_rep [] _ 3)
        refine o_dup X42 hx (pc' := 257) (hb hby at_256) rfl rfl ?_
        refine o_iconst X42 hx (pc' := 258) (v := (0 : Int32)) (hb hby at_257) rfl rfl ?_
        refine o_iloadN X42 hx (pc' := 259) (hb hby at_258) rfl rfl ?_
        refine o_iastore X42 hx hZ e42 vX (by decide) 0 rfl (Nat.le_of_ble_eq_true rfl) (hb hby at_259) (pc' := 260) rfl ?_
        intro T43 h43 X43 e43 W43 V43
        have NN := Fr.snoc X43 NN g_b42
        have ZZ := Nat.le_trans ZZ (Keep.of_wr W43).1
        have vL := vL.other W43 ne_bl_b42
        have vX : Arv Z h43 b42 k42 .int 3 [.int p3, .int 0, .int 0] (.int 0) := V43
        refine o_dup X43 hx (pc' := 261) (hb hby at_260) rfl rfl ?_
        refine o_iconst X43 hx (pc' := 262) (v := (1 : Int32)) (hb hby at_261) rfl rfl ?_
        refine o_iloadN X43 hx (pc' := 263) (hb hby at_262) rfl rfl ?_
        refine o_iastore X43 hx hZ e43 vX (by decide) 1 rfl (Nat.le_of_ble_eq_true rfl) (hb hby at_263) (pc' := 264) rfl ?_
        intro T44 h44 X44 e44 W44 V44
        have NN := Fr.snoc X44 NN g_b42
        have ZZ := Nat.le_trans ZZ (Keep.of_wr W44).1
        have vL := vL.other W44 ne_bl_b42
        have vX : Arv Z h44 b42 k42 .int 3 [.int p3, .int p4, .int 0] (.int 0) := V44
        refine o_dup X44 hx (pc' := 265) (hb hby at_264) rfl rfl ?_
        refine o_iconst X44 hx (pc' := 266) (v := (2 : Int32)) (hb hby at_265) rfl rfl ?_
        refine o_iload X44 hx (pc' := 268) (hb hby at_266) rfl rfl ?_
        refine o_iastore X44 hx hZ e44 vX (by decide) 2 rfl (Nat.le_of_ble_eq_true rfl) (hb hby at_268) (pc' := 269) rfl ?_
        intro T45 h45 X45 e45 W45 V45
        have NN := Fr.snoc X45 NN g_b42
        have ZZ := Nat.le_trans ZZ (Keep.of_wr W45).1
        have vL := vL.other W45 ne_bl_b42
        have vX : Arv Z h45 b42 k42 .int 3 [.int p3, .int p4, .int p5] (.int 0) := V45
        refine o_astore X45 hx (pc' := 271) (Ls' := #[.val (.int p1), .val (.int p2), .val (.int p3), .val (.int p4), .val (.int p5), .val (.int p6), .val (.int (1 : Int32)), .val (.int (2 : Int32)), .val (.int (3 : Int32)), .val (.ref k1), .val (.ref k2), .val (.ref k3), .val (.ref k4), .val (.ref b5), .val (.ref bl), .val (.ref b42)]) (hb hby at_269) rfl rfl rfl ?_
        refine o_aload X45 hx (pc' := 273) (hb hby at_271) rfl rfl rfl ?_
        refine o_aload X45 hx (pc' := 275) (hb hby at_273) rfl rfl rfl ?_
        refine o_callSP X45 hx hZ [(.ref bl), (.ref b42)] (rmS3 l Z a0 hw h45 n0 ZZ bl b42 kl k42 p3 p4 p5 vL vX) hown (hw _ (List.mem_of_getElem? (i := 164) rfl)) (hw _ (List.mem_of_getElem? (i := 165) rfl)) (hw _ (List.mem_of_getElem? (i := 2) rfl)) (hw _ (List.mem_of_getElem? (i := 166) rfl)) (by decide) pd_17 e45 (by rw [hml]; rfl) rfl rfl rfl (hb hby at_275) (pc' := 278) rfl 0 (Nat.le_of_eq rfl) (by decide) (by decide) rfl rfl (by decide) (by decide) ?_
        intro T46 X46 e46
        show Dn p e below _ (T46.setTop (mkF m 278 #[.val (.int p1), .val (.int p2), .val (.int p3), .val (.int p4), .val (.int p5), .val (.int p6), .val (.int (1 : Int32)), .val (.int (2 : Int32)), .val (.int (3 : Int32)), .val (.ref k1), .val (.ref k2), .val (.ref k3), .val (.ref k4), .val (.ref b5), .val (.ref bl), .val (.ref b42)] [(.int (1 : Int32))]))
        exact finN X46 hx hlk (t := .boolean) hret (by simp) (hb hby at_278) (by decide) (by decide) ⟨rfl, NN⟩
set_option maxRecDepth 65536 in
set_option maxHeartbeats 40000000 in
theorem comes_1 {Post : Tables → Env → Array Value → State → Outcome → State → Prop} (hpost : ∀ tb e args s v u, (limb_1_1.after args s (.returned v) u = true ∧ limb_1_2.after args s (.returned v) u = true ∧ True) → FrameEnd s (.returned v) u (Jvm.fieldLocs frame_1_writes args s ++ Jvm.arrayLocs frame_1_arrays args s ++ Jvm.staticLocs frame_1_statics s) 56 12544 → Post tb e args s (.returned v) u) :
    ArmFor flags0 classFile x code maxLocals ret World_1 tables_1 room_1 Calls_1 rest_1 Pre_1 Post := by
  intro l hfl _ _ p e ha hc hk s m args below hf hA hF happ hP
  obtain ⟨hcalls, hrest, hpre⟩ := hP
  obtain ⟨-, -, -, hnamed, -, -, -, hat⟩ := (Spec.applies_iff hf).mp happ
  obtain ⟨hg, hn⟩ := and_e (Cond.before_iff.mp (show (Jvm.Cond.and given_1 narrow_1).before args s = true from hpre))
  obtain ⟨g0, r0⟩ := and_e hg
  obtain ⟨g1, r1⟩ := and_e r0
  obtain ⟨g2, r2⟩ := and_e r1
  obtain ⟨g3, r3⟩ := and_e r2
  obtain ⟨g4, r4⟩ := and_e r3
  obtain ⟨g5, r5⟩ := and_e r4
  have g6 := r5
  obtain ⟨w0, w1, w2, w3, w4, w5, rfl⟩ : ∃ w0 w1 w2 w3 w4 w5 : Value, args = #[w0, w1, w2, w3, w4, w5] := by
    have hs : args.size = 6 := by simpa [Cond.value, given_1] using g0
    obtain ⟨L⟩ := args
    match L, hs with
    | [w0, w1, w2, w3, w4, w5], _ => exact ⟨w0, w1, w2, w3, w4, w5, rfl⟩
  have hw := fun d (hd : d ∈ tables_1) => atoms_spec (ws := Jvm.Cond.code x code maxLocals ret :: tables_1) hat d (List.mem_cons_of_mem _ hd)
  have hfit : Fit s := fun {y c} hc i hi => by
    obtain ⟨ha, rfl⟩ := Array.getElem?_eq_some_iff.mp hc
    have q := List.all_eq_true.mp ((Array.all_eq_true_iff_forall_mem.mp hF) _ (Array.getElem_mem ha)) i (List.mem_range.mpr hi)
    simpa [Array.getElem?_eq_getElem hi] using q
  obtain ⟨i0, ei0⟩ := is_v g1
  obtain rfl : w0 = (.int i0) := Option.some.inj ei0
  obtain ⟨i1, ei1⟩ := is_v g2
  obtain rfl : w1 = (.int i1) := Option.some.inj ei1
  obtain ⟨i2, ei2⟩ := is_v g3
  obtain rfl : w2 = (.int i2) := Option.some.inj ei2
  obtain ⟨i3, ei3⟩ := is_v g4
  obtain rfl : w3 = (.int i3) := Option.some.inj ei3
  obtain ⟨i4, ei4⟩ := is_v g5
  obtain rfl : w4 = (.int i4) := Option.some.inj ei4
  obtain ⟨i5, ei5⟩ := is_v g6
  obtain rfl : w5 = (.int i5) := Option.some.inj ei5
  obtain ⟨n, o, h1, h2, h3, v, L, rfl, hQ, hq⟩ := rm0 l s _ hw tables_1 s.heap s.heap.size (Nat.le_refl _) i0 i1 i2 i3 i4 i5 p e ha hc hk s m _ below hf ((Spec.applies_iff_loose hf).mp happ).1 ⟨rfl, State.Warmed39.refl s, rfl⟩ trivial
  obtain ⟨rfl, N⟩ := hQ
  refine ⟨n, _, h1, h2, h3, hpost _ _ _ _ _ _ ⟨Cond.after_iff.mpr rfl, Cond.after_iff.mpr (eq_i res_at (Term.int_eval (1)) rfl), trivial⟩ ⟨hq.1, hq.2.1, (hq.2.2.sift fun y hy => Or.inr (N y hy)).mono (by decide) (by decide)⟩⟩
theorem main_1_1 : Claimed_1_1 := comes_1 fun _ _ _ _ _ _ h hF => ⟨h.1, hF⟩
theorem main_1_2 : Claimed_1_2 := comes_1 fun _ _ _ _ _ _ h hF => ⟨h.2.1, hF⟩
end Jvm.Pilot.@@N@@
namespace Jvm.Pilot.@@N@@
open Jvm Jvm.ClassFile Sem Op Lib Jvm.Free Jvm.Stand Jvm.Pilot.@@N@@.Jvm.D
/-! MADE BY PROGRAM (witnessworld.py) out of the Statement's table words and the real class files: 21 classes; the members and pool entries that the words name. The judged class is class 1, her method 1. -/
namespace start1
open Jvm.ClassFile
def u (s : String) : CpInfo := .utf8 (stringToUtf16 s)
/-- a pool by its gaps: so many unusable entries, then the entry; so many at the end -/
def gap : Nat → List CpInfo → List CpInfo
  | 0, r => r
  | n + 1, r => .unusable :: gap n r
def poolList (es : List (Nat × CpInfo)) (last : Nat) : List CpInfo := es.foldr (fun e r => gap e.1 (e.2 :: r)) (gap last [])
def pool (es : List (Nat × CpInfo)) (last : Nat) : Array CpInfo := ⟨poolList es last⟩
def fileOf (pool : Array CpInfo) (this : Nat) (attrs : Array Attribute := #[]) (ms : Array MethodInfo := #[]) (fl : Nat := 33) (sup : Nat := 0) (ifs : Array Nat := #[]) (fds : Array FieldInfo := #[]) : ClassFile where
  minorVersion := 0
  majorVersion := 65
  constantPool := pool
  accessFlags := fl
  thisClass := this
  superClass := sup
  interfaces := ifs
  fields := fds
  methods := ms
  attributes := attrs
def plain (name : String) (sup : Option ClassId) : Class where
  name := name
  kind := .ordinary
  loader := none
  accessFlags := 33
  super := sup
  interfaces := #[]
  cf := none
  fields := #[]
  methods := #[]
  instanceTypes := #[]
  staticTypes := #[]
  resolved := #[]
  callSites := []
  init := .initialized
  statics := none
  mirror := none

def pool0 : Array CpInfo := pool [(5, u "<init>"), (0, u "()V"), (1, .class_ 10), (1, u "java/lang/Object")] 113

def k0c0 : Code := { maxStack := 0, maxLocals := 1, code := object_method_1_code, exceptionTable := #[], attributes := #[] }
def k0m0 : Method := { name := "<init>", desc := "()V", sig := { parameters := [], returnType := none }, accessFlags := 1, code := some k0c0 }
/-- java/lang/Object -/
def k0 : Class := { plain "java/lang/Object" none with
  accessFlags := 33
  interfaces := #[]
  cf := some (fileOf pool0 8 #[] #[{ accessFlags := 1, nameIndex := 5, descriptorIndex := 6, attributes := #[] }] 33 0 #[] #[])
  fields := #[]
  methods := #[k0m0]
  instanceTypes := #[]
  staticTypes := #[]
  resolved := Array.replicate 124 none
  statics := none }

def pool1 : Array CpInfo := pool [(2, .class_ 4), (1, u "java/lang/Object"), (0, u "<init>"), (0, u "()V"), (0, .methodref 8 9), (0, .class_ 10), (0, .nameAndType 11 12), (0, u "com/example/jadoube/jadoube/PositionTableMovesToPinLaw"), (0, u "king"), (0, u "(I)Lcom/example/jadoube/jadoube/Position;"), (0, .class_ 14), (0, u "com/example/jadoube/jadoube/PositionTable"), (0, .methodref 13 16), (0, .nameAndType 5 17), (0, u "(Lcom/example/jadoube/jadoube/Position;)V"), (0, .methodref 13 19), (0, .nameAndType 20 21), (0, u "add"), (0, u "(Lcom/example/jadoube/jadoube/Position;II)I"), (0, .methodref 13 23), (0, .nameAndType 24 25), (0, u "movesTo"), (0, u "(I)[I"), (0, .methodref 8 27), (0, .nameAndType 28 29), (0, u "same"), (0, u "([I[I)Z"), (0, .class_ 31), (0, u "com/example/jadoube/jadoube/Position"), (0, .methodref 30 33), (0, .nameAndType 5 34), (0, u "([J[JIJIIIZ)V"), (2, u "law"), (0, u "(IIIIII)Z")] 5

def k1m0 : Method := { name := "<init>", desc := "()V", sig := { parameters := [], returnType := none }, accessFlags := 1, code := none }
def k1c1 : Code := { maxStack := 4, maxLocals := 16, code := code, exceptionTable := #[], attributes := #[] }
def k1m1 : Method := { name := "law", desc := "(IIIIII)Z", sig := { parameters := [.int, .int, .int, .int, .int, .int], returnType := some .boolean }, accessFlags := 9, code := some k1c1 }
def k1c2 : Code := { maxStack := 11, maxLocals := 3, code := method_3_code, exceptionTable := #[], attributes := #[] }
def k1m2 : Method := { name := "king", desc := "(I)Lcom/example/jadoube/jadoube/Position;", sig := { parameters := [.int], returnType := some (.object "com/example/jadoube/jadoube/Position") }, accessFlags := 10, code := some k1c2 }
def k1c3 : Code := { maxStack := 3, maxLocals := 2, code := method_4_code, exceptionTable := #[], attributes := #[] }
def k1m3 : Method := { name := "same", desc := "([I[I)Z", sig := { parameters := [(.array .int), (.array .int)], returnType := some .boolean }, accessFlags := 10, code := some k1c3 }
/-- com/example/jadoube/jadoube/PositionTableMovesToPinLaw -/
def k1 : Class := { plain "com/example/jadoube/jadoube/PositionTableMovesToPinLaw" (some 0) with
  accessFlags := 49
  interfaces := #[]
  cf := some (fileOf pool1 8 #[] #[{ accessFlags := 1, nameIndex := 5, descriptorIndex := 6, attributes := #[] }, { accessFlags := 9, nameIndex := 37, descriptorIndex := 38, attributes := #[] }, { accessFlags := 10, nameIndex := 11, descriptorIndex := 12, attributes := #[] }, { accessFlags := 10, nameIndex := 28, descriptorIndex := 29, attributes := #[] }] 49 2 #[] #[])
  fields := #[]
  methods := #[k1m0, k1m1, k1m2, k1m3]
  instanceTypes := #[]
  staticTypes := #[]
  resolved := Array.replicate 44 none
  statics := none }

def pool2 : Array CpInfo := pool [(1, .methodref 2 3), (0, .class_ 4), (0, .nameAndType 5 6), (0, u "java/lang/Object"), (0, u "<init>"), (0, u "()V"), (0, .fieldref 8 9), (0, .class_ 10), (0, .nameAndType 11 12), (0, u "com/example/jadoube/jadoube/Position"), (0, u "pieces"), (0, u "[J"), (0, .fieldref 8 14), (0, .nameAndType 15 12), (0, u "colours"), (0, .fieldref 8 17), (0, .nameAndType 18 19), (0, u "sideToMove"), (0, u "I"), (0, .fieldref 8 21), (0, .nameAndType 22 23), (0, u "castlingRooks"), (0, u "J"), (0, .fieldref 8 25), (0, .nameAndType 26 19), (0, u "enPassant"), (0, .fieldref 8 28), (0, .nameAndType 29 19), (0, u "halfmoveClock"), (0, .fieldref 8 31), (0, .nameAndType 32 19), (0, u "moveNumber"), (0, .fieldref 8 34), (0, .nameAndType 35 36), (0, u "chess960"), (0, u "Z"), (14, u "WHITE"), (3, u "BLACK"), (0, .methodref 57 58), (0, .class_ 59), (0, .nameAndType 60 61), (0, u "java/lang/Long"), (0, u "numberOfTrailingZeros"), (0, u "(J)I"), (0, .methodref 8 63), (0, .nameAndType 64 65), (0, u "kingSquare"), (0, u "(I)I"), (16, .class_ 83), (0, u "com/example/jadoube/jadoube/Position$Identity"), (12, u "(I)J"), (10, u "()J"), (16, u "kindOn"), (35, u "([J[JIJIIIZ)V"), (3, u "PAWN"), (0, u "KNIGHT"), (0, u "BISHOP"), (1, u "ROOK"), (1, u "QUEEN"), (1, u "KING"), (1, u "NO_SQUARE"), (8, u "isChess960"), (0, u "()Z"), (3, u "colour"), (0, u "()I"), (0, u "castlingRights")] 12

def k2c0 : Code := { maxStack := 3, maxLocals := 10, code := prog_31_method_1_code, exceptionTable := #[], attributes := #[] }
def k2m0 : Method := { name := "<init>", desc := "([J[JIJIIIZ)V", sig := { parameters := [(.array .long), (.array .long), .int, .long, .int, .int, .int, .boolean], returnType := none }, accessFlags := 0, code := some k2c0 }
def k2c1 : Code := { maxStack := 1, maxLocals := 1, code := prog_31_method_5_code, exceptionTable := #[], attributes := #[] }
def k2m1 : Method := { name := "isChess960", desc := "()Z", sig := { parameters := [], returnType := some .boolean }, accessFlags := 1, code := some k2c1 }
def k2c2 : Code := { maxStack := 2, maxLocals := 2, code := prog_31_method_8_code, exceptionTable := #[], attributes := #[] }
def k2m2 : Method := { name := "colour", desc := "(I)J", sig := { parameters := [.int], returnType := some .long }, accessFlags := 0, code := some k2c2 }
def k2c3 : Code := { maxStack := 1, maxLocals := 1, code := prog_31_method_9_code, exceptionTable := #[], attributes := #[] }
def k2m3 : Method := { name := "sideToMove", desc := "()I", sig := { parameters := [], returnType := some .int }, accessFlags := 0, code := some k2c3 }
def k2c4 : Code := { maxStack := 2, maxLocals := 1, code := prog_31_method_10_code, exceptionTable := #[], attributes := #[] }
def k2m4 : Method := { name := "castlingRooks", desc := "()J", sig := { parameters := [], returnType := some .long }, accessFlags := 0, code := some k2c4 }
def k2c5 : Code := { maxStack := 6, maxLocals := 5, code := prog_31_method_11_code, exceptionTable := #[], attributes := #[] }
def k2m5 : Method := { name := "castlingRights", desc := "()I", sig := { parameters := [], returnType := some .int }, accessFlags := 0, code := some k2c5 }
def k2c6 : Code := { maxStack := 1, maxLocals := 1, code := prog_31_method_12_code, exceptionTable := #[], attributes := #[] }
def k2m6 : Method := { name := "enPassant", desc := "()I", sig := { parameters := [], returnType := some .int }, accessFlags := 0, code := some k2c6 }
def k2c7 : Code := { maxStack := 4, maxLocals := 2, code := prog_31_method_18_code, exceptionTable := #[], attributes := #[] }
def k2m7 : Method := { name := "kingSquare", desc := "(I)I", sig := { parameters := [.int], returnType := some .int }, accessFlags := 0, code := some k2c7 }
def k2c8 : Code := { maxStack := 4, maxLocals := 5, code := prog_31_method_19_code, exceptionTable := #[], attributes := #[] }
def k2m8 : Method := { name := "kindOn", desc := "(I)I", sig := { parameters := [.int], returnType := some .int }, accessFlags := 0, code := some k2c8 }
/-- com/example/jadoube/jadoube/Position -/
def k2 : Class := { plain "com/example/jadoube/jadoube/Position" (some 0) with
  accessFlags := 49
  interfaces := #[]
  cf := some (fileOf pool2 8 #[.nestMembers #[82]] #[{ accessFlags := 0, nameIndex := 5, descriptorIndex := 160, attributes := #[] }, { accessFlags := 1, nameIndex := 183, descriptorIndex := 184, attributes := #[] }, { accessFlags := 0, nameIndex := 188, descriptorIndex := 96, attributes := #[] }, { accessFlags := 0, nameIndex := 18, descriptorIndex := 189, attributes := #[] }, { accessFlags := 0, nameIndex := 22, descriptorIndex := 107, attributes := #[] }, { accessFlags := 0, nameIndex := 190, descriptorIndex := 189, attributes := #[] }, { accessFlags := 0, nameIndex := 26, descriptorIndex := 189, attributes := #[] }, { accessFlags := 0, nameIndex := 64, descriptorIndex := 65, attributes := #[] }, { accessFlags := 0, nameIndex := 124, descriptorIndex := 65, attributes := #[] }] 49 2 #[] #[{ accessFlags := 24, nameIndex := 51, descriptorIndex := 19, attributes := #[] }, { accessFlags := 24, nameIndex := 55, descriptorIndex := 19, attributes := #[] }, { accessFlags := 24, nameIndex := 164, descriptorIndex := 19, attributes := #[] }, { accessFlags := 24, nameIndex := 165, descriptorIndex := 19, attributes := #[] }, { accessFlags := 24, nameIndex := 166, descriptorIndex := 19, attributes := #[] }, { accessFlags := 24, nameIndex := 168, descriptorIndex := 19, attributes := #[] }, { accessFlags := 24, nameIndex := 170, descriptorIndex := 19, attributes := #[] }, { accessFlags := 24, nameIndex := 172, descriptorIndex := 19, attributes := #[] }, { accessFlags := 24, nameIndex := 174, descriptorIndex := 19, attributes := #[] }, { accessFlags := 18, nameIndex := 11, descriptorIndex := 12, attributes := #[] }, { accessFlags := 18, nameIndex := 15, descriptorIndex := 12, attributes := #[] }, { accessFlags := 18, nameIndex := 18, descriptorIndex := 19, attributes := #[] }, { accessFlags := 18, nameIndex := 22, descriptorIndex := 23, attributes := #[] }, { accessFlags := 18, nameIndex := 26, descriptorIndex := 19, attributes := #[] }, { accessFlags := 18, nameIndex := 29, descriptorIndex := 19, attributes := #[] }, { accessFlags := 18, nameIndex := 32, descriptorIndex := 19, attributes := #[] }, { accessFlags := 18, nameIndex := 35, descriptorIndex := 36, attributes := #[] }])
  fields := #[{ name := "WHITE", type := .int, accessFlags := 24, slot := 0, constantValue := 0 }, { name := "BLACK", type := .int, accessFlags := 24, slot := 1, constantValue := 0 }, { name := "PAWN", type := .int, accessFlags := 24, slot := 2, constantValue := 0 }, { name := "KNIGHT", type := .int, accessFlags := 24, slot := 3, constantValue := 0 }, { name := "BISHOP", type := .int, accessFlags := 24, slot := 4, constantValue := 0 }, { name := "ROOK", type := .int, accessFlags := 24, slot := 5, constantValue := 0 }, { name := "QUEEN", type := .int, accessFlags := 24, slot := 6, constantValue := 0 }, { name := "KING", type := .int, accessFlags := 24, slot := 7, constantValue := 0 }, { name := "NO_SQUARE", type := .int, accessFlags := 24, slot := 8, constantValue := 0 }, { name := "pieces", type := (.array .long), accessFlags := 18, slot := 0, constantValue := 0 }, { name := "colours", type := (.array .long), accessFlags := 18, slot := 1, constantValue := 0 }, { name := "sideToMove", type := .int, accessFlags := 18, slot := 2, constantValue := 0 }, { name := "castlingRooks", type := .long, accessFlags := 18, slot := 3, constantValue := 0 }, { name := "enPassant", type := .int, accessFlags := 18, slot := 4, constantValue := 0 }, { name := "halfmoveClock", type := .int, accessFlags := 18, slot := 5, constantValue := 0 }, { name := "moveNumber", type := .int, accessFlags := 18, slot := 6, constantValue := 0 }, { name := "chess960", type := .boolean, accessFlags := 18, slot := 7, constantValue := 0 }]
  methods := #[k2m0, k2m1, k2m2, k2m3, k2m4, k2m5, k2m6, k2m7, k2m8]
  instanceTypes := #[(.array .long), (.array .long), .int, .long, .int, .int, .int, .boolean]
  staticTypes := #[.int, .int, .int, .int, .int, .int, .int, .int, .int]
  resolved := Array.replicate 203 none
  statics := none }

def pool3 : Array CpInfo := pool [(1, .class_ 2), (0, u "com/example/jadoube/jadoube/Position"), (0, .methodref 4 5), (0, .class_ 6), (0, .nameAndType 7 8), (0, u "java/lang/Object"), (0, u "<init>"), (0, u "()V"), (0, .class_ 10), (0, u "com/example/jadoube/jadoube/MoveGenerator"), (0, .methodref 9 5), (0, .fieldref 13 14), (0, .class_ 15), (0, .nameAndType 16 17), (0, u "com/example/jadoube/jadoube/PositionTable"), (0, u "generator"), (0, u "Lcom/example/jadoube/jadoube/MoveGenerator;"), (0, .methodref 1 19), (0, .nameAndType 20 21), (0, u "colour"), (0, u "(I)J"), (0, .methodref 23 24), (0, .class_ 25), (0, .nameAndType 26 27), (0, u "java/lang/Long"), (0, u "bitCount"), (0, u "(J)I"), (0, .fieldref 13 29), (0, .nameAndType 30 31), (0, u "width"), (0, u "I"), (0, .methodref 1 33), (0, .nameAndType 34 35), (0, u "castlingRooks"), (0, u "()J"), (0, .fieldref 13 37), (0, .nameAndType 34 38), (0, u "J"), (0, .methodref 1 40), (0, .nameAndType 41 42), (0, u "isChess960"), (0, u "()Z"), (0, .fieldref 13 44), (0, .nameAndType 45 46), (0, u "chess960"), (0, u "Z"), (0, .fieldref 13 48), (0, .nameAndType 49 50), (0, u "scratch"), (0, u "[J"), (0, .fieldref 13 52), (0, .nameAndType 53 50), (0, u "words"), (0, .fieldref 13 55), (0, .nameAndType 56 57), (0, u "parents"), (0, u "[I"), (0, .fieldref 13 59), (0, .nameAndType 60 57), (0, u "moves"), (0, .fieldref 13 62), (0, .nameAndType 63 57), (0, u "slots"), (0, .fieldref 13 65), (0, .nameAndType 66 31), (0, u "size"), (2, u "full"), (0, .methodref 13 71), (0, .nameAndType 72 73), (0, u "encode"), (0, u "(Lcom/example/jadoube/jadoube/Position;[J)V"), (0, .methodref 13 75), (0, .nameAndType 76 77), (0, u "hash"), (0, u "([JI)I"), (1, .class_ 81), (1, u "java/util/Arrays"), (5, .methodref 13 88), (0, .nameAndType 89 90), (0, u "add"), (0, u "(Lcom/example/jadoube/jadoube/Position;II)I"), (0, .methodref 92 93), (0, .class_ 94), (0, .nameAndType 95 96), (0, u "java/lang/System"), (0, u "arraycopy"), (0, u "(Ljava/lang/Object;ILjava/lang/Object;II)V"), (2, u "CASTLINGS"), (0, u "[Lcom/example/jadoube/jadoube/Castling;"), (11, .methodref 79 113), (0, .nameAndType 114 115), (0, u "fill"), (0, u "([JJ)V"), (0, .methodref 23 117), (0, .nameAndType 118 27), (0, u "numberOfTrailingZeros"), (0, .methodref 1 120), (0, .nameAndType 121 122), (0, u "kindOn"), (0, u "(I)I"), (0, .methodref 9 124), (0, .nameAndType 125 126), (0, u "canCaptureEnPassant"), (0, u "(Lcom/example/jadoube/jadoube/Position;)Z"), (0, .methodref 1 128), (0, .nameAndType 129 130), (0, u "enPassant"), (0, u "()I"), (0, .methodref 1 132), (0, .nameAndType 133 130), (0, u "sideToMove"), (0, .methodref 1 135), (0, .nameAndType 136 130), (0, u "castlingRights"), (0, .long 11400714819323198485), (1, .long 18397679294719823053), (18, u "STATE_BITS"), (2, u "FIRST_CAPACITY"), (1, u "MAX_ENTRIES"), (0, u "(Lcom/example/jadoube/jadoube/Position;)V"), (8, u "movesTo"), (0, u "(I)[I")] 4

def k3c0 : Code := { maxStack := 4, maxLocals := 3, code := prog_33_method_1_code, exceptionTable := #[], attributes := #[] }
def k3m0 : Method := { name := "<init>", desc := "(Lcom/example/jadoube/jadoube/Position;)V", sig := { parameters := [(.object "com/example/jadoube/jadoube/Position")], returnType := none }, accessFlags := 0, code := some k3c0 }
def k3c1 : Code := { maxStack := 6, maxLocals := 6, code := prog_33_method_4_code, exceptionTable := #[], attributes := #[] }
def k3m1 : Method := { name := "add", desc := "(Lcom/example/jadoube/jadoube/Position;II)I", sig := { parameters := [(.object "com/example/jadoube/jadoube/Position"), .int, .int], returnType := some .int }, accessFlags := 0, code := some k3c1 }
def k3c2 : Code := { maxStack := 4, maxLocals := 5, code := prog_33_method_6_code, exceptionTable := #[], attributes := #[] }
def k3m2 : Method := { name := "movesTo", desc := "(I)[I", sig := { parameters := [.int], returnType := some (.array .int) }, accessFlags := 0, code := some k3c2 }
def k3c3 : Code := { maxStack := 9, maxLocals := 13, code := prog_33_method_7_code, exceptionTable := #[], attributes := #[] }
def k3m3 : Method := { name := "encode", desc := "(Lcom/example/jadoube/jadoube/Position;[J)V", sig := { parameters := [(.object "com/example/jadoube/jadoube/Position"), (.array .long)], returnType := none }, accessFlags := 2, code := some k3c3 }
def k3c4 : Code := { maxStack := 5, maxLocals := 6, code := prog_33_method_8_code, exceptionTable := #[], attributes := #[] }
def k3m4 : Method := { name := "hash", desc := "([JI)I", sig := { parameters := [(.array .long), .int], returnType := some .int }, accessFlags := 2, code := some k3c4 }
/-- com/example/jadoube/jadoube/PositionTable -/
def k3 : Class := { plain "com/example/jadoube/jadoube/PositionTable" (some 0) with
  accessFlags := 48
  interfaces := #[]
  cf := some (fileOf pool3 13 #[] #[{ accessFlags := 0, nameIndex := 7, descriptorIndex := 164, attributes := #[] }, { accessFlags := 0, nameIndex := 89, descriptorIndex := 90, attributes := #[] }, { accessFlags := 0, nameIndex := 173, descriptorIndex := 174, attributes := #[] }, { accessFlags := 2, nameIndex := 72, descriptorIndex := 73, attributes := #[] }, { accessFlags := 2, nameIndex := 76, descriptorIndex := 77, attributes := #[] }] 48 4 #[] #[{ accessFlags := 26, nameIndex := 158, descriptorIndex := 31, attributes := #[] }, { accessFlags := 26, nameIndex := 161, descriptorIndex := 31, attributes := #[] }, { accessFlags := 26, nameIndex := 163, descriptorIndex := 31, attributes := #[] }, { accessFlags := 26, nameIndex := 99, descriptorIndex := 100, attributes := #[] }, { accessFlags := 18, nameIndex := 30, descriptorIndex := 31, attributes := #[] }, { accessFlags := 18, nameIndex := 34, descriptorIndex := 38, attributes := #[] }, { accessFlags := 18, nameIndex := 45, descriptorIndex := 46, attributes := #[] }, { accessFlags := 18, nameIndex := 49, descriptorIndex := 50, attributes := #[] }, { accessFlags := 18, nameIndex := 16, descriptorIndex := 17, attributes := #[] }, { accessFlags := 2, nameIndex := 53, descriptorIndex := 50, attributes := #[] }, { accessFlags := 2, nameIndex := 56, descriptorIndex := 57, attributes := #[] }, { accessFlags := 2, nameIndex := 60, descriptorIndex := 57, attributes := #[] }, { accessFlags := 2, nameIndex := 63, descriptorIndex := 57, attributes := #[] }, { accessFlags := 2, nameIndex := 66, descriptorIndex := 31, attributes := #[] }, { accessFlags := 2, nameIndex := 69, descriptorIndex := 46, attributes := #[] }])
  fields := #[{ name := "STATE_BITS", type := .int, accessFlags := 26, slot := 0, constantValue := 0 }, { name := "FIRST_CAPACITY", type := .int, accessFlags := 26, slot := 1, constantValue := 0 }, { name := "MAX_ENTRIES", type := .int, accessFlags := 26, slot := 2, constantValue := 0 }, { name := "CASTLINGS", type := (.array (.object "com/example/jadoube/jadoube/Castling")), accessFlags := 26, slot := 3, constantValue := 0 }, { name := "width", type := .int, accessFlags := 18, slot := 0, constantValue := 0 }, { name := "castlingRooks", type := .long, accessFlags := 18, slot := 1, constantValue := 0 }, { name := "chess960", type := .boolean, accessFlags := 18, slot := 2, constantValue := 0 }, { name := "scratch", type := (.array .long), accessFlags := 18, slot := 3, constantValue := 0 }, { name := "generator", type := (.object "com/example/jadoube/jadoube/MoveGenerator"), accessFlags := 18, slot := 4, constantValue := 0 }, { name := "words", type := (.array .long), accessFlags := 2, slot := 5, constantValue := 0 }, { name := "parents", type := (.array .int), accessFlags := 2, slot := 6, constantValue := 0 }, { name := "moves", type := (.array .int), accessFlags := 2, slot := 7, constantValue := 0 }, { name := "slots", type := (.array .int), accessFlags := 2, slot := 8, constantValue := 0 }, { name := "size", type := .int, accessFlags := 2, slot := 9, constantValue := 0 }, { name := "full", type := .boolean, accessFlags := 2, slot := 10, constantValue := 0 }]
  methods := #[k3m0, k3m1, k3m2, k3m3, k3m4]
  instanceTypes := #[.int, .long, .boolean, (.array .long), (.object "com/example/jadoube/jadoube/MoveGenerator"), (.array .long), (.array .int), (.array .int), (.array .int), .int, .boolean]
  staticTypes := #[.int, .int, .int, (.array (.object "com/example/jadoube/jadoube/Castling"))]
  resolved := Array.replicate 179 none
  statics := none }

def pool4 : Array CpInfo := pool [(1, .class_ 2), (0, u "com/example/jadoube/jadoube/Position"), (0, .methodref 4 5), (0, .class_ 6), (0, .nameAndType 7 8), (0, u "java/lang/Object"), (0, u "<init>"), (0, u "()V"), (0, .fieldref 10 11), (0, .class_ 12), (0, .nameAndType 13 14), (0, u "com/example/jadoube/jadoube/MoveGenerator"), (0, u "moves"), (0, u "[I"), (0, .fieldref 10 16), (0, .nameAndType 17 18), (0, u "size"), (0, u "I"), (4, .methodref 1 24), (0, .nameAndType 25 26), (0, u "sideToMove"), (0, u "()I"), (0, .methodref 1 28), (0, .nameAndType 29 30), (0, u "kingSquare"), (0, u "(I)I"), (0, .methodref 1 32), (0, .nameAndType 33 34), (0, u "colour"), (0, u "(I)J"), (0, .methodref 10 36), (0, .nameAndType 37 38), (0, u "addEnPassant"), (0, u "(Lcom/example/jadoube/jadoube/Position;IIJ)V"), (7, .long 18446744073709551615), (15, .class_ 64), (1, u "java/lang/Long"), (1, u "(J)I"), (0, .methodref 62 68), (0, .nameAndType 69 66), (0, u "numberOfTrailingZeros"), (69, u "PROMOTIONS"), (10, .methodref 1 151), (0, .nameAndType 152 26), (0, u "enPassant"), (25, u "MAX_MOVES"), (8, u "canCaptureEnPassant"), (0, u "(Lcom/example/jadoube/jadoube/Position;)Z")] 5

def k4c0 : Code := { maxStack := 1, maxLocals := 1, code := prog_22_method_1_code, exceptionTable := #[], attributes := #[] }
def k4m0 : Method := { name := "<init>", desc := "()V", sig := { parameters := [], returnType := none }, accessFlags := 0, code := some k4c0 }
def k4c1 : Code := { maxStack := 9, maxLocals := 3, code := prog_22_method_4_code, exceptionTable := #[], attributes := #[] }
def k4m1 : Method := { name := "canCaptureEnPassant", desc := "(Lcom/example/jadoube/jadoube/Position;)Z", sig := { parameters := [(.object "com/example/jadoube/jadoube/Position")], returnType := some .boolean }, accessFlags := 0, code := some k4c1 }
def k4c2 : Code := { maxStack := 6, maxLocals := 14, code := prog_22_method_14_code, exceptionTable := #[], attributes := #[] }
def k4m2 : Method := { name := "addEnPassant", desc := "(Lcom/example/jadoube/jadoube/Position;IIJ)V", sig := { parameters := [(.object "com/example/jadoube/jadoube/Position"), .int, .int, .long], returnType := none }, accessFlags := 2, code := some k4c2 }
/-- com/example/jadoube/jadoube/MoveGenerator -/
def k4 : Class := { plain "com/example/jadoube/jadoube/MoveGenerator" (some 0) with
  accessFlags := 48
  interfaces := #[]
  cf := some (fileOf pool4 10 #[] #[{ accessFlags := 0, nameIndex := 7, descriptorIndex := 8, attributes := #[] }, { accessFlags := 0, nameIndex := 187, descriptorIndex := 188, attributes := #[] }, { accessFlags := 2, nameIndex := 37, descriptorIndex := 38, attributes := #[] }] 48 4 #[] #[{ accessFlags := 24, nameIndex := 178, descriptorIndex := 18, attributes := #[] }, { accessFlags := 26, nameIndex := 139, descriptorIndex := 14, attributes := #[] }, { accessFlags := 2, nameIndex := 13, descriptorIndex := 14, attributes := #[] }, { accessFlags := 2, nameIndex := 17, descriptorIndex := 18, attributes := #[] }])
  fields := #[{ name := "MAX_MOVES", type := .int, accessFlags := 24, slot := 0, constantValue := 0 }, { name := "PROMOTIONS", type := (.array .int), accessFlags := 26, slot := 1, constantValue := 0 }, { name := "moves", type := (.array .int), accessFlags := 2, slot := 0, constantValue := 0 }, { name := "size", type := .int, accessFlags := 2, slot := 1, constantValue := 0 }]
  methods := #[k4m0, k4m1, k4m2]
  instanceTypes := #[(.array .int), .int]
  staticTypes := #[.int, (.array .int)]
  resolved := Array.replicate 194 none
  statics := none }

def pool5 : Array CpInfo := pool [(1, .class_ 2), (0, u "java/io/Serializable"), (0, .class_ 4), (0, u "java/lang/Object")] 2

/-- java/io/Serializable -/
def k5 : Class := { plain "java/io/Serializable" (some 0) with
  accessFlags := 1537
  interfaces := #[]
  cf := some (fileOf pool5 1 #[] #[] 1537 3 #[] #[])
  fields := #[]
  methods := #[]
  instanceTypes := #[]
  staticTypes := #[]
  resolved := Array.replicate 7 none
  statics := none }

def pool6 : Array CpInfo := pool [(2, .class_ 4), (1, u "java/lang/Object"), (0, u "<init>"), (0, u "()V"), (1, .class_ 10), (1, u "java/lang/Number"), (2, .class_ 14), (0, u "java/io/Serializable"), (0, u "serialVersionUID"), (0, u "J")] 20

def k6m0 : Method := { name := "<init>", desc := "()V", sig := { parameters := [], returnType := none }, accessFlags := 1, code := none }
/-- java/lang/Number -/
def k6 : Class := { plain "java/lang/Number" (some 0) with
  accessFlags := 1057
  interfaces := #[5]
  cf := some (fileOf pool6 8 #[] #[{ accessFlags := 1, nameIndex := 5, descriptorIndex := 6, attributes := #[] }] 1057 2 #[13] #[{ accessFlags := 26, nameIndex := 15, descriptorIndex := 16, attributes := #[] }])
  fields := #[{ name := "serialVersionUID", type := .long, accessFlags := 26, slot := 0, constantValue := 0 }]
  methods := #[k6m0]
  instanceTypes := #[]
  staticTypes := #[.long]
  resolved := Array.replicate 37 none
  statics := none }

def pool7 : Array CpInfo := pool [(1, .class_ 2), (0, u "java/lang/Comparable"), (0, .class_ 4), (0, u "java/lang/Object")] 7

/-- java/lang/Comparable -/
def k7 : Class := { plain "java/lang/Comparable" (some 0) with
  accessFlags := 1537
  interfaces := #[]
  cf := some (fileOf pool7 1 #[] #[] 1537 3 #[] #[])
  fields := #[]
  methods := #[]
  instanceTypes := #[]
  staticTypes := #[]
  resolved := Array.replicate 12 none
  statics := none }

def pool8 : Array CpInfo := pool [(1, .class_ 2), (0, u "java/lang/constant/Constable"), (0, .class_ 4), (0, u "java/lang/Object")] 6

/-- java/lang/constant/Constable -/
def k8 : Class := { plain "java/lang/constant/Constable" (some 0) with
  accessFlags := 1537
  interfaces := #[]
  cf := some (fileOf pool8 1 #[] #[] 1537 3 #[] #[])
  fields := #[]
  methods := #[]
  instanceTypes := #[]
  staticTypes := #[]
  resolved := Array.replicate 11 none
  statics := none }

def pool9 : Array CpInfo := pool [(1, .class_ 2), (0, u "java/lang/constant/ConstantDesc"), (0, .class_ 4), (0, u "java/lang/Object")] 32

/-- java/lang/constant/ConstantDesc -/
def k9 : Class := { plain "java/lang/constant/ConstantDesc" (some 0) with
  accessFlags := 1537
  interfaces := #[]
  cf := some (fileOf pool9 1 #[] #[] 1537 3 #[] #[])
  fields := #[]
  methods := #[]
  instanceTypes := #[]
  staticTypes := #[]
  resolved := Array.replicate 37 none
  statics := none }

def pool10 : Array CpInfo := pool [(1, .class_ 2), (0, u "java/lang/Long"), (15, .class_ 20), (1, u "java/lang/Integer"), (80, u "(J)I"), (133, .class_ 237), (1, u "java/lang/Long$LongCache"), (33, .class_ 272), (0, u "java/lang/Number"), (2, u "value"), (0, u "J"), (33, u "(I)I"), (0, .methodref 18 312), (0, .nameAndType 313 310), (0, u "numberOfTrailingZeros"), (0, .long 6148914691236517205), (1, .long 3689348814741910323), (1, .long 1085102592571150095), (42, u "TYPE"), (0, u "Ljava/lang/Class;"), (0, .class_ 364), (0, u "java/lang/Comparable"), (0, .class_ 366), (0, u "java/lang/constant/Constable"), (0, .class_ 368), (0, u "java/lang/constant/ConstantDesc"), (0, u "MIN_VALUE"), (1, u "MAX_VALUE"), (4, u "SIZE"), (0, u "I"), (1, u "BYTES"), (1, u "serialVersionUID"), (94, u "bitCount")] 47

def k10c0 : Code := { maxStack := 4, maxLocals := 3, code := jdk_35_method_49_code, exceptionTable := #[], attributes := #[] }
def k10m0 : Method := { name := "numberOfTrailingZeros", desc := "(J)I", sig := { parameters := [.long], returnType := some .int }, accessFlags := 9, code := some k10c0 }
def k10c1 : Code := { maxStack := 6, maxLocals := 2, code := jdk_35_method_50_code, exceptionTable := #[], attributes := #[] }
def k10m1 : Method := { name := "bitCount", desc := "(J)I", sig := { parameters := [.long], returnType := some .int }, accessFlags := 9, code := some k10c1 }
/-- java/lang/Long -/
def k10 : Class := { plain "java/lang/Long" (some 6) with
  accessFlags := 49
  interfaces := #[7, 8, 9]
  cf := some (fileOf pool10 1 #[.nestMembers #[235]] #[{ accessFlags := 9, nameIndex := 313, descriptorIndex := 101, attributes := #[] }, { accessFlags := 9, nameIndex := 476, descriptorIndex := 101, attributes := #[] }] 49 271 #[363, 365, 367] #[{ accessFlags := 25, nameIndex := 369, descriptorIndex := 276, attributes := #[] }, { accessFlags := 25, nameIndex := 371, descriptorIndex := 276, attributes := #[] }, { accessFlags := 25, nameIndex := 361, descriptorIndex := 362, attributes := #[] }, { accessFlags := 18, nameIndex := 275, descriptorIndex := 276, attributes := #[] }, { accessFlags := 25, nameIndex := 376, descriptorIndex := 377, attributes := #[] }, { accessFlags := 25, nameIndex := 379, descriptorIndex := 377, attributes := #[] }, { accessFlags := 26, nameIndex := 381, descriptorIndex := 276, attributes := #[] }])
  fields := #[{ name := "MIN_VALUE", type := .long, accessFlags := 25, slot := 0, constantValue := 0 }, { name := "MAX_VALUE", type := .long, accessFlags := 25, slot := 1, constantValue := 0 }, { name := "TYPE", type := (.object "java/lang/Class"), accessFlags := 25, slot := 2, constantValue := 0 }, { name := "value", type := .long, accessFlags := 18, slot := 0, constantValue := 0 }, { name := "SIZE", type := .int, accessFlags := 25, slot := 3, constantValue := 0 }, { name := "BYTES", type := .int, accessFlags := 25, slot := 4, constantValue := 0 }, { name := "serialVersionUID", type := .long, accessFlags := 26, slot := 5, constantValue := 0 }]
  methods := #[k10m0, k10m1]
  instanceTypes := #[.long]
  staticTypes := #[.long, .long, (.object "java/lang/Class"), .int, .int, .long]
  resolved := Array.replicate 524 none
  statics := none }

def pool11 : Array CpInfo := pool [(2, .class_ 4), (1, u "java/lang/Object"), (0, u "<init>"), (0, u "()V"), (7, .class_ 16), (1, u "java/util/Arrays"), (57, .class_ 76), (1, u "java/util/Arrays$NaturalOrder"), (36, .class_ 115), (1, u "java/util/Arrays$LegacyMergeSort"), (1, u "Z"), (257, .class_ 376), (0, u "java/util/Arrays$ArrayList"), (68, u "$assertionsDisabled"), (269, u "MIN_ARRAY_SORT_GRAN"), (0, u "I"), (2, u "INSERTIONSORT_THRESHOLD"), (120, u "fill"), (0, u "([JJ)V"), (133, .class_ 976), (0, u "java/util/Arrays$ArrayItr")] 52

def k11m0 : Method := { name := "<init>", desc := "()V", sig := { parameters := [], returnType := none }, accessFlags := 2, code := none }
def k11c1 : Code := { maxStack := 4, maxLocals := 5, code := jdk_65_method_101_code, exceptionTable := #[], attributes := #[] }
def k11m1 : Method := { name := "fill", desc := "([JJ)V", sig := { parameters := [(.array .long), .long], returnType := none }, accessFlags := 9, code := some k11c1 }
/-- java/util/Arrays -/
def k11 : Class := { plain "java/util/Arrays" (some 0) with
  accessFlags := 49
  interfaces := #[]
  cf := some (fileOf pool11 14 #[.nestMembers #[975, 375, 113, 74]] #[{ accessFlags := 2, nameIndex := 5, descriptorIndex := 6, attributes := #[] }, { accessFlags := 9, nameIndex := 840, descriptorIndex := 841, attributes := #[] }] 49 2 #[] #[{ accessFlags := 26, nameIndex := 715, descriptorIndex := 716, attributes := #[] }, { accessFlags := 26, nameIndex := 719, descriptorIndex := 716, attributes := #[] }, { accessFlags := 4120, nameIndex := 445, descriptorIndex := 117, attributes := #[] }])
  fields := #[{ name := "MIN_ARRAY_SORT_GRAN", type := .int, accessFlags := 26, slot := 0, constantValue := 0 }, { name := "INSERTIONSORT_THRESHOLD", type := .int, accessFlags := 26, slot := 1, constantValue := 0 }, { name := "$assertionsDisabled", type := .boolean, accessFlags := 4120, slot := 2, constantValue := 0 }]
  methods := #[k11m0, k11m1]
  instanceTypes := #[]
  staticTypes := #[.int, .int, .boolean]
  resolved := Array.replicate 1029 none
  statics := none }

def pool12 : Array CpInfo := pool [(1, .class_ 2), (0, u "java/lang/Integer"), (16, u "digits"), (0, u "[C"), (33, u "(I)I"), (30, u "DigitOnes"), (0, u "[B"), (2, u "DigitTens"), (99, .class_ 190), (0, u "java/lang/Integer$IntegerCache"), (3, u "I"), (8, .class_ 204), (0, u "java/lang/Number"), (2, u "value"), (56, .integer 65536), (37, u "TYPE"), (0, u "Ljava/lang/Class;"), (0, .class_ 305), (0, u "java/lang/Comparable"), (0, .class_ 307), (0, u "java/lang/constant/Constable"), (0, .class_ 309), (0, u "java/lang/constant/ConstantDesc"), (0, u "MIN_VALUE"), (1, u "MAX_VALUE"), (3, u "SIZE"), (1, u "BYTES"), (1, u "serialVersionUID"), (0, u "J"), (84, u "numberOfTrailingZeros")] 46

def k12c0 : Code := { maxStack := 3, maxLocals := 2, code := jdk_33_method_48_code, exceptionTable := #[], attributes := #[] }
def k12m0 : Method := { name := "numberOfTrailingZeros", desc := "(I)I", sig := { parameters := [.int], returnType := some .int }, accessFlags := 9, code := some k12c0 }
/-- java/lang/Integer -/
def k12 : Class := { plain "java/lang/Integer" (some 6) with
  accessFlags := 49
  interfaces := #[7, 8, 9]
  cf := some (fileOf pool12 1 #[.nestMembers #[189]] #[{ accessFlags := 9, nameIndex := 406, descriptorIndex := 54, attributes := #[] }] 49 203 #[304, 306, 308] #[{ accessFlags := 25, nameIndex := 310, descriptorIndex := 194, attributes := #[] }, { accessFlags := 25, nameIndex := 312, descriptorIndex := 194, attributes := #[] }, { accessFlags := 25, nameIndex := 302, descriptorIndex := 303, attributes := #[] }, { accessFlags := 24, nameIndex := 19, descriptorIndex := 20, attributes := #[] }, { accessFlags := 24, nameIndex := 89, descriptorIndex := 86, attributes := #[] }, { accessFlags := 24, nameIndex := 85, descriptorIndex := 86, attributes := #[] }, { accessFlags := 18, nameIndex := 207, descriptorIndex := 194, attributes := #[] }, { accessFlags := 25, nameIndex := 316, descriptorIndex := 194, attributes := #[] }, { accessFlags := 25, nameIndex := 318, descriptorIndex := 194, attributes := #[] }, { accessFlags := 26, nameIndex := 320, descriptorIndex := 321, attributes := #[] }])
  fields := #[{ name := "MIN_VALUE", type := .int, accessFlags := 25, slot := 0, constantValue := 0 }, { name := "MAX_VALUE", type := .int, accessFlags := 25, slot := 1, constantValue := 0 }, { name := "TYPE", type := (.object "java/lang/Class"), accessFlags := 25, slot := 2, constantValue := 0 }, { name := "digits", type := (.array .char), accessFlags := 24, slot := 3, constantValue := 0 }, { name := "DigitTens", type := (.array .byte), accessFlags := 24, slot := 4, constantValue := 0 }, { name := "DigitOnes", type := (.array .byte), accessFlags := 24, slot := 5, constantValue := 0 }, { name := "value", type := .int, accessFlags := 18, slot := 0, constantValue := 0 }, { name := "SIZE", type := .int, accessFlags := 25, slot := 6, constantValue := 0 }, { name := "BYTES", type := .int, accessFlags := 25, slot := 7, constantValue := 0 }, { name := "serialVersionUID", type := .long, accessFlags := 26, slot := 8, constantValue := 0 }]
  methods := #[k12m0]
  instanceTypes := #[.int]
  staticTypes := #[.int, .int, (.object "java/lang/Class"), (.array .char), (.array .byte), (.array .byte), .int, .int, .long]
  resolved := Array.replicate 453 none
  statics := none }

def pool13 : Array CpInfo := pool [(2, .class_ 4), (1, u "java/lang/Object"), (0, u "<init>"), (0, u "()V"), (1, .class_ 10), (1, u "java/lang/System"), (0, u "allowSecurityManager"), (0, u "I"), (16, u "cons"), (0, u "Ljava/io/Console;"), (77, .class_ 110), (1, u "java/lang/System$CallersHolder"), (43, u "initialErrStream"), (0, u "Ljava/io/PrintStream;"), (19, u "security"), (0, u "Ljava/lang/SecurityManager;"), (31, .class_ 209), (0, u "java/lang/System$1"), (7, u "props"), (0, u "Ljava/util/Properties;"), (2, u "lineSeparator"), (0, u "Ljava/lang/String;"), (96, .class_ 321), (1, u "java/lang/System$LoggerFinder"), (5, .class_ 328), (0, u "java/lang/System$Logger"), (67, u "err"), (2, u "out"), (91, u "notSupportedJnuEncoding"), (15, u "in"), (17, u "initialIn"), (0, u "Ljava/io/InputStream;"), (35, u "bootLayer"), (0, u "Ljava/lang/ModuleLayer;"), (99, .class_ 664), (0, u "java/lang/System$2"), (9, u "NEVER"), (2, u "MAYBE"), (49, u "arraycopy"), (0, u "(Ljava/lang/Object;ILjava/lang/Object;II)V"), (72, .class_ 802), (0, u "java/lang/System$Logger$Level")] 31

def k13m0 : Method := { name := "<init>", desc := "()V", sig := { parameters := [], returnType := none }, accessFlags := 2, code := none }
def k13m1 : Method := { name := "arraycopy", desc := "(Ljava/lang/Object;ILjava/lang/Object;II)V", sig := { parameters := [(.object "java/lang/Object"), .int, (.object "java/lang/Object"), .int, .int], returnType := none }, accessFlags := 265, code := none }
/-- java/lang/System -/
def k13 : Class := { plain "java/lang/System" (some 0) with
  accessFlags := 49
  interfaces := #[]
  cf := some (fileOf pool13 8 #[.nestMembers #[319, 327, 801, 108, 663, 208]] #[{ accessFlags := 2, nameIndex := 5, descriptorIndex := 6, attributes := #[] }, { accessFlags := 265, nameIndex := 727, descriptorIndex := 728, attributes := #[] }] 49 2 #[] #[{ accessFlags := 25, nameIndex := 507, descriptorIndex := 526, attributes := #[] }, { accessFlags := 25, nameIndex := 399, descriptorIndex := 155, attributes := #[] }, { accessFlags := 25, nameIndex := 396, descriptorIndex := 155, attributes := #[] }, { accessFlags := 10, nameIndex := 525, descriptorIndex := 526, attributes := #[] }, { accessFlags := 26, nameIndex := 674, descriptorIndex := 12, attributes := #[] }, { accessFlags := 26, nameIndex := 677, descriptorIndex := 12, attributes := #[] }, { accessFlags := 10, nameIndex := 11, descriptorIndex := 12, attributes := #[] }, { accessFlags := 74, nameIndex := 175, descriptorIndex := 176, attributes := #[] }, { accessFlags := 10, nameIndex := 491, descriptorIndex := 222, attributes := #[] }, { accessFlags := 74, nameIndex := 29, descriptorIndex := 30, attributes := #[] }, { accessFlags := 74, nameIndex := 154, descriptorIndex := 155, attributes := #[] }, { accessFlags := 10, nameIndex := 217, descriptorIndex := 218, attributes := #[] }, { accessFlags := 10, nameIndex := 221, descriptorIndex := 222, attributes := #[] }, { accessFlags := 8, nameIndex := 562, descriptorIndex := 563, attributes := #[] }])
  fields := #[{ name := "in", type := (.object "java/io/InputStream"), accessFlags := 25, slot := 0, constantValue := 0 }, { name := "out", type := (.object "java/io/PrintStream"), accessFlags := 25, slot := 1, constantValue := 0 }, { name := "err", type := (.object "java/io/PrintStream"), accessFlags := 25, slot := 2, constantValue := 0 }, { name := "initialIn", type := (.object "java/io/InputStream"), accessFlags := 10, slot := 3, constantValue := 0 }, { name := "NEVER", type := .int, accessFlags := 26, slot := 4, constantValue := 0 }, { name := "MAYBE", type := .int, accessFlags := 26, slot := 5, constantValue := 0 }, { name := "allowSecurityManager", type := .int, accessFlags := 10, slot := 6, constantValue := 0 }, { name := "security", type := (.object "java/lang/SecurityManager"), accessFlags := 74, slot := 7, constantValue := 0 }, { name := "notSupportedJnuEncoding", type := (.object "java/lang/String"), accessFlags := 10, slot := 8, constantValue := 0 }, { name := "cons", type := (.object "java/io/Console"), accessFlags := 74, slot := 9, constantValue := 0 }, { name := "initialErrStream", type := (.object "java/io/PrintStream"), accessFlags := 74, slot := 10, constantValue := 0 }, { name := "props", type := (.object "java/util/Properties"), accessFlags := 10, slot := 11, constantValue := 0 }, { name := "lineSeparator", type := (.object "java/lang/String"), accessFlags := 10, slot := 12, constantValue := 0 }, { name := "bootLayer", type := (.object "java/lang/ModuleLayer"), accessFlags := 8, slot := 13, constantValue := 0 }]
  methods := #[k13m0, k13m1]
  instanceTypes := #[]
  staticTypes := #[(.object "java/io/InputStream"), (.object "java/io/PrintStream"), (.object "java/io/PrintStream"), (.object "java/io/InputStream"), .int, .int, .int, (.object "java/lang/SecurityManager"), (.object "java/lang/String"), (.object "java/io/Console"), (.object "java/io/PrintStream"), (.object "java/util/Properties"), (.object "java/lang/String"), (.object "java/lang/ModuleLayer")]
  resolved := Array.replicate 834 none
  statics := none }

def pool14 : Array CpInfo := pool [(1, u "java/lang/Cloneable"), (0, .class_ 1), (0, u "java/lang/Object"), (0, .class_ 3)] 3

/-- java/lang/Cloneable -/
def k14 : Class := { plain "java/lang/Cloneable" (some 0) with
  accessFlags := 1537
  interfaces := #[]
  cf := some (fileOf pool14 2 #[] #[] 1537 4 #[] #[])
  fields := #[]
  methods := #[]
  instanceTypes := #[]
  staticTypes := #[]
  resolved := Array.replicate 8 none
  statics := none }

/-- the primitive byte -/
def k15 : Class := { plain "byte" none with kind := .primitive 'B', accessFlags := 0x411 }
/-- [B -/
def k16 : Class := { plain "[B" (some 0) with kind := .array 15 .byte, interfaces := #[14, 5], accessFlags := 1041 }

/-- the primitive int -/
def k17 : Class := { plain "int" none with kind := .primitive 'I', accessFlags := 0x411 }
/-- [I -/
def k18 : Class := { plain "[I" (some 0) with kind := .array 17 .int, interfaces := #[14, 5], accessFlags := 1041 }

/-- the primitive long -/
def k19 : Class := { plain "long" none with kind := .primitive 'J', accessFlags := 0x411 }
/-- [J -/
def k20 : Class := { plain "[J" (some 0) with kind := .array 19 .long, interfaces := #[14, 5], accessFlags := 1041 }

def heap : Heap := #[]
def classes : Array Class := #[k0, k1, k2, k3, k4, k5, k6, k7, k8, k9, k10, k11, k12, k13, k14, k15, k16, k17, k18, k19, k20]
def interned : List (Array UInt16 × Addr) := []
def slotsUsed : Nat := 0
def theMethod : MethodId := ⟨1, 1⟩
def args0 : Array Value := #[.int 3, .int 11, .int 12, .int 13, .int 14, .int 3]
def aboutOver (below : List Frame) : State where
  vm := { classes := classes, interned := interned.toArray }
  heap := heap
  slotsUsed := slotsUsed
  threads := #[{ frames := .invoking theMethod args0 :: below }]
def below0 : List Frame := [.native { method := ⟨0, 0⟩, args := #[] }]
def about1 : State := aboutOver below0
def p0 : Program := .bare "" "" ""
def e0 : Env := launch0.env 0 0 0
theorem w_frames : about1.frames = Frame.invoking theMethod args0 :: below0 := rfl
set_option maxRecDepth 65536 in
theorem w_args : argsFit about1.vm theMethod args0 = true := by decide +kernel
set_option maxRecDepth 65536 in
theorem w_heap : heapFits about1 = true := by decide +kernel
set_option maxRecDepth 65536 in
theorem w_runnable : about1.curStatus? = some .runnable := by decide +kernel
set_option maxRecDepth 65536 in
theorem w_alone : about1.alone = true := by decide +kernel
set_option maxRecDepth 65536 in
theorem w_named : about1.methodNamed? x = some theMethod := by decide +kernel
set_option maxRecDepth 65536 in
theorem w_hears : about1.hears theMethod below0 = true := by decide +kernel
set_option maxRecDepth 65536 in
theorem w_ripe : about1.ripe theMethod args0 below0 = true := by decide +kernel
theorem w_running : about1.status = .running := rfl
set_option maxRecDepth 65536 in
theorem w_room : about1.hasRoom e0.platform room_1 = true :=
  launch0.hasRoom_least _ room_1 (by decide +kernel) (by decide +kernel) (by decide +kernel) (by decide +kernel) (by decide +kernel) (by decide +kernel)
theorem allAtoms_all (ts : List Jvm.Cond) (a : Array Jvm.Value) (st : Jvm.State) : (allAtoms ts).before a st = ts.all (fun c => c.before a st) := by
  induction ts with
  | nil => rfl
  | cons c t ih =>
    show (Jvm.Cond.and c (allAtoms t)).before a st = _
    rw [Jvm.Cond.before_and, ih, List.all_cons]
def words1 : List Jvm.Cond := Jvm.Cond.code x code maxLocals ret :: tables_1
/-- a 'code' word, met by the world's own term for the bytes: nothing is compared byte by byte -/
theorem code_word {y : MethodName} {bytes : ByteArray} {mx : Nat} {rt : Option FieldType} {a : Array Value} {s : State} {m : MethodId} {meth : Method} {c : Code} (h1 : s.methodNamed? y = some m) (h2 : s.vm.method? m = some meth) (h3 : meth.code = some c) (h4 : c.code = bytes)
    (h5 : (c.maxLocals == mx && c.exceptionTable.isEmpty && decide (c.maxStack ≤ mostOperands) && decide (meth.sig.returnType = rt) && !meth.locks && decide (parseMethodDescriptor y.desc = some meth.sig)) = true) : (Jvm.Cond.code y bytes mx rt).before a s = true := by
  simp only [Bool.and_eq_true, beq_iff_eq, Bool.not_eq_true', decide_eq_true_eq] at h5
  obtain ⟨⟨⟨⟨⟨g1, g2⟩, g3⟩, g4⟩, g5⟩, g6⟩ := h5
  simp [Cond.before, Cond.holds, Cond.value, h1, h2, h3, h4, g1, g2, g3, g4, g5, g6]
def isCode : Jvm.Cond → Bool
  | .code _ _ _ _ => true
  | _ => false
theorem all_split {L : List Jvm.Cond} {P : Jvm.Cond → Bool} (h1 : L.all (fun c => isCode c || P c) = true) (h2 : ∀ c ∈ L.filter isCode, P c = true) : L.all P = true := by
  refine List.all_eq_true.mpr fun c hc => ?_
  have h := List.all_eq_true.mp h1 c hc
  rcases Bool.eq_false_or_eq_true (isCode c) with hi | hi
  · exact h2 c (List.mem_filter.mpr ⟨hc, hi⟩)
  · simpa [hi] using h
set_option maxRecDepth 65536 in
theorem w_c0 : (Jvm.Cond.code x code maxLocals ret).before args0 about1 = true := code_word (m := ⟨1, 1⟩) (meth := k1m1) (c := k1c1) (by decide +kernel) rfl rfl rfl (by decide +kernel)
set_option maxRecDepth 65536 in
theorem w_c1 : (Jvm.Cond.code ({ cls := "com/example/jadoube/jadoube/PositionTableMovesToPinLaw", name := "king", desc := "(I)Lcom/example/jadoube/jadoube/Position;" } : Jvm.MethodName) method_3_code (3 : Nat) (Option.some (Jvm.ClassFile.FieldType.object "com/example/jadoube/jadoube/Position"))).before args0 about1 = true := code_word (m := ⟨1, 2⟩) (meth := k1m2) (c := k1c2) (by decide +kernel) rfl rfl rfl (by decide +kernel)
set_option maxRecDepth 65536 in
theorem w_c2 : (Jvm.Cond.code ({ cls := "com/example/jadoube/jadoube/Position", name := "<init>", desc := "([J[JIJIIIZ)V" } : Jvm.MethodName) prog_31_method_1_code (10 : Nat) (Option.none : Option Jvm.ClassFile.FieldType)).before args0 about1 = true := code_word (m := ⟨2, 0⟩) (meth := k2m0) (c := k2c0) (by decide +kernel) rfl rfl rfl (by decide +kernel)
set_option maxRecDepth 65536 in
theorem w_c3 : (Jvm.Cond.code ({ cls := "java/lang/Object", name := "<init>", desc := "()V" } : Jvm.MethodName) object_method_1_code (1 : Nat) (Option.none : Option Jvm.ClassFile.FieldType)).before args0 about1 = true := code_word (m := ⟨0, 0⟩) (meth := k0m0) (c := k0c0) (by decide +kernel) rfl rfl rfl (by decide +kernel)
set_option maxRecDepth 65536 in
theorem w_c4 : (Jvm.Cond.code ({ cls := "com/example/jadoube/jadoube/PositionTable", name := "<init>", desc := "(Lcom/example/jadoube/jadoube/Position;)V" } : Jvm.MethodName) prog_33_method_1_code (3 : Nat) (Option.none : Option Jvm.ClassFile.FieldType)).before args0 about1 = true := code_word (m := ⟨3, 0⟩) (meth := k3m0) (c := k3c0) (by decide +kernel) rfl rfl rfl (by decide +kernel)
set_option maxRecDepth 65536 in
theorem w_c5 : (Jvm.Cond.code ({ cls := "com/example/jadoube/jadoube/MoveGenerator", name := "<init>", desc := "()V" } : Jvm.MethodName) prog_22_method_1_code (1 : Nat) (Option.none : Option Jvm.ClassFile.FieldType)).before args0 about1 = true := code_word (m := ⟨4, 0⟩) (meth := k4m0) (c := k4c0) (by decide +kernel) rfl rfl rfl (by decide +kernel)
set_option maxRecDepth 65536 in
theorem w_c6 : (Jvm.Cond.code ({ cls := "com/example/jadoube/jadoube/Position", name := "colour", desc := "(I)J" } : Jvm.MethodName) prog_31_method_8_code (2 : Nat) (Option.some Jvm.ClassFile.FieldType.long)).before args0 about1 = true := code_word (m := ⟨2, 2⟩) (meth := k2m2) (c := k2c2) (by decide +kernel) rfl rfl rfl (by decide +kernel)
set_option maxRecDepth 65536 in
theorem w_c7 : (Jvm.Cond.code ({ cls := "java/lang/Long", name := "bitCount", desc := "(J)I" } : Jvm.MethodName) jdk_35_method_50_code (2 : Nat) (Option.some Jvm.ClassFile.FieldType.int)).before args0 about1 = true := code_word (m := ⟨10, 1⟩) (meth := k10m1) (c := k10c1) (by decide +kernel) rfl rfl rfl (by decide +kernel)
set_option maxRecDepth 65536 in
theorem w_c8 : (Jvm.Cond.code ({ cls := "com/example/jadoube/jadoube/Position", name := "castlingRooks", desc := "()J" } : Jvm.MethodName) prog_31_method_10_code (1 : Nat) (Option.some Jvm.ClassFile.FieldType.long)).before args0 about1 = true := code_word (m := ⟨2, 4⟩) (meth := k2m4) (c := k2c4) (by decide +kernel) rfl rfl rfl (by decide +kernel)
set_option maxRecDepth 65536 in
theorem w_c9 : (Jvm.Cond.code ({ cls := "com/example/jadoube/jadoube/Position", name := "isChess960", desc := "()Z" } : Jvm.MethodName) prog_31_method_5_code (1 : Nat) (Option.some Jvm.ClassFile.FieldType.boolean)).before args0 about1 = true := code_word (m := ⟨2, 1⟩) (meth := k2m1) (c := k2c1) (by decide +kernel) rfl rfl rfl (by decide +kernel)
set_option maxRecDepth 65536 in
theorem w_c10 : (Jvm.Cond.code ({ cls := "com/example/jadoube/jadoube/PositionTable", name := "add", desc := "(Lcom/example/jadoube/jadoube/Position;II)I" } : Jvm.MethodName) prog_33_method_4_code (6 : Nat) (Option.some Jvm.ClassFile.FieldType.int)).before args0 about1 = true := code_word (m := ⟨3, 1⟩) (meth := k3m1) (c := k3c1) (by decide +kernel) rfl rfl rfl (by decide +kernel)
set_option maxRecDepth 65536 in
theorem w_c11 : (Jvm.Cond.code ({ cls := "com/example/jadoube/jadoube/PositionTable", name := "encode", desc := "(Lcom/example/jadoube/jadoube/Position;[J)V" } : Jvm.MethodName) prog_33_method_7_code (13 : Nat) (Option.none : Option Jvm.ClassFile.FieldType)).before args0 about1 = true := code_word (m := ⟨3, 3⟩) (meth := k3m3) (c := k3c3) (by decide +kernel) rfl rfl rfl (by decide +kernel)
set_option maxRecDepth 65536 in
theorem w_c12 : (Jvm.Cond.code ({ cls := "java/util/Arrays", name := "fill", desc := "([JJ)V" } : Jvm.MethodName) jdk_65_method_101_code (5 : Nat) (Option.none : Option Jvm.ClassFile.FieldType)).before args0 about1 = true := code_word (m := ⟨11, 1⟩) (meth := k11m1) (c := k11c1) (by decide +kernel) rfl rfl rfl (by decide +kernel)
set_option maxRecDepth 65536 in
theorem w_c13 : (Jvm.Cond.code ({ cls := "java/lang/Long", name := "numberOfTrailingZeros", desc := "(J)I" } : Jvm.MethodName) jdk_35_method_49_code (3 : Nat) (Option.some Jvm.ClassFile.FieldType.int)).before args0 about1 = true := code_word (m := ⟨10, 0⟩) (meth := k10m0) (c := k10c0) (by decide +kernel) rfl rfl rfl (by decide +kernel)
set_option maxRecDepth 65536 in
theorem w_c14 : (Jvm.Cond.code ({ cls := "java/lang/Integer", name := "numberOfTrailingZeros", desc := "(I)I" } : Jvm.MethodName) jdk_33_method_48_code (2 : Nat) (Option.some Jvm.ClassFile.FieldType.int)).before args0 about1 = true := code_word (m := ⟨12, 0⟩) (meth := k12m0) (c := k12c0) (by decide +kernel) rfl rfl rfl (by decide +kernel)
set_option maxRecDepth 65536 in
theorem w_c15 : (Jvm.Cond.code ({ cls := "com/example/jadoube/jadoube/Position", name := "kindOn", desc := "(I)I" } : Jvm.MethodName) prog_31_method_19_code (5 : Nat) (Option.some Jvm.ClassFile.FieldType.int)).before args0 about1 = true := code_word (m := ⟨2, 8⟩) (meth := k2m8) (c := k2c8) (by decide +kernel) rfl rfl rfl (by decide +kernel)
set_option maxRecDepth 65536 in
theorem w_c16 : (Jvm.Cond.code ({ cls := "com/example/jadoube/jadoube/MoveGenerator", name := "canCaptureEnPassant", desc := "(Lcom/example/jadoube/jadoube/Position;)Z" } : Jvm.MethodName) prog_22_method_4_code (3 : Nat) (Option.some Jvm.ClassFile.FieldType.boolean)).before args0 about1 = true := code_word (m := ⟨4, 1⟩) (meth := k4m1) (c := k4c1) (by decide +kernel) rfl rfl rfl (by decide +kernel)
set_option maxRecDepth 65536 in
theorem w_c17 : (Jvm.Cond.code ({ cls := "com/example/jadoube/jadoube/Position", name := "sideToMove", desc := "()I" } : Jvm.MethodName) prog_31_method_9_code (1 : Nat) (Option.some Jvm.ClassFile.FieldType.int)).before args0 about1 = true := code_word (m := ⟨2, 3⟩) (meth := k2m3) (c := k2c3) (by decide +kernel) rfl rfl rfl (by decide +kernel)
set_option maxRecDepth 65536 in
theorem w_c18 : (Jvm.Cond.code ({ cls := "com/example/jadoube/jadoube/Position", name := "kingSquare", desc := "(I)I" } : Jvm.MethodName) prog_31_method_18_code (2 : Nat) (Option.some Jvm.ClassFile.FieldType.int)).before args0 about1 = true := code_word (m := ⟨2, 7⟩) (meth := k2m7) (c := k2c7) (by decide +kernel) rfl rfl rfl (by decide +kernel)
set_option maxRecDepth 65536 in
theorem w_c19 : (Jvm.Cond.code ({ cls := "com/example/jadoube/jadoube/MoveGenerator", name := "addEnPassant", desc := "(Lcom/example/jadoube/jadoube/Position;IIJ)V" } : Jvm.MethodName) prog_22_method_14_code (14 : Nat) (Option.none : Option Jvm.ClassFile.FieldType)).before args0 about1 = true := code_word (m := ⟨4, 2⟩) (meth := k4m2) (c := k4c2) (by decide +kernel) rfl rfl rfl (by decide +kernel)
set_option maxRecDepth 65536 in
theorem w_c20 : (Jvm.Cond.code ({ cls := "com/example/jadoube/jadoube/Position", name := "enPassant", desc := "()I" } : Jvm.MethodName) prog_31_method_12_code (1 : Nat) (Option.some Jvm.ClassFile.FieldType.int)).before args0 about1 = true := code_word (m := ⟨2, 6⟩) (meth := k2m6) (c := k2c6) (by decide +kernel) rfl rfl rfl (by decide +kernel)
set_option maxRecDepth 65536 in
theorem w_c21 : (Jvm.Cond.code ({ cls := "com/example/jadoube/jadoube/Position", name := "castlingRights", desc := "()I" } : Jvm.MethodName) prog_31_method_11_code (5 : Nat) (Option.some Jvm.ClassFile.FieldType.int)).before args0 about1 = true := code_word (m := ⟨2, 5⟩) (meth := k2m5) (c := k2c5) (by decide +kernel) rfl rfl rfl (by decide +kernel)
set_option maxRecDepth 65536 in
theorem w_c22 : (Jvm.Cond.code ({ cls := "com/example/jadoube/jadoube/PositionTable", name := "hash", desc := "([JI)I" } : Jvm.MethodName) prog_33_method_8_code (6 : Nat) (Option.some Jvm.ClassFile.FieldType.int)).before args0 about1 = true := code_word (m := ⟨3, 4⟩) (meth := k3m4) (c := k3c4) (by decide +kernel) rfl rfl rfl (by decide +kernel)
set_option maxRecDepth 65536 in
theorem w_c23 : (Jvm.Cond.code ({ cls := "com/example/jadoube/jadoube/PositionTable", name := "movesTo", desc := "(I)[I" } : Jvm.MethodName) prog_33_method_6_code (5 : Nat) (Option.some (Jvm.ClassFile.FieldType.array Jvm.ClassFile.FieldType.int))).before args0 about1 = true := code_word (m := ⟨3, 2⟩) (meth := k3m2) (c := k3c2) (by decide +kernel) rfl rfl rfl (by decide +kernel)
set_option maxRecDepth 65536 in
theorem w_c24 : (Jvm.Cond.code ({ cls := "com/example/jadoube/jadoube/PositionTableMovesToPinLaw", name := "same", desc := "([I[I)Z" } : Jvm.MethodName) method_4_code (2 : Nat) (Option.some Jvm.ClassFile.FieldType.boolean)).before args0 about1 = true := code_word (m := ⟨1, 3⟩) (meth := k1m3) (c := k1c3) (by decide +kernel) rfl rfl rfl (by decide +kernel)
def codes1 : List Jvm.Cond := [Jvm.Cond.code x code maxLocals ret, Jvm.Cond.code ({ cls := "com/example/jadoube/jadoube/PositionTableMovesToPinLaw", name := "king", desc := "(I)Lcom/example/jadoube/jadoube/Position;" } : Jvm.MethodName) method_3_code (3 : Nat) (Option.some (Jvm.ClassFile.FieldType.object "com/example/jadoube/jadoube/Position")), Jvm.Cond.code ({ cls := "com/example/jadoube/jadoube/Position", name := "<init>", desc := "([J[JIJIIIZ)V" } : Jvm.MethodName) prog_31_method_1_code (10 : Nat) (Option.none : Option Jvm.ClassFile.FieldType), Jvm.Cond.code ({ cls := "java/lang/Object", name := "<init>", desc := "()V" } : Jvm.MethodName) object_method_1_code (1 : Nat) (Option.none : Option Jvm.ClassFile.FieldType), Jvm.Cond.code ({ cls := "com/example/jadoube/jadoube/PositionTable", name := "<init>", desc := "(Lcom/example/jadoube/jadoube/Position;)V" } : Jvm.MethodName) prog_33_method_1_code (3 : Nat) (Option.none : Option Jvm.ClassFile.FieldType), Jvm.Cond.code ({ cls := "com/example/jadoube/jadoube/MoveGenerator", name := "<init>", desc := "()V" } : Jvm.MethodName) prog_22_method_1_code (1 : Nat) (Option.none : Option Jvm.ClassFile.FieldType), Jvm.Cond.code ({ cls := "com/example/jadoube/jadoube/Position", name := "colour", desc := "(I)J" } : Jvm.MethodName) prog_31_method_8_code (2 : Nat) (Option.some Jvm.ClassFile.FieldType.long), Jvm.Cond.code ({ cls := "java/lang/Long", name := "bitCount", desc := "(J)I" } : Jvm.MethodName) jdk_35_method_50_code (2 : Nat) (Option.some Jvm.ClassFile.FieldType.int), Jvm.Cond.code ({ cls := "com/example/jadoube/jadoube/Position", name := "castlingRooks", desc := "()J" } : Jvm.MethodName) prog_31_method_10_code (1 : Nat) (Option.some Jvm.ClassFile.FieldType.long), Jvm.Cond.code ({ cls := "com/example/jadoube/jadoube/Position", name := "isChess960", desc := "()Z" } : Jvm.MethodName) prog_31_method_5_code (1 : Nat) (Option.some Jvm.ClassFile.FieldType.boolean), Jvm.Cond.code ({ cls := "com/example/jadoube/jadoube/PositionTable", name := "add", desc := "(Lcom/example/jadoube/jadoube/Position;II)I" } : Jvm.MethodName) prog_33_method_4_code (6 : Nat) (Option.some Jvm.ClassFile.FieldType.int), Jvm.Cond.code ({ cls := "com/example/jadoube/jadoube/PositionTable", name := "encode", desc := "(Lcom/example/jadoube/jadoube/Position;[J)V" } : Jvm.MethodName) prog_33_method_7_code (13 : Nat) (Option.none : Option Jvm.ClassFile.FieldType), Jvm.Cond.code ({ cls := "java/util/Arrays", name := "fill", desc := "([JJ)V" } : Jvm.MethodName) jdk_65_method_101_code (5 : Nat) (Option.none : Option Jvm.ClassFile.FieldType), Jvm.Cond.code ({ cls := "java/lang/Long", name := "numberOfTrailingZeros", desc := "(J)I" } : Jvm.MethodName) jdk_35_method_49_code (3 : Nat) (Option.some Jvm.ClassFile.FieldType.int), Jvm.Cond.code ({ cls := "java/lang/Integer", name := "numberOfTrailingZeros", desc := "(I)I" } : Jvm.MethodName) jdk_33_method_48_code (2 : Nat) (Option.some Jvm.ClassFile.FieldType.int), Jvm.Cond.code ({ cls := "com/example/jadoube/jadoube/Position", name := "kindOn", desc := "(I)I" } : Jvm.MethodName) prog_31_method_19_code (5 : Nat) (Option.some Jvm.ClassFile.FieldType.int), Jvm.Cond.code ({ cls := "com/example/jadoube/jadoube/MoveGenerator", name := "canCaptureEnPassant", desc := "(Lcom/example/jadoube/jadoube/Position;)Z" } : Jvm.MethodName) prog_22_method_4_code (3 : Nat) (Option.some Jvm.ClassFile.FieldType.boolean), Jvm.Cond.code ({ cls := "com/example/jadoube/jadoube/Position", name := "sideToMove", desc := "()I" } : Jvm.MethodName) prog_31_method_9_code (1 : Nat) (Option.some Jvm.ClassFile.FieldType.int), Jvm.Cond.code ({ cls := "com/example/jadoube/jadoube/Position", name := "kingSquare", desc := "(I)I" } : Jvm.MethodName) prog_31_method_18_code (2 : Nat) (Option.some Jvm.ClassFile.FieldType.int), Jvm.Cond.code ({ cls := "com/example/jadoube/jadoube/MoveGenerator", name := "addEnPassant", desc := "(Lcom/example/jadoube/jadoube/Position;IIJ)V" } : Jvm.MethodName) prog_22_method_14_code (14 : Nat) (Option.none : Option Jvm.ClassFile.FieldType), Jvm.Cond.code ({ cls := "com/example/jadoube/jadoube/Position", name := "enPassant", desc := "()I" } : Jvm.MethodName) prog_31_method_12_code (1 : Nat) (Option.some Jvm.ClassFile.FieldType.int), Jvm.Cond.code ({ cls := "com/example/jadoube/jadoube/Position", name := "castlingRights", desc := "()I" } : Jvm.MethodName) prog_31_method_11_code (5 : Nat) (Option.some Jvm.ClassFile.FieldType.int), Jvm.Cond.code ({ cls := "com/example/jadoube/jadoube/PositionTable", name := "hash", desc := "([JI)I" } : Jvm.MethodName) prog_33_method_8_code (6 : Nat) (Option.some Jvm.ClassFile.FieldType.int), Jvm.Cond.code ({ cls := "com/example/jadoube/jadoube/PositionTable", name := "movesTo", desc := "(I)[I" } : Jvm.MethodName) prog_33_method_6_code (5 : Nat) (Option.some (Jvm.ClassFile.FieldType.array Jvm.ClassFile.FieldType.int)), Jvm.Cond.code ({ cls := "com/example/jadoube/jadoube/PositionTableMovesToPinLaw", name := "same", desc := "([I[I)Z" } : Jvm.MethodName) method_4_code (2 : Nat) (Option.some Jvm.ClassFile.FieldType.boolean)]
set_option maxRecDepth 65536 in
theorem codes_eq : words1.filter isCode = codes1 := rfl
theorem w_codes : ∀ c ∈ words1.filter isCode, c.before args0 about1 = true := by
  rw [codes_eq]
  intro c hc
  simp only [codes1, List.mem_cons, List.not_mem_nil, or_false] at hc
  rcases hc with rfl | rfl | rfl | rfl | rfl | rfl | rfl | rfl | rfl | rfl | rfl | rfl | rfl | rfl | rfl | rfl | rfl | rfl | rfl | rfl | rfl | rfl | rfl | rfl | rfl
  · exact w_c0
  · exact w_c1
  · exact w_c2
  · exact w_c3
  · exact w_c4
  · exact w_c5
  · exact w_c6
  · exact w_c7
  · exact w_c8
  · exact w_c9
  · exact w_c10
  · exact w_c11
  · exact w_c12
  · exact w_c13
  · exact w_c14
  · exact w_c15
  · exact w_c16
  · exact w_c17
  · exact w_c18
  · exact w_c19
  · exact w_c20
  · exact w_c21
  · exact w_c22
  · exact w_c23
  · exact w_c24
set_option maxRecDepth 65536 in
theorem w_t1 : (words1.take 24).all (fun c => isCode c || c.before args0 about1) = true := by decide +kernel
set_option maxRecDepth 65536 in
theorem w_t2 : ((words1.drop 24).take 24).all (fun c => isCode c || c.before args0 about1) = true := by decide +kernel
set_option maxRecDepth 65536 in
theorem w_t3 : (((words1.drop 24).drop 24).take 24).all (fun c => isCode c || c.before args0 about1) = true := by decide +kernel
set_option maxRecDepth 65536 in
theorem w_t4 : ((((words1.drop 24).drop 24).drop 24).take 24).all (fun c => isCode c || c.before args0 about1) = true := by decide +kernel
set_option maxRecDepth 65536 in
theorem w_t5 : (((((words1.drop 24).drop 24).drop 24).drop 24).take 24).all (fun c => isCode c || c.before args0 about1) = true := by decide +kernel
set_option maxRecDepth 65536 in
theorem w_t6 : ((((((words1.drop 24).drop 24).drop 24).drop 24).drop 24).take 24).all (fun c => isCode c || c.before args0 about1) = true := by decide +kernel
set_option maxRecDepth 65536 in
theorem w_t7 : (((((((words1.drop 24).drop 24).drop 24).drop 24).drop 24).drop 24).take 24).all (fun c => isCode c || c.before args0 about1) = true := by decide +kernel
set_option maxRecDepth 65536 in
theorem w_t8 : (((((((words1.drop 24).drop 24).drop 24).drop 24).drop 24).drop 24).drop 24).all (fun c => isCode c || c.before args0 about1) = true := by decide +kernel
theorem w_tables : (allAtoms (Jvm.Cond.code x code maxLocals ret :: tables_1)).before args0 about1 = true := by
  rw [allAtoms_all]
  show words1.all (fun c => c.before args0 about1) = true
  refine all_split ?_ w_codes
  rw [← List.take_append_drop 24 words1, List.all_append, w_t1, ← List.take_append_drop 24 (words1.drop 24), List.all_append, w_t2, ← List.take_append_drop 24 ((words1.drop 24).drop 24), List.all_append, w_t3, ← List.take_append_drop 24 (((words1.drop 24).drop 24).drop 24), List.all_append, w_t4, ← List.take_append_drop 24 ((((words1.drop 24).drop 24).drop 24).drop 24), List.all_append, w_t5, ← List.take_append_drop 24 (((((words1.drop 24).drop 24).drop 24).drop 24).drop 24), List.all_append, w_t6, ← List.take_append_drop 24 ((((((words1.drop 24).drop 24).drop 24).drop 24).drop 24).drop 24), List.all_append, w_t7, w_t8]
  rfl
set_option maxRecDepth 65536 in
theorem w_case : (Jvm.Cond.and given_1 narrow_1).before args0 about1 = true := by decide +kernel
theorem w_applies : (headSpec (Jvm.Cond.code x code maxLocals ret :: tables_1) room_1).applies x e0.platform about1 = true :=
  (Spec.applies_iff w_frames).mpr ⟨w_running, w_runnable, w_alone, w_named, w_hears, w_ripe, w_room, w_tables⟩
theorem atStart : AtStart classFile x code maxLocals ret World_1 tables_1 room_1 Calls_1 rest_1 Pre_1 launch0 p0 e0 about1 theMethod args0 below0 :=
  ⟨lists_1, trivial, launch0.admits_env _ _ _, launch0.least_env, fairChoices_fair.cas, fairChoices_fair.clock, w_frames, w_args, w_heap, w_applies, trivial, trivial, w_case⟩
end start1
theorem witness_1 : WitnessClaimed_1 := ⟨start1.p0, start1.e0, start1.about1, start1.theMethod, start1.args0, start1.below0, start1.atStart⟩
end Jvm.Pilot.@@N@@
