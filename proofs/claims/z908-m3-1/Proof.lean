import JvmDerived
import JvmDerived.Pilot.@@N@@Statement
import JvmDerived.Pilot.@@N@@Code
set_option linter.unusedVariables false
set_option linter.unusedSimpArgs false
namespace Jvm.Pilot.@@N@@
open Jvm Jvm.ClassFile Sem Op Lib Jvm.Free Jvm.Stand Jvm.LawKit Jvm.RoadKit Bundle Jvm.Pilot.@@N@@.Jvm.D
section Own
variable {p : Program} {l : Launch} {e : Env} {R : Room} {s : State} {m : MethodId} {args : Array Value} {below : List Frame} {meth : Method} {c : Code} {T : State} {locs : List Loc} {cells slots : Nat} {Z : State} {a0 : Array Value} {h : Heap} {P : State → Outcome → Prop} {pc pc' : Nat} {Ls Ls' : Array Slot} {st : List Value}
/-- from the state A the run comes to an end of which P speaks -/
def Dn (p : Program) (e : Env) (below : List Frame) (P : State → Outcome → Prop) (A : State) : Prop := ∃ s₂ o, Steps p.tables e below A s₂ ∧ P s₂ o
/-- the invocation has ended, returned, and Q holds of what it returned, the heap and the places written -/
def PQ (below : List Frame) (s : State) (Q : Option Value → Heap → List Loc → Prop) (k n : Nat) (s₂ : State) (o : Outcome) : Prop :=
  s₂.status = .running ∧ Ended s₂ below o ∧ ∃ v L, o = .returned v ∧ Q v s₂.heap L ∧ FrameEnd s o s₂ L k n
theorem go {A B : State} (w : ∀ t, Steps p.tables e below B t → Steps p.tables e below A t) (k : Dn p e below P B) : Dn p e below P A := by
  obtain ⟨s₂, o, h1, h2⟩ := k
  exact ⟨s₂, o, w _ h1, h2⟩
theorem goS {A B : State} (w : Steps p.tables e below A B) (k : Dn p e below P B) : Dn p e below P A := by
  obtain ⟨s₂, o, h1, h2⟩ := k
  exact ⟨s₂, o, w.trans h1, h2⟩
/-- a method's contract, at given arguments and a given heap -/
abbrev Ctr (l : Launch) (Z : State) (y : MethodName) (bytes : ByteArray) (maxL : Nat) (ret : Option FieldType) (ws : List Jvm.Cond) (R : Room) (as' : Array Value) (h0 : Heap) (Q : Option Value → Heap → List Loc → Prop) : Prop :=
  MetFree l y (head1 (Jvm.Cond.code y bytes maxL ret :: ws) R) (fun a U => a = as' ∧ Z.Warmed39 U.vm ∧ U.heap = h0) (fun _ _ _ _ _ => True) (fun _ U o U' => ∃ v L, o = .returned v ∧ Q v U'.heap L ∧ FrameEnd U o U' L R.cells R.slots)
theorem ctr_mk {y : MethodName} {bytes : ByteArray} {maxL : Nat} {ret : Option FieldType} {ws : List Jvm.Cond} {as' : Array Value} {h0 : Heap} {Q : Option Value → Heap → List Loc → Prop} {own mn : String} (hpl : plainFor y = true) (ho : y.cls = own) (hmn : y.name = mn)
    (body : ∀ (p : Program) (e : Env) (s : State) (m : MethodId) (below : List Frame) (meth : Method) (c : Code) (T : State), Stand p l e R s m as' below meth c T [] 0 0 → p.tables.exec = Jvm.exec → c.code = bytes → c.maxLocals = maxL → Z.Warmed39 s.vm → s.vm.findClass own = some m.cls → meth.name = mn → meth.sig.returnType = ret → meth.locks = false → T.heap = h0 →
      Dn p e below (PQ below s Q R.cells R.slots) (T.setTop (entryFrame m as' maxL))) : Ctr l Z y bytes maxL ret ws R as' h0 Q := by
  subst ho hmn
  refine MetFree.of_bodySF hpl hisR ?_
  intro p e s m args below meth c s₁ Bd hml hP hK
  obtain ⟨rfl, hZ, hh⟩ := hP
  have e0 : s₁.heap = h0 := by rw [← hh, Bd.state]; rfl
  obtain ⟨s₂, o, h1, h2, h3, h4⟩ := body p e s m below meth c s₁ (Stand.of_body Bd) Bd.exec Bd.bytes hml hZ (findClass_of_methodNamed Bd.named) (name_of_methodNamed Bd.named Bd.method).1 Bd.returns Bd.notSynchronized e0
  exact ⟨s₂, o, h1, h2, h3, h4⟩
theorem o_entry {g : JFrame} {as' : Array Value} {maxL : Nat} (q : entryFrame m as' maxL = g) (k : Dn p e below P (T.setTop g)) : Dn p e below P (T.setTop (entryFrame m as' maxL)) := q ▸ k
theorem fin_of {Q : Option Value → Heap → List Loc → Prop} {k n : Nat} {v : Option Value} {A : State} (X : Stand p l e R s m args below meth c T locs cells slots) (hlk : meth.locks = false) (hv : meth.sig.returnType = none → v = none) (hc : cells ≤ k) (hs : slots ≤ n) (hQ : Q v T.heap locs)
    (w : ∀ fs, (∀ (f : JFrame) (acts : List Action), f.method = m → f.locked = none → f.entered = [] → (doReturn e (T.setTop f) acts v).1 = T.setFrames fs) → Steps p.tables e below A (T.setFrames fs)) : Dn p e below (PQ below s Q k n) A := by
  obtain ⟨fs, hr, hrun, hended, hW, hsame⟩ := X.leave (v := v) hv hlk
  exact ⟨_, _, w fs hr, hrun, hended, _, _, rfl, hQ, ⟨_, rfl⟩, hW, hsame.mono hc hs⟩
theorem finI {Q : Option Value → Heap → List Loc → Prop} {k n : Nat} (X : Stand p l e R s m args below meth c T locs cells slots) (hx : p.tables.exec = Jvm.exec) (hlk : meth.locks = false) {z : Int32} (hret : meth.sig.returnType = some .int) (hd : decode c.code pc = .ok (.ireturn, 1)) (hc : cells ≤ k) (hs : slots ≤ n) (hQ : Q (some (.int z)) T.heap locs) :
    Dn p e below (PQ below s Q k n) (T.setTop (mkF m pc Ls (.int z :: st))) :=
  fin_of X hlk (fun q => by rw [hret] at q; cases q) hc hs hQ (fun fs hr => retOut X hx hret rfl (Or.inl ⟨rfl, Or.inl rfl, _, rfl⟩) hd hr)
theorem finN {Q : Option Value → Heap → List Loc → Prop} {k n : Nat} (X : Stand p l e R s m args below meth c T locs cells slots) (hx : p.tables.exec = Jvm.exec) (hlk : meth.locks = false) {z : Int32} {t : FieldType} (hret : meth.sig.returnType = some t) (ht : t = .boolean ∨ t = .byte ∨ t = .char ∨ t = .short) (hd : decode c.code pc = .ok (.ireturn, 1)) (hc : cells ≤ k) (hs : slots ≤ n) (hQ : Q (some (.int (nar t z))) T.heap locs) :
    Dn p e below (PQ below s Q k n) (T.setTop (mkF m pc Ls (.int z :: st))) :=
  fin_of X hlk (fun q => by rw [hret] at q; cases q) hc hs hQ (fun fs hr => retN X hx hret ht hd hr)
theorem finJ {Q : Option Value → Heap → List Loc → Prop} {k n : Nat} (X : Stand p l e R s m args below meth c T locs cells slots) (hx : p.tables.exec = Jvm.exec) (hlk : meth.locks = false) {z : Int64} (hret : meth.sig.returnType = some .long) (hd : decode c.code pc = .ok (.lreturn, 1)) (hc : cells ≤ k) (hs : slots ≤ n) (hQ : Q (some (.long z)) T.heap locs) :
    Dn p e below (PQ below s Q k n) (T.setTop (mkF m pc Ls (.long z :: st))) :=
  fin_of X hlk (fun q => by rw [hret] at q; cases q) hc hs hQ (fun fs hr => retOut X hx hret rfl (Or.inr (Or.inl ⟨rfl, rfl, _, rfl⟩)) hd hr)
theorem finA {Q : Option Value → Heap → List Loc → Prop} {k n : Nat} (X : Stand p l e R s m args below meth c T locs cells slots) (hx : p.tables.exec = Jvm.exec) (hlk : meth.locks = false) {w : Value} {t : FieldType} (hw : w.isRef = true) (hret : meth.sig.returnType = some t) (ht : t.isReference = true) (hn : narrow t w = w) (hd : decode c.code pc = .ok (.areturn, 1)) (hc : cells ≤ k) (hs : slots ≤ n) (hQ : Q (some w) T.heap locs) :
    Dn p e below (PQ below s Q k n) (T.setTop (mkF m pc Ls (w :: st))) :=
  fin_of X hlk (fun q => by rw [hret] at q; cases q) hc hs hQ (fun fs hr => retOut X hx hret hn (Or.inr (Or.inr (Or.inr (Or.inr ⟨rfl, ht, hw⟩)))) hd hr)
theorem finV {Q : Option Value → Heap → List Loc → Prop} {k n : Nat} (X : Stand p l e R s m args below meth c T locs cells slots) (hx : p.tables.exec = Jvm.exec) (hlk : meth.locks = false) (hret : meth.sig.returnType = none) (hd : decode c.code pc = .ok (.return_, 1)) (hc : cells ≤ k) (hs : slots ≤ n) (hQ : Q none T.heap locs) :
    Dn p e below (PQ below s Q k n) (T.setTop (mkF m pc Ls [])) :=
  fin_of X hlk (fun _ => rfl) hc hs hQ (fun fs hr => X.returnOut hx hret hd hr)
theorem o_iload (X : Stand p l e R s m args below meth c T locs cells slots) (hx : p.tables.exec = Jvm.exec) {k : Nat} {v : Int32} (hd : decode c.code pc = .ok (.iload k, 2)) (hp : pc + 2 = pc') (hl : Ls[k]? = some (.val (.int v))) (K : Dn p e below P (T.setTop (mkF m pc' Ls (.int v :: st)))) : Dn p e below P (T.setTop (mkF m pc Ls st)) := by
  subst hp
  obtain ⟨s₂, o, h1, h2⟩ := K
  exact ⟨s₂, o, XS.iload X.here hx rfl hd hl h1, h2⟩
theorem o_iloadN (X : Stand p l e R s m args below meth c T locs cells slots) (hx : p.tables.exec = Jvm.exec) {k : Fin 4} {v : Int32} (hd : decode c.code pc = .ok (.iload_n k, 1)) (hp : pc + 1 = pc') (hl : Ls[k.val]? = some (.val (.int v))) (K : Dn p e below P (T.setTop (mkF m pc' Ls (.int v :: st)))) : Dn p e below P (T.setTop (mkF m pc Ls st)) := by
  subst hp
  obtain ⟨s₂, o, h1, h2⟩ := K
  exact ⟨s₂, o, XS.iloadN X.here hx rfl hd hl h1, h2⟩
theorem o_istore (X : Stand p l e R s m args below meth c T locs cells slots) (hx : p.tables.exec = Jvm.exec) {k : Nat} {v : Int32} (hd : decode c.code pc = .ok (.istore k, 2)) (hp : pc + 2 = pc') (hl : storeLocals Ls k (.int v) = some Ls') (K : Dn p e below P (T.setTop (mkF m pc' Ls' st))) : Dn p e below P (T.setTop (mkF m pc Ls (.int v :: st))) := by
  subst hp
  obtain ⟨s₂, o, h1, h2⟩ := K
  exact ⟨s₂, o, XS.istore X.here hx rfl hd rfl hl h1, h2⟩
theorem o_istoreN (X : Stand p l e R s m args below meth c T locs cells slots) (hx : p.tables.exec = Jvm.exec) {k : Fin 4} {v : Int32} (hd : decode c.code pc = .ok (.istore_n k, 1)) (hp : pc + 1 = pc') (hl : storeLocals Ls k.val (.int v) = some Ls') (K : Dn p e below P (T.setTop (mkF m pc' Ls' st))) : Dn p e below P (T.setTop (mkF m pc Ls (.int v :: st))) := by
  subst hp
  obtain ⟨s₂, o, h1, h2⟩ := K
  exact ⟨s₂, o, XS.istoreN X.here hx rfl hd rfl hl h1, h2⟩
theorem o_lload (X : Stand p l e R s m args below meth c T locs cells slots) (hx : p.tables.exec = Jvm.exec) {k : Nat} {v : Int64} (hd : decode c.code pc = .ok (.lload k, 2)) (hp : pc + 2 = pc') (hl : Ls[k]? = some (.val (.long v))) (K : Dn p e below P (T.setTop (mkF m pc' Ls (.long v :: st)))) : Dn p e below P (T.setTop (mkF m pc Ls st)) := by
  subst hp
  obtain ⟨s₂, o, h1, h2⟩ := K
  exact ⟨s₂, o, XS.lload X.here hx rfl hd hl h1, h2⟩
theorem o_lloadN (X : Stand p l e R s m args below meth c T locs cells slots) (hx : p.tables.exec = Jvm.exec) {k : Fin 4} {v : Int64} (hd : decode c.code pc = .ok (.lload_n k, 1)) (hp : pc + 1 = pc') (hl : Ls[k.val]? = some (.val (.long v))) (K : Dn p e below P (T.setTop (mkF m pc' Ls (.long v :: st)))) : Dn p e below P (T.setTop (mkF m pc Ls st)) := by
  subst hp
  obtain ⟨s₂, o, h1, h2⟩ := K
  exact ⟨s₂, o, XS.lloadN X.here hx rfl hd hl h1, h2⟩
theorem o_lstore (X : Stand p l e R s m args below meth c T locs cells slots) (hx : p.tables.exec = Jvm.exec) {k : Nat} {v : Int64} (hd : decode c.code pc = .ok (.lstore k, 2)) (hp : pc + 2 = pc') (hl : storeLocals Ls k (.long v) = some Ls') (K : Dn p e below P (T.setTop (mkF m pc' Ls' st))) : Dn p e below P (T.setTop (mkF m pc Ls (.long v :: st))) := by
  subst hp
  obtain ⟨s₂, o, h1, h2⟩ := K
  exact ⟨s₂, o, XS.lstore X.here hx rfl hd rfl hl h1, h2⟩
theorem o_lstoreN (X : Stand p l e R s m args below meth c T locs cells slots) (hx : p.tables.exec = Jvm.exec) {k : Fin 4} {v : Int64} (hd : decode c.code pc = .ok (.lstore_n k, 1)) (hp : pc + 1 = pc') (hl : storeLocals Ls k.val (.long v) = some Ls') (K : Dn p e below P (T.setTop (mkF m pc' Ls' st))) : Dn p e below P (T.setTop (mkF m pc Ls (.long v :: st))) := by
  subst hp
  obtain ⟨s₂, o, h1, h2⟩ := K
  exact ⟨s₂, o, XS.lstoreN X.here hx rfl hd rfl hl h1, h2⟩
theorem o_aload (X : Stand p l e R s m args below meth c T locs cells slots) (hx : p.tables.exec = Jvm.exec) {k : Nat} {v : Value} (hd : decode c.code pc = .ok (.aload k, 2)) (hp : pc + 2 = pc') (hl : Ls[k]? = some (.val v)) (hv : v.isRef = true) (K : Dn p e below P (T.setTop (mkF m pc' Ls (v :: st)))) : Dn p e below P (T.setTop (mkF m pc Ls st)) := by
  subst hp
  obtain ⟨s₂, o, h1, h2⟩ := K
  exact ⟨s₂, o, XS.aload X.here hx rfl hd hl hv h1, h2⟩
theorem o_aloadN (X : Stand p l e R s m args below meth c T locs cells slots) (hx : p.tables.exec = Jvm.exec) {k : Fin 4} {v : Value} (hd : decode c.code pc = .ok (.aload_n k, 1)) (hp : pc + 1 = pc') (hl : Ls[k.val]? = some (.val v)) (hv : v.isRef = true) (K : Dn p e below P (T.setTop (mkF m pc' Ls (v :: st)))) : Dn p e below P (T.setTop (mkF m pc Ls st)) := by
  subst hp
  obtain ⟨s₂, o, h1, h2⟩ := K
  exact ⟨s₂, o, XS.aloadN X.here hx rfl hd hl hv h1, h2⟩
theorem o_astore (X : Stand p l e R s m args below meth c T locs cells slots) (hx : p.tables.exec = Jvm.exec) {k : Nat} {v : Value} (hd : decode c.code pc = .ok (.astore k, 2)) (hp : pc + 2 = pc') (hv : v.isRef = true) (hl : storeLocals Ls k v = some Ls') (K : Dn p e below P (T.setTop (mkF m pc' Ls' st))) : Dn p e below P (T.setTop (mkF m pc Ls (v :: st))) := by
  subst hp
  obtain ⟨s₂, o, h1, h2⟩ := K
  exact ⟨s₂, o, XS.astore X.here hx rfl hd rfl hv hl h1, h2⟩
theorem o_astoreN (X : Stand p l e R s m args below meth c T locs cells slots) (hx : p.tables.exec = Jvm.exec) {k : Fin 4} {v : Value} (hd : decode c.code pc = .ok (.astore_n k, 1)) (hp : pc + 1 = pc') (hv : v.isRef = true) (hl : storeLocals Ls k.val v = some Ls') (K : Dn p e below P (T.setTop (mkF m pc' Ls' st))) : Dn p e below P (T.setTop (mkF m pc Ls (v :: st))) := by
  subst hp
  obtain ⟨s₂, o, h1, h2⟩ := K
  exact ⟨s₂, o, XS.astoreN X.here hx rfl hd rfl hv hl h1, h2⟩
theorem o_iconst (X : Stand p l e R s m args below meth c T locs cells slots) (hx : p.tables.exec = Jvm.exec) {i : Int} {v : Int32} (hd : decode c.code pc = .ok (.iconst i, 1)) (hp : pc + 1 = pc') (hv : Int32.ofInt i = v) (K : Dn p e below P (T.setTop (mkF m pc' Ls (.int v :: st)))) : Dn p e below P (T.setTop (mkF m pc Ls st)) := by
  subst hp hv
  obtain ⟨s₂, o, h1, h2⟩ := K
  exact ⟨s₂, o, XS.iconst X.here hx rfl hd h1, h2⟩
theorem o_bipush (X : Stand p l e R s m args below meth c T locs cells slots) (hx : p.tables.exec = Jvm.exec) {i : Int} {v : Int32} (hd : decode c.code pc = .ok (.bipush i, 2)) (hp : pc + 2 = pc') (hv : (Int8.ofInt i).toInt32 = v) (K : Dn p e below P (T.setTop (mkF m pc' Ls (.int v :: st)))) : Dn p e below P (T.setTop (mkF m pc Ls st)) := by
  subst hp hv
  obtain ⟨s₂, o, h1, h2⟩ := K
  exact ⟨s₂, o, XS.bipush X.here hx rfl hd h1, h2⟩
theorem o_sipush (X : Stand p l e R s m args below meth c T locs cells slots) (hx : p.tables.exec = Jvm.exec) {i : Int} {v : Int32} (hd : decode c.code pc = .ok (.sipush i, 3)) (hp : pc + 3 = pc') (hv : (Int16.ofInt i).toInt32 = v) (K : Dn p e below P (T.setTop (mkF m pc' Ls (.int v :: st)))) : Dn p e below P (T.setTop (mkF m pc Ls st)) := by
  subst hp hv
  obtain ⟨s₂, o, h1, h2⟩ := K
  exact ⟨s₂, o, XS.sipush X.here hx rfl hd h1, h2⟩
theorem o_lconst (X : Stand p l e R s m args below meth c T locs cells slots) (hx : p.tables.exec = Jvm.exec) {k : Fin 2} {v : Int64} (hd : decode c.code pc = .ok (.lconst k, 1)) (hp : pc + 1 = pc') (hv : Int64.ofNat k = v) (K : Dn p e below P (T.setTop (mkF m pc' Ls (.long v :: st)))) : Dn p e below P (T.setTop (mkF m pc Ls st)) := by
  subst hp hv
  obtain ⟨s₂, o, h1, h2⟩ := K
  exact ⟨s₂, o, XS.lconst X.here hx rfl hd h1, h2⟩
theorem o_aconstNull (X : Stand p l e R s m args below meth c T locs cells slots) (hx : p.tables.exec = Jvm.exec)  (hd : decode c.code pc = .ok (.aconst_null, 1)) (hp : pc + 1 = pc')  (K : Dn p e below P (T.setTop (mkF m pc' Ls (.null :: st)))) : Dn p e below P (T.setTop (mkF m pc Ls st)) := by
  subst hp
  obtain ⟨s₂, o, h1, h2⟩ := K
  exact ⟨s₂, o, XS.aconstNull X.here hx rfl hd  h1, h2⟩
theorem o_iadd (X : Stand p l e R s m args below meth c T locs cells slots) (hx : p.tables.exec = Jvm.exec) {x y : Int32} (hd : decode c.code pc = .ok (.iadd, 1)) (hp : pc + 1 = pc')  (K : Dn p e below P (T.setTop (mkF m pc' Ls (.int (x + y) :: st)))) : Dn p e below P (T.setTop (mkF m pc Ls (.int y :: .int x :: st))) := by
  subst hp
  obtain ⟨s₂, o, h1, h2⟩ := K
  exact ⟨s₂, o, XS.iadd X.here hx rfl hd rfl h1, h2⟩
theorem o_isub (X : Stand p l e R s m args below meth c T locs cells slots) (hx : p.tables.exec = Jvm.exec) {x y : Int32} (hd : decode c.code pc = .ok (.isub, 1)) (hp : pc + 1 = pc')  (K : Dn p e below P (T.setTop (mkF m pc' Ls (.int (x - y) :: st)))) : Dn p e below P (T.setTop (mkF m pc Ls (.int y :: .int x :: st))) := by
  subst hp
  obtain ⟨s₂, o, h1, h2⟩ := K
  exact ⟨s₂, o, XS.isub X.here hx rfl hd rfl h1, h2⟩
theorem o_imul (X : Stand p l e R s m args below meth c T locs cells slots) (hx : p.tables.exec = Jvm.exec) {x y : Int32} (hd : decode c.code pc = .ok (.imul, 1)) (hp : pc + 1 = pc')  (K : Dn p e below P (T.setTop (mkF m pc' Ls (.int (x * y) :: st)))) : Dn p e below P (T.setTop (mkF m pc Ls (.int y :: .int x :: st))) := by
  subst hp
  obtain ⟨s₂, o, h1, h2⟩ := K
  exact ⟨s₂, o, XS.imul X.here hx rfl hd rfl h1, h2⟩
theorem o_iand (X : Stand p l e R s m args below meth c T locs cells slots) (hx : p.tables.exec = Jvm.exec) {x y : Int32} (hd : decode c.code pc = .ok (.iand, 1)) (hp : pc + 1 = pc')  (K : Dn p e below P (T.setTop (mkF m pc' Ls (.int (x &&& y) :: st)))) : Dn p e below P (T.setTop (mkF m pc Ls (.int y :: .int x :: st))) := by
  subst hp
  obtain ⟨s₂, o, h1, h2⟩ := K
  exact ⟨s₂, o, XS.iand X.here hx rfl hd rfl h1, h2⟩
theorem o_ior (X : Stand p l e R s m args below meth c T locs cells slots) (hx : p.tables.exec = Jvm.exec) {x y : Int32} (hd : decode c.code pc = .ok (.ior, 1)) (hp : pc + 1 = pc')  (K : Dn p e below P (T.setTop (mkF m pc' Ls (.int (x ||| y) :: st)))) : Dn p e below P (T.setTop (mkF m pc Ls (.int y :: .int x :: st))) := by
  subst hp
  obtain ⟨s₂, o, h1, h2⟩ := K
  exact ⟨s₂, o, XS.ior X.here hx rfl hd rfl h1, h2⟩
theorem o_ixor (X : Stand p l e R s m args below meth c T locs cells slots) (hx : p.tables.exec = Jvm.exec) {x y : Int32} (hd : decode c.code pc = .ok (.ixor, 1)) (hp : pc + 1 = pc')  (K : Dn p e below P (T.setTop (mkF m pc' Ls (.int (x ^^^ y) :: st)))) : Dn p e below P (T.setTop (mkF m pc Ls (.int y :: .int x :: st))) := by
  subst hp
  obtain ⟨s₂, o, h1, h2⟩ := K
  exact ⟨s₂, o, XS.ixor X.here hx rfl hd rfl h1, h2⟩
theorem o_ladd (X : Stand p l e R s m args below meth c T locs cells slots) (hx : p.tables.exec = Jvm.exec) {x y : Int64} (hd : decode c.code pc = .ok (.ladd, 1)) (hp : pc + 1 = pc')  (K : Dn p e below P (T.setTop (mkF m pc' Ls (.long (x + y) :: st)))) : Dn p e below P (T.setTop (mkF m pc Ls (.long y :: .long x :: st))) := by
  subst hp
  obtain ⟨s₂, o, h1, h2⟩ := K
  exact ⟨s₂, o, XS.ladd X.here hx rfl hd rfl h1, h2⟩
theorem o_lsub (X : Stand p l e R s m args below meth c T locs cells slots) (hx : p.tables.exec = Jvm.exec) {x y : Int64} (hd : decode c.code pc = .ok (.lsub, 1)) (hp : pc + 1 = pc')  (K : Dn p e below P (T.setTop (mkF m pc' Ls (.long (x - y) :: st)))) : Dn p e below P (T.setTop (mkF m pc Ls (.long y :: .long x :: st))) := by
  subst hp
  obtain ⟨s₂, o, h1, h2⟩ := K
  exact ⟨s₂, o, XS.lsub X.here hx rfl hd rfl h1, h2⟩
theorem o_lmul (X : Stand p l e R s m args below meth c T locs cells slots) (hx : p.tables.exec = Jvm.exec) {x y : Int64} (hd : decode c.code pc = .ok (.lmul, 1)) (hp : pc + 1 = pc')  (K : Dn p e below P (T.setTop (mkF m pc' Ls (.long (x * y) :: st)))) : Dn p e below P (T.setTop (mkF m pc Ls (.long y :: .long x :: st))) := by
  subst hp
  obtain ⟨s₂, o, h1, h2⟩ := K
  exact ⟨s₂, o, XS.lmul X.here hx rfl hd rfl h1, h2⟩
theorem o_land (X : Stand p l e R s m args below meth c T locs cells slots) (hx : p.tables.exec = Jvm.exec) {x y : Int64} (hd : decode c.code pc = .ok (.land, 1)) (hp : pc + 1 = pc')  (K : Dn p e below P (T.setTop (mkF m pc' Ls (.long (x &&& y) :: st)))) : Dn p e below P (T.setTop (mkF m pc Ls (.long y :: .long x :: st))) := by
  subst hp
  obtain ⟨s₂, o, h1, h2⟩ := K
  exact ⟨s₂, o, XS.land X.here hx rfl hd rfl h1, h2⟩
theorem o_lor (X : Stand p l e R s m args below meth c T locs cells slots) (hx : p.tables.exec = Jvm.exec) {x y : Int64} (hd : decode c.code pc = .ok (.lor, 1)) (hp : pc + 1 = pc')  (K : Dn p e below P (T.setTop (mkF m pc' Ls (.long (x ||| y) :: st)))) : Dn p e below P (T.setTop (mkF m pc Ls (.long y :: .long x :: st))) := by
  subst hp
  obtain ⟨s₂, o, h1, h2⟩ := K
  exact ⟨s₂, o, XS.lor X.here hx rfl hd rfl h1, h2⟩
theorem o_lxor (X : Stand p l e R s m args below meth c T locs cells slots) (hx : p.tables.exec = Jvm.exec) {x y : Int64} (hd : decode c.code pc = .ok (.lxor, 1)) (hp : pc + 1 = pc')  (K : Dn p e below P (T.setTop (mkF m pc' Ls (.long (x ^^^ y) :: st)))) : Dn p e below P (T.setTop (mkF m pc Ls (.long y :: .long x :: st))) := by
  subst hp
  obtain ⟨s₂, o, h1, h2⟩ := K
  exact ⟨s₂, o, XS.lxor X.here hx rfl hd rfl h1, h2⟩
theorem o_ishl (X : Stand p l e R s m args below meth c T locs cells slots) (hx : p.tables.exec = Jvm.exec) {x : Int32} {y : Int32} (hd : decode c.code pc = .ok (.ishl, 1)) (hp : pc + 1 = pc')  (K : Dn p e below P (T.setTop (mkF m pc' Ls (.int (x <<< (y &&& 31)) :: st)))) : Dn p e below P (T.setTop (mkF m pc Ls (.int y :: .int x :: st))) := by
  subst hp
  obtain ⟨s₂, o, h1, h2⟩ := K
  exact ⟨s₂, o, XS.ishl X.here hx rfl hd rfl h1, h2⟩
theorem o_ishr (X : Stand p l e R s m args below meth c T locs cells slots) (hx : p.tables.exec = Jvm.exec) {x : Int32} {y : Int32} (hd : decode c.code pc = .ok (.ishr, 1)) (hp : pc + 1 = pc')  (K : Dn p e below P (T.setTop (mkF m pc' Ls (.int (x >>> (y &&& 31)) :: st)))) : Dn p e below P (T.setTop (mkF m pc Ls (.int y :: .int x :: st))) := by
  subst hp
  obtain ⟨s₂, o, h1, h2⟩ := K
  exact ⟨s₂, o, XS.ishr X.here hx rfl hd rfl h1, h2⟩
theorem o_iushr (X : Stand p l e R s m args below meth c T locs cells slots) (hx : p.tables.exec = Jvm.exec) {x : Int32} {y : Int32} (hd : decode c.code pc = .ok (.iushr, 1)) (hp : pc + 1 = pc')  (K : Dn p e below P (T.setTop (mkF m pc' Ls (.int ((x.toUInt32 >>> (y &&& 31).toUInt32).toInt32) :: st)))) : Dn p e below P (T.setTop (mkF m pc Ls (.int y :: .int x :: st))) := by
  subst hp
  obtain ⟨s₂, o, h1, h2⟩ := K
  exact ⟨s₂, o, XS.iushr X.here hx rfl hd rfl h1, h2⟩
theorem o_lshl (X : Stand p l e R s m args below meth c T locs cells slots) (hx : p.tables.exec = Jvm.exec) {x : Int64} {y : Int32} (hd : decode c.code pc = .ok (.lshl, 1)) (hp : pc + 1 = pc')  (K : Dn p e below P (T.setTop (mkF m pc' Ls (.long (x <<< (y &&& 0x3f).toInt64) :: st)))) : Dn p e below P (T.setTop (mkF m pc Ls (.int y :: .long x :: st))) := by
  subst hp
  obtain ⟨s₂, o, h1, h2⟩ := K
  exact ⟨s₂, o, XS.lshl X.here hx rfl hd rfl h1, h2⟩
theorem o_lshr (X : Stand p l e R s m args below meth c T locs cells slots) (hx : p.tables.exec = Jvm.exec) {x : Int64} {y : Int32} (hd : decode c.code pc = .ok (.lshr, 1)) (hp : pc + 1 = pc')  (K : Dn p e below P (T.setTop (mkF m pc' Ls (.long (x >>> (y &&& 0x3f).toInt64) :: st)))) : Dn p e below P (T.setTop (mkF m pc Ls (.int y :: .long x :: st))) := by
  subst hp
  obtain ⟨s₂, o, h1, h2⟩ := K
  exact ⟨s₂, o, XS.lshr X.here hx rfl hd rfl h1, h2⟩
theorem o_lushr (X : Stand p l e R s m args below meth c T locs cells slots) (hx : p.tables.exec = Jvm.exec) {x : Int64} {y : Int32} (hd : decode c.code pc = .ok (.lushr, 1)) (hp : pc + 1 = pc')  (K : Dn p e below P (T.setTop (mkF m pc' Ls (.long ((x.toUInt64 >>> (y &&& 0x3f).toInt64.toUInt64).toInt64) :: st)))) : Dn p e below P (T.setTop (mkF m pc Ls (.int y :: .long x :: st))) := by
  subst hp
  obtain ⟨s₂, o, h1, h2⟩ := K
  exact ⟨s₂, o, XS.lushr X.here hx rfl hd rfl h1, h2⟩
theorem o_ineg (X : Stand p l e R s m args below meth c T locs cells slots) (hx : p.tables.exec = Jvm.exec) {x : Int32} (hd : decode c.code pc = .ok (.ineg, 1)) (hp : pc + 1 = pc')  (K : Dn p e below P (T.setTop (mkF m pc' Ls (.int (-x) :: st)))) : Dn p e below P (T.setTop (mkF m pc Ls (.int x :: st))) := by
  subst hp
  obtain ⟨s₂, o, h1, h2⟩ := K
  exact ⟨s₂, o, XS.ineg X.here hx rfl hd rfl h1, h2⟩
theorem o_lneg (X : Stand p l e R s m args below meth c T locs cells slots) (hx : p.tables.exec = Jvm.exec) {x : Int64} (hd : decode c.code pc = .ok (.lneg, 1)) (hp : pc + 1 = pc')  (K : Dn p e below P (T.setTop (mkF m pc' Ls (.long (-x) :: st)))) : Dn p e below P (T.setTop (mkF m pc Ls (.long x :: st))) := by
  subst hp
  obtain ⟨s₂, o, h1, h2⟩ := K
  exact ⟨s₂, o, XS.lneg X.here hx rfl hd rfl h1, h2⟩
theorem o_i2l (X : Stand p l e R s m args below meth c T locs cells slots) (hx : p.tables.exec = Jvm.exec) {x : Int32} (hd : decode c.code pc = .ok (.i2l, 1)) (hp : pc + 1 = pc')  (K : Dn p e below P (T.setTop (mkF m pc' Ls (.long (x.toInt64) :: st)))) : Dn p e below P (T.setTop (mkF m pc Ls (.int x :: st))) := by
  subst hp
  obtain ⟨s₂, o, h1, h2⟩ := K
  exact ⟨s₂, o, XS.i2l X.here hx rfl hd rfl h1, h2⟩
theorem o_l2i (X : Stand p l e R s m args below meth c T locs cells slots) (hx : p.tables.exec = Jvm.exec) {x : Int64} (hd : decode c.code pc = .ok (.l2i, 1)) (hp : pc + 1 = pc')  (K : Dn p e below P (T.setTop (mkF m pc' Ls (.int (x.toInt32) :: st)))) : Dn p e below P (T.setTop (mkF m pc Ls (.long x :: st))) := by
  subst hp
  obtain ⟨s₂, o, h1, h2⟩ := K
  exact ⟨s₂, o, XS.l2i X.here hx rfl hd rfl h1, h2⟩
theorem o_i2b (X : Stand p l e R s m args below meth c T locs cells slots) (hx : p.tables.exec = Jvm.exec) {x : Int32} (hd : decode c.code pc = .ok (.i2b, 1)) (hp : pc + 1 = pc')  (K : Dn p e below P (T.setTop (mkF m pc' Ls (.int (x.toInt8.toInt32) :: st)))) : Dn p e below P (T.setTop (mkF m pc Ls (.int x :: st))) := by
  subst hp
  obtain ⟨s₂, o, h1, h2⟩ := K
  exact ⟨s₂, o, XS.i2b X.here hx rfl hd rfl h1, h2⟩
theorem o_i2s (X : Stand p l e R s m args below meth c T locs cells slots) (hx : p.tables.exec = Jvm.exec) {x : Int32} (hd : decode c.code pc = .ok (.i2s, 1)) (hp : pc + 1 = pc')  (K : Dn p e below P (T.setTop (mkF m pc' Ls (.int (x.toInt16.toInt32) :: st)))) : Dn p e below P (T.setTop (mkF m pc Ls (.int x :: st))) := by
  subst hp
  obtain ⟨s₂, o, h1, h2⟩ := K
  exact ⟨s₂, o, XS.i2s X.here hx rfl hd rfl h1, h2⟩
theorem o_i2c (X : Stand p l e R s m args below meth c T locs cells slots) (hx : p.tables.exec = Jvm.exec) {x : Int32} (hd : decode c.code pc = .ok (.i2c, 1)) (hp : pc + 1 = pc')  (K : Dn p e below P (T.setTop (mkF m pc' Ls (.int (x.toUInt32.toUInt16.toUInt32.toInt32) :: st)))) : Dn p e below P (T.setTop (mkF m pc Ls (.int x :: st))) := by
  subst hp
  obtain ⟨s₂, o, h1, h2⟩ := K
  exact ⟨s₂, o, XS.i2c X.here hx rfl hd rfl h1, h2⟩
theorem o_idiv (X : Stand p l e R s m args below meth c T locs cells slots) (hx : p.tables.exec = Jvm.exec) {x y : Int32} (hd : decode c.code pc = .ok (.idiv, 1)) (hp : pc + 1 = pc') (hy : y ≠ 0) (K : Dn p e below P (T.setTop (mkF m pc' Ls (.int (x / y) :: st)))) : Dn p e below P (T.setTop (mkF m pc Ls (.int y :: .int x :: st))) := by
  subst hp
  obtain ⟨s₂, o, h1, h2⟩ := K
  exact ⟨s₂, o, XS.idiv X.here hx rfl hd rfl hy h1, h2⟩
theorem o_ldiv (X : Stand p l e R s m args below meth c T locs cells slots) (hx : p.tables.exec = Jvm.exec) {x y : Int64} (hd : decode c.code pc = .ok (.ldiv, 1)) (hp : pc + 1 = pc') (hy : y ≠ 0) (K : Dn p e below P (T.setTop (mkF m pc' Ls (.long (x / y) :: st)))) : Dn p e below P (T.setTop (mkF m pc Ls (.long y :: .long x :: st))) := by
  subst hp
  obtain ⟨s₂, o, h1, h2⟩ := K
  exact ⟨s₂, o, XS.ldiv X.here hx rfl hd rfl hy h1, h2⟩
theorem o_irem (X : Stand p l e R s m args below meth c T locs cells slots) (hx : p.tables.exec = Jvm.exec) {x y : Int32} (hd : decode c.code pc = .ok (.irem, 1)) (hp : pc + 1 = pc') (hy : y ≠ 0) (K : Dn p e below P (T.setTop (mkF m pc' Ls (.int (x % y) :: st)))) : Dn p e below P (T.setTop (mkF m pc Ls (.int y :: .int x :: st))) := by
  subst hp
  obtain ⟨s₂, o, h1, h2⟩ := K
  exact ⟨s₂, o, iremM X hx rfl hd rfl hy h1, h2⟩
theorem o_lcmp (X : Stand p l e R s m args below meth c T locs cells slots) (hx : p.tables.exec = Jvm.exec) {x y : Int64} (hd : decode c.code pc = .ok (.lcmp, 1)) (hp : pc + 1 = pc')  (K : Dn p e below P (T.setTop (mkF m pc' Ls (.int (lcmpW x y) :: st)))) : Dn p e below P (T.setTop (mkF m pc Ls (.long y :: .long x :: st))) := by
  subst hp
  obtain ⟨s₂, o, h1, h2⟩ := K
  exact ⟨s₂, o, XS.lcmp X.here hx rfl hd rfl h1, h2⟩
theorem o_dup (X : Stand p l e R s m args below meth c T locs cells slots) (hx : p.tables.exec = Jvm.exec) {v : Value} (hd : decode c.code pc = .ok (.dup, 1)) (hp : pc + 1 = pc') (hv : v.category = 1) (K : Dn p e below P (T.setTop (mkF m pc' Ls (v :: v :: st)))) : Dn p e below P (T.setTop (mkF m pc Ls (v :: st))) := by
  subst hp
  obtain ⟨s₂, o, h1, h2⟩ := K
  exact ⟨s₂, o, XS.dup X.here hx rfl hd rfl hv h1, h2⟩
theorem o_pop (X : Stand p l e R s m args below meth c T locs cells slots) (hx : p.tables.exec = Jvm.exec) {v : Value} (hd : decode c.code pc = .ok (.pop, 1)) (hp : pc + 1 = pc') (hv : v.category = 1) (K : Dn p e below P (T.setTop (mkF m pc' Ls st))) : Dn p e below P (T.setTop (mkF m pc Ls (v :: st))) := by
  subst hp
  obtain ⟨s₂, o, h1, h2⟩ := K
  exact ⟨s₂, o, XS.pop X.here hx rfl hd rfl hv h1, h2⟩
theorem o_dupX1 (X : Stand p l e R s m args below meth c T locs cells slots) (hx : p.tables.exec = Jvm.exec) {v w : Value} (hd : decode c.code pc = .ok (.dup_x1, 1)) (hp : pc + 1 = pc') (hv : v.category = 1) (hw : w.category = 1) (K : Dn p e below P (T.setTop (mkF m pc' Ls (v :: w :: v :: st)))) : Dn p e below P (T.setTop (mkF m pc Ls (v :: w :: st))) := by
  subst hp
  obtain ⟨s₂, o, h1, h2⟩ := K
  exact ⟨s₂, o, XS.dupX1 X.here hx rfl hd rfl hv hw h1, h2⟩
theorem o_iinc (X : Stand p l e R s m args below meth c T locs cells slots) (hx : p.tables.exec = Jvm.exec) {k : Nat} {i : Int} {x v : Int32} (hd : decode c.code pc = .ok (.iinc k i, 3)) (hp : pc + 3 = pc') (hv : Int32.ofInt i = v) (hl : Ls[k]? = some (.val (.int x))) (hl' : storeLocals Ls k (.int (x + v)) = some Ls') (K : Dn p e below P (T.setTop (mkF m pc' Ls' st))) : Dn p e below P (T.setTop (mkF m pc Ls st)) := by
  subst hp hv
  obtain ⟨s₂, o, h1, h2⟩ := K
  exact ⟨s₂, o, XS.iinc X.here hx rfl hd hl hl' h1, h2⟩
theorem o_goto (X : Stand p l e R s m args below meth c T locs cells slots) (hx : p.tables.exec = Jvm.exec) {i : Int} (hd : decode c.code pc = .ok (.goto i, 3)) (ho : 0 ≤ (pc : Int) + i) (hp : ((pc : Int) + i).toNat = pc') (K : Dn p e below P (T.setTop (mkF m pc' Ls st))) : Dn p e below P (T.setTop (mkF m pc Ls st)) := by
  obtain ⟨s₂, o, h1, h2⟩ := K
  exact ⟨s₂, o, XS.goto X.here hx rfl (pc0 := pc) rfl hd ho hp h1, h2⟩
theorem o_if_eq (X : Stand p l e R s m args below meth c T locs cells slots) (hx : p.tables.exec = Jvm.exec) {x : Int32} {i : Int} {pt : Nat} (hd : decode c.code pc = .ok (.ifCond .eq i, 3)) (hp : pc + 3 = pc') (ho : 0 ≤ (pc : Int) + i) (ht : ((pc : Int) + i).toNat = pt) (Kt : x = (0 : Int32) → Dn p e below P (T.setTop (mkF m pt Ls st))) (Kf : ¬ (x = (0 : Int32)) → Dn p e below P (T.setTop (mkF m pc' Ls st))) : Dn p e below P (T.setTop (mkF m pc Ls (.int x :: st))) := by
  subst hp
  by_cases hq : x = (0 : Int32)
  · obtain ⟨s₂, o, h1, h2⟩ := Kt hq
    exact ⟨s₂, o, XS.ifYes X.here hx rfl (pc0 := pc) rfl hd rfl ((if0 _ _).trans (teq hq).1) ho ht h1, h2⟩
  · obtain ⟨s₂, o, h1, h2⟩ := Kf hq
    exact ⟨s₂, o, XS.ifNo X.here hx rfl hd rfl ((if0 _ _).trans (feq hq).1) h1, h2⟩
theorem o_icmp_eq (X : Stand p l e R s m args below meth c T locs cells slots) (hx : p.tables.exec = Jvm.exec) {x y : Int32} {i : Int} {pt : Nat} (hd : decode c.code pc = .ok (.if_icmp .eq i, 3)) (hp : pc + 3 = pc') (ho : 0 ≤ (pc : Int) + i) (ht : ((pc : Int) + i).toNat = pt) (Kt : x = y → Dn p e below P (T.setTop (mkF m pt Ls st))) (Kf : ¬ (x = y) → Dn p e below P (T.setTop (mkF m pc' Ls st))) : Dn p e below P (T.setTop (mkF m pc Ls (.int y :: .int x :: st))) := by
  subst hp
  by_cases hq : x = y
  · obtain ⟨s₂, o, h1, h2⟩ := Kt hq
    exact ⟨s₂, o, XS.icmpYes X.here hx rfl (pc0 := pc) rfl hd rfl (teq hq).1 ho ht h1, h2⟩
  · obtain ⟨s₂, o, h1, h2⟩ := Kf hq
    exact ⟨s₂, o, XS.icmpNo X.here hx rfl hd rfl (feq hq).1 h1, h2⟩
theorem o_lif_eq (X : Stand p l e R s m args below meth c T locs cells slots) (hx : p.tables.exec = Jvm.exec) {x y : Int64} {i : Int} {pt : Nat} (hd : decode c.code pc = .ok (.ifCond .eq i, 3)) (hp : pc + 3 = pc') (ho : 0 ≤ (pc : Int) + i) (ht : ((pc : Int) + i).toNat = pt) (Kt : x = y → Dn p e below P (T.setTop (mkF m pt Ls st))) (Kf : ¬ (x = y) → Dn p e below P (T.setTop (mkF m pc' Ls st))) : Dn p e below P (T.setTop (mkF m pc Ls (.int (lcmpW x y) :: st))) := by
  subst hp
  by_cases hq : x = y
  · obtain ⟨s₂, o, h1, h2⟩ := Kt hq
    exact ⟨s₂, o, XS.ifYes X.here hx rfl (pc0 := pc) rfl hd rfl ((if0 _ _).trans (teq ((lw_eq x y).mpr hq)).1) ho ht h1, h2⟩
  · obtain ⟨s₂, o, h1, h2⟩ := Kf hq
    exact ⟨s₂, o, XS.ifNo X.here hx rfl hd rfl ((if0 _ _).trans (feq (fun z => hq ((lw_eq x y).mp z))).1) h1, h2⟩
theorem o_if_ne (X : Stand p l e R s m args below meth c T locs cells slots) (hx : p.tables.exec = Jvm.exec) {x : Int32} {i : Int} {pt : Nat} (hd : decode c.code pc = .ok (.ifCond .ne i, 3)) (hp : pc + 3 = pc') (ho : 0 ≤ (pc : Int) + i) (ht : ((pc : Int) + i).toNat = pt) (Kt : ¬ (x = (0 : Int32)) → Dn p e below P (T.setTop (mkF m pt Ls st))) (Kf : x = (0 : Int32) → Dn p e below P (T.setTop (mkF m pc' Ls st))) : Dn p e below P (T.setTop (mkF m pc Ls (.int x :: st))) := by
  subst hp
  by_cases hq : x = (0 : Int32)
  · obtain ⟨s₂, o, h1, h2⟩ := Kf hq
    exact ⟨s₂, o, XS.ifNo X.here hx rfl hd rfl ((if0 _ _).trans (teq hq).2) h1, h2⟩
  · obtain ⟨s₂, o, h1, h2⟩ := Kt hq
    exact ⟨s₂, o, XS.ifYes X.here hx rfl (pc0 := pc) rfl hd rfl ((if0 _ _).trans (feq hq).2) ho ht h1, h2⟩
theorem o_icmp_ne (X : Stand p l e R s m args below meth c T locs cells slots) (hx : p.tables.exec = Jvm.exec) {x y : Int32} {i : Int} {pt : Nat} (hd : decode c.code pc = .ok (.if_icmp .ne i, 3)) (hp : pc + 3 = pc') (ho : 0 ≤ (pc : Int) + i) (ht : ((pc : Int) + i).toNat = pt) (Kt : ¬ (x = y) → Dn p e below P (T.setTop (mkF m pt Ls st))) (Kf : x = y → Dn p e below P (T.setTop (mkF m pc' Ls st))) : Dn p e below P (T.setTop (mkF m pc Ls (.int y :: .int x :: st))) := by
  subst hp
  by_cases hq : x = y
  · obtain ⟨s₂, o, h1, h2⟩ := Kf hq
    exact ⟨s₂, o, XS.icmpNo X.here hx rfl hd rfl (teq hq).2 h1, h2⟩
  · obtain ⟨s₂, o, h1, h2⟩ := Kt hq
    exact ⟨s₂, o, XS.icmpYes X.here hx rfl (pc0 := pc) rfl hd rfl (feq hq).2 ho ht h1, h2⟩
theorem o_lif_ne (X : Stand p l e R s m args below meth c T locs cells slots) (hx : p.tables.exec = Jvm.exec) {x y : Int64} {i : Int} {pt : Nat} (hd : decode c.code pc = .ok (.ifCond .ne i, 3)) (hp : pc + 3 = pc') (ho : 0 ≤ (pc : Int) + i) (ht : ((pc : Int) + i).toNat = pt) (Kt : ¬ (x = y) → Dn p e below P (T.setTop (mkF m pt Ls st))) (Kf : x = y → Dn p e below P (T.setTop (mkF m pc' Ls st))) : Dn p e below P (T.setTop (mkF m pc Ls (.int (lcmpW x y) :: st))) := by
  subst hp
  by_cases hq : x = y
  · obtain ⟨s₂, o, h1, h2⟩ := Kf hq
    exact ⟨s₂, o, XS.ifNo X.here hx rfl hd rfl ((if0 _ _).trans (teq ((lw_eq x y).mpr hq)).2) h1, h2⟩
  · obtain ⟨s₂, o, h1, h2⟩ := Kt hq
    exact ⟨s₂, o, XS.ifYes X.here hx rfl (pc0 := pc) rfl hd rfl ((if0 _ _).trans (feq (fun z => hq ((lw_eq x y).mp z))).2) ho ht h1, h2⟩
theorem o_if_lt (X : Stand p l e R s m args below meth c T locs cells slots) (hx : p.tables.exec = Jvm.exec) {x : Int32} {i : Int} {pt : Nat} (hd : decode c.code pc = .ok (.ifCond .lt i, 3)) (hp : pc + 3 = pc') (ho : 0 ≤ (pc : Int) + i) (ht : ((pc : Int) + i).toNat = pt) (Kt : x < (0 : Int32) → Dn p e below P (T.setTop (mkF m pt Ls st))) (Kf : ¬ (x < (0 : Int32)) → Dn p e below P (T.setTop (mkF m pc' Ls st))) : Dn p e below P (T.setTop (mkF m pc Ls (.int x :: st))) := by
  subst hp
  by_cases hq : x < (0 : Int32)
  · obtain ⟨s₂, o, h1, h2⟩ := Kt hq
    exact ⟨s₂, o, XS.ifYes X.here hx rfl (pc0 := pc) rfl hd rfl ((if0 _ _).trans (tlt hq).1) ho ht h1, h2⟩
  · obtain ⟨s₂, o, h1, h2⟩ := Kf hq
    exact ⟨s₂, o, XS.ifNo X.here hx rfl hd rfl ((if0 _ _).trans (flt hq).1) h1, h2⟩
theorem o_icmp_lt (X : Stand p l e R s m args below meth c T locs cells slots) (hx : p.tables.exec = Jvm.exec) {x y : Int32} {i : Int} {pt : Nat} (hd : decode c.code pc = .ok (.if_icmp .lt i, 3)) (hp : pc + 3 = pc') (ho : 0 ≤ (pc : Int) + i) (ht : ((pc : Int) + i).toNat = pt) (Kt : x < y → Dn p e below P (T.setTop (mkF m pt Ls st))) (Kf : ¬ (x < y) → Dn p e below P (T.setTop (mkF m pc' Ls st))) : Dn p e below P (T.setTop (mkF m pc Ls (.int y :: .int x :: st))) := by
  subst hp
  by_cases hq : x < y
  · obtain ⟨s₂, o, h1, h2⟩ := Kt hq
    exact ⟨s₂, o, XS.icmpYes X.here hx rfl (pc0 := pc) rfl hd rfl (tlt hq).1 ho ht h1, h2⟩
  · obtain ⟨s₂, o, h1, h2⟩ := Kf hq
    exact ⟨s₂, o, XS.icmpNo X.here hx rfl hd rfl (flt hq).1 h1, h2⟩
theorem o_lif_lt (X : Stand p l e R s m args below meth c T locs cells slots) (hx : p.tables.exec = Jvm.exec) {x y : Int64} {i : Int} {pt : Nat} (hd : decode c.code pc = .ok (.ifCond .lt i, 3)) (hp : pc + 3 = pc') (ho : 0 ≤ (pc : Int) + i) (ht : ((pc : Int) + i).toNat = pt) (Kt : x < y → Dn p e below P (T.setTop (mkF m pt Ls st))) (Kf : ¬ (x < y) → Dn p e below P (T.setTop (mkF m pc' Ls st))) : Dn p e below P (T.setTop (mkF m pc Ls (.int (lcmpW x y) :: st))) := by
  subst hp
  by_cases hq : x < y
  · obtain ⟨s₂, o, h1, h2⟩ := Kt hq
    exact ⟨s₂, o, XS.ifYes X.here hx rfl (pc0 := pc) rfl hd rfl ((if0 _ _).trans (tlt ((lw_lt x y).mpr hq)).1) ho ht h1, h2⟩
  · obtain ⟨s₂, o, h1, h2⟩ := Kf hq
    exact ⟨s₂, o, XS.ifNo X.here hx rfl hd rfl ((if0 _ _).trans (flt (fun z => hq ((lw_lt x y).mp z))).1) h1, h2⟩
theorem o_if_ge (X : Stand p l e R s m args below meth c T locs cells slots) (hx : p.tables.exec = Jvm.exec) {x : Int32} {i : Int} {pt : Nat} (hd : decode c.code pc = .ok (.ifCond .ge i, 3)) (hp : pc + 3 = pc') (ho : 0 ≤ (pc : Int) + i) (ht : ((pc : Int) + i).toNat = pt) (Kt : ¬ (x < (0 : Int32)) → Dn p e below P (T.setTop (mkF m pt Ls st))) (Kf : x < (0 : Int32) → Dn p e below P (T.setTop (mkF m pc' Ls st))) : Dn p e below P (T.setTop (mkF m pc Ls (.int x :: st))) := by
  subst hp
  by_cases hq : x < (0 : Int32)
  · obtain ⟨s₂, o, h1, h2⟩ := Kf hq
    exact ⟨s₂, o, XS.ifNo X.here hx rfl hd rfl ((if0 _ _).trans (tlt hq).2.1) h1, h2⟩
  · obtain ⟨s₂, o, h1, h2⟩ := Kt hq
    exact ⟨s₂, o, XS.ifYes X.here hx rfl (pc0 := pc) rfl hd rfl ((if0 _ _).trans (flt hq).2.1) ho ht h1, h2⟩
theorem o_icmp_ge (X : Stand p l e R s m args below meth c T locs cells slots) (hx : p.tables.exec = Jvm.exec) {x y : Int32} {i : Int} {pt : Nat} (hd : decode c.code pc = .ok (.if_icmp .ge i, 3)) (hp : pc + 3 = pc') (ho : 0 ≤ (pc : Int) + i) (ht : ((pc : Int) + i).toNat = pt) (Kt : ¬ (x < y) → Dn p e below P (T.setTop (mkF m pt Ls st))) (Kf : x < y → Dn p e below P (T.setTop (mkF m pc' Ls st))) : Dn p e below P (T.setTop (mkF m pc Ls (.int y :: .int x :: st))) := by
  subst hp
  by_cases hq : x < y
  · obtain ⟨s₂, o, h1, h2⟩ := Kf hq
    exact ⟨s₂, o, XS.icmpNo X.here hx rfl hd rfl (tlt hq).2.1 h1, h2⟩
  · obtain ⟨s₂, o, h1, h2⟩ := Kt hq
    exact ⟨s₂, o, XS.icmpYes X.here hx rfl (pc0 := pc) rfl hd rfl (flt hq).2.1 ho ht h1, h2⟩
theorem o_lif_ge (X : Stand p l e R s m args below meth c T locs cells slots) (hx : p.tables.exec = Jvm.exec) {x y : Int64} {i : Int} {pt : Nat} (hd : decode c.code pc = .ok (.ifCond .ge i, 3)) (hp : pc + 3 = pc') (ho : 0 ≤ (pc : Int) + i) (ht : ((pc : Int) + i).toNat = pt) (Kt : ¬ (x < y) → Dn p e below P (T.setTop (mkF m pt Ls st))) (Kf : x < y → Dn p e below P (T.setTop (mkF m pc' Ls st))) : Dn p e below P (T.setTop (mkF m pc Ls (.int (lcmpW x y) :: st))) := by
  subst hp
  by_cases hq : x < y
  · obtain ⟨s₂, o, h1, h2⟩ := Kf hq
    exact ⟨s₂, o, XS.ifNo X.here hx rfl hd rfl ((if0 _ _).trans (tlt ((lw_lt x y).mpr hq)).2.1) h1, h2⟩
  · obtain ⟨s₂, o, h1, h2⟩ := Kt hq
    exact ⟨s₂, o, XS.ifYes X.here hx rfl (pc0 := pc) rfl hd rfl ((if0 _ _).trans (flt (fun z => hq ((lw_lt x y).mp z))).2.1) ho ht h1, h2⟩
theorem o_if_gt (X : Stand p l e R s m args below meth c T locs cells slots) (hx : p.tables.exec = Jvm.exec) {x : Int32} {i : Int} {pt : Nat} (hd : decode c.code pc = .ok (.ifCond .gt i, 3)) (hp : pc + 3 = pc') (ho : 0 ≤ (pc : Int) + i) (ht : ((pc : Int) + i).toNat = pt) (Kt : (0 : Int32) < x → Dn p e below P (T.setTop (mkF m pt Ls st))) (Kf : ¬ ((0 : Int32) < x) → Dn p e below P (T.setTop (mkF m pc' Ls st))) : Dn p e below P (T.setTop (mkF m pc Ls (.int x :: st))) := by
  subst hp
  by_cases hq : (0 : Int32) < x
  · obtain ⟨s₂, o, h1, h2⟩ := Kt hq
    exact ⟨s₂, o, XS.ifYes X.here hx rfl (pc0 := pc) rfl hd rfl ((if0 _ _).trans (tlt hq).2.2.1) ho ht h1, h2⟩
  · obtain ⟨s₂, o, h1, h2⟩ := Kf hq
    exact ⟨s₂, o, XS.ifNo X.here hx rfl hd rfl ((if0 _ _).trans (flt hq).2.2.1) h1, h2⟩
theorem o_icmp_gt (X : Stand p l e R s m args below meth c T locs cells slots) (hx : p.tables.exec = Jvm.exec) {x y : Int32} {i : Int} {pt : Nat} (hd : decode c.code pc = .ok (.if_icmp .gt i, 3)) (hp : pc + 3 = pc') (ho : 0 ≤ (pc : Int) + i) (ht : ((pc : Int) + i).toNat = pt) (Kt : y < x → Dn p e below P (T.setTop (mkF m pt Ls st))) (Kf : ¬ (y < x) → Dn p e below P (T.setTop (mkF m pc' Ls st))) : Dn p e below P (T.setTop (mkF m pc Ls (.int y :: .int x :: st))) := by
  subst hp
  by_cases hq : y < x
  · obtain ⟨s₂, o, h1, h2⟩ := Kt hq
    exact ⟨s₂, o, XS.icmpYes X.here hx rfl (pc0 := pc) rfl hd rfl (tlt hq).2.2.1 ho ht h1, h2⟩
  · obtain ⟨s₂, o, h1, h2⟩ := Kf hq
    exact ⟨s₂, o, XS.icmpNo X.here hx rfl hd rfl (flt hq).2.2.1 h1, h2⟩
theorem o_lif_gt (X : Stand p l e R s m args below meth c T locs cells slots) (hx : p.tables.exec = Jvm.exec) {x y : Int64} {i : Int} {pt : Nat} (hd : decode c.code pc = .ok (.ifCond .gt i, 3)) (hp : pc + 3 = pc') (ho : 0 ≤ (pc : Int) + i) (ht : ((pc : Int) + i).toNat = pt) (Kt : y < x → Dn p e below P (T.setTop (mkF m pt Ls st))) (Kf : ¬ (y < x) → Dn p e below P (T.setTop (mkF m pc' Ls st))) : Dn p e below P (T.setTop (mkF m pc Ls (.int (lcmpW x y) :: st))) := by
  subst hp
  by_cases hq : y < x
  · obtain ⟨s₂, o, h1, h2⟩ := Kt hq
    exact ⟨s₂, o, XS.ifYes X.here hx rfl (pc0 := pc) rfl hd rfl ((if0 _ _).trans (tlt ((lw_gt x y).mpr hq)).2.2.1) ho ht h1, h2⟩
  · obtain ⟨s₂, o, h1, h2⟩ := Kf hq
    exact ⟨s₂, o, XS.ifNo X.here hx rfl hd rfl ((if0 _ _).trans (flt (fun z => hq ((lw_gt x y).mp z))).2.2.1) h1, h2⟩
theorem o_if_le (X : Stand p l e R s m args below meth c T locs cells slots) (hx : p.tables.exec = Jvm.exec) {x : Int32} {i : Int} {pt : Nat} (hd : decode c.code pc = .ok (.ifCond .le i, 3)) (hp : pc + 3 = pc') (ho : 0 ≤ (pc : Int) + i) (ht : ((pc : Int) + i).toNat = pt) (Kt : ¬ ((0 : Int32) < x) → Dn p e below P (T.setTop (mkF m pt Ls st))) (Kf : (0 : Int32) < x → Dn p e below P (T.setTop (mkF m pc' Ls st))) : Dn p e below P (T.setTop (mkF m pc Ls (.int x :: st))) := by
  subst hp
  by_cases hq : (0 : Int32) < x
  · obtain ⟨s₂, o, h1, h2⟩ := Kf hq
    exact ⟨s₂, o, XS.ifNo X.here hx rfl hd rfl ((if0 _ _).trans (tlt hq).2.2.2) h1, h2⟩
  · obtain ⟨s₂, o, h1, h2⟩ := Kt hq
    exact ⟨s₂, o, XS.ifYes X.here hx rfl (pc0 := pc) rfl hd rfl ((if0 _ _).trans (flt hq).2.2.2) ho ht h1, h2⟩
theorem o_icmp_le (X : Stand p l e R s m args below meth c T locs cells slots) (hx : p.tables.exec = Jvm.exec) {x y : Int32} {i : Int} {pt : Nat} (hd : decode c.code pc = .ok (.if_icmp .le i, 3)) (hp : pc + 3 = pc') (ho : 0 ≤ (pc : Int) + i) (ht : ((pc : Int) + i).toNat = pt) (Kt : ¬ (y < x) → Dn p e below P (T.setTop (mkF m pt Ls st))) (Kf : y < x → Dn p e below P (T.setTop (mkF m pc' Ls st))) : Dn p e below P (T.setTop (mkF m pc Ls (.int y :: .int x :: st))) := by
  subst hp
  by_cases hq : y < x
  · obtain ⟨s₂, o, h1, h2⟩ := Kf hq
    exact ⟨s₂, o, XS.icmpNo X.here hx rfl hd rfl (tlt hq).2.2.2 h1, h2⟩
  · obtain ⟨s₂, o, h1, h2⟩ := Kt hq
    exact ⟨s₂, o, XS.icmpYes X.here hx rfl (pc0 := pc) rfl hd rfl (flt hq).2.2.2 ho ht h1, h2⟩
theorem o_lif_le (X : Stand p l e R s m args below meth c T locs cells slots) (hx : p.tables.exec = Jvm.exec) {x y : Int64} {i : Int} {pt : Nat} (hd : decode c.code pc = .ok (.ifCond .le i, 3)) (hp : pc + 3 = pc') (ho : 0 ≤ (pc : Int) + i) (ht : ((pc : Int) + i).toNat = pt) (Kt : ¬ (y < x) → Dn p e below P (T.setTop (mkF m pt Ls st))) (Kf : y < x → Dn p e below P (T.setTop (mkF m pc' Ls st))) : Dn p e below P (T.setTop (mkF m pc Ls (.int (lcmpW x y) :: st))) := by
  subst hp
  by_cases hq : y < x
  · obtain ⟨s₂, o, h1, h2⟩ := Kf hq
    exact ⟨s₂, o, XS.ifNo X.here hx rfl hd rfl ((if0 _ _).trans (tlt ((lw_gt x y).mpr hq)).2.2.2) h1, h2⟩
  · obtain ⟨s₂, o, h1, h2⟩ := Kt hq
    exact ⟨s₂, o, XS.ifYes X.here hx rfl (pc0 := pc) rfl hd rfl ((if0 _ _).trans (flt (fun z => hq ((lw_gt x y).mp z))).2.2.2) ho ht h1, h2⟩
theorem o_acmp_eq (X : Stand p l e R s m args below meth c T locs cells slots) (hx : p.tables.exec = Jvm.exec) {x y : Value} {i : Int} {pt : Nat} (hd : decode c.code pc = .ok (.if_acmp .eq i, 3)) (hp : pc + 3 = pc') (ho : 0 ≤ (pc : Int) + i) (ht : ((pc : Int) + i).toNat = pt) (hv : x.isRef = true) (hw : y.isRef = true) (Kt : x = y → Dn p e below P (T.setTop (mkF m pt Ls st))) (Kf : ¬ (x = y) → Dn p e below P (T.setTop (mkF m pc' Ls st))) : Dn p e below P (T.setTop (mkF m pc Ls (y :: x :: st))) := by
  subst hp
  by_cases hq : x = y
  · obtain ⟨s₂, o, h1, h2⟩ := Kt hq
    exact ⟨s₂, o, Jvm.RoadKit.acmp (g := mkF m pc Ls (y :: x :: st)) X hx rfl hv hw (pc0 := pc) (same := true) rfl hd rfl (decide_eq_true hq) ho ht.symm h1, h2⟩
  · obtain ⟨s₂, o, h1, h2⟩ := Kf hq
    exact ⟨s₂, o, Jvm.RoadKit.acmp (g := mkF m pc Ls (y :: x :: st)) X hx rfl hv hw (pc0 := pc) (same := false) rfl hd rfl (decide_eq_false hq) ho rfl h1, h2⟩
theorem o_acmp_ne (X : Stand p l e R s m args below meth c T locs cells slots) (hx : p.tables.exec = Jvm.exec) {x y : Value} {i : Int} {pt : Nat} (hd : decode c.code pc = .ok (.if_acmp .ne i, 3)) (hp : pc + 3 = pc') (ho : 0 ≤ (pc : Int) + i) (ht : ((pc : Int) + i).toNat = pt) (hv : x.isRef = true) (hw : y.isRef = true) (Kt : ¬ (x = y) → Dn p e below P (T.setTop (mkF m pt Ls st))) (Kf : x = y → Dn p e below P (T.setTop (mkF m pc' Ls st))) : Dn p e below P (T.setTop (mkF m pc Ls (y :: x :: st))) := by
  subst hp
  by_cases hq : x = y
  · obtain ⟨s₂, o, h1, h2⟩ := Kf hq
    exact ⟨s₂, o, Jvm.RoadKit.acmp (g := mkF m pc Ls (y :: x :: st)) X hx rfl hv hw (pc0 := pc) (same := true) rfl hd rfl (decide_eq_true hq) ho rfl h1, h2⟩
  · obtain ⟨s₂, o, h1, h2⟩ := Kt hq
    exact ⟨s₂, o, Jvm.RoadKit.acmp (g := mkF m pc Ls (y :: x :: st)) X hx rfl hv hw (pc0 := pc) (same := false) rfl hd rfl (decide_eq_false hq) ho ht.symm h1, h2⟩
theorem o_ifnull_no (X : Stand p l e R s m args below meth c T locs cells slots) (hx : p.tables.exec = Jvm.exec) {b : Addr} {i : Int} (hd : decode c.code pc = .ok (.ifnull i, 3)) (hp : pc + 3 = pc') (K : Dn p e below P (T.setTop (mkF m pc' Ls st))) : Dn p e below P (T.setTop (mkF m pc Ls (.ref b :: st))) := by
  subst hp
  obtain ⟨s₂, o, h1, h2⟩ := K
  exact ⟨s₂, o, XS.ifnullNo X.here hx rfl hd rfl h1, h2⟩
theorem o_ifnull_yes (X : Stand p l e R s m args below meth c T locs cells slots) (hx : p.tables.exec = Jvm.exec) {i : Int} (hd : decode c.code pc = .ok (.ifnull i, 3)) (ho : 0 ≤ (pc : Int) + i) (hp : ((pc : Int) + i).toNat = pc') (K : Dn p e below P (T.setTop (mkF m pc' Ls st))) : Dn p e below P (T.setTop (mkF m pc Ls (.null :: st))) := by
  obtain ⟨s₂, o, h1, h2⟩ := K
  exact ⟨s₂, o, XS.ifnullYes X.here hx rfl (pc0 := pc) rfl hd rfl ho hp h1, h2⟩
theorem o_ifnonnull_yes (X : Stand p l e R s m args below meth c T locs cells slots) (hx : p.tables.exec = Jvm.exec) {b : Addr} {i : Int} (hd : decode c.code pc = .ok (.ifnonnull i, 3)) (ho : 0 ≤ (pc : Int) + i) (hp : ((pc : Int) + i).toNat = pc') (K : Dn p e below P (T.setTop (mkF m pc' Ls st))) : Dn p e below P (T.setTop (mkF m pc Ls (.ref b :: st))) := by
  obtain ⟨s₂, o, h1, h2⟩ := K
  exact ⟨s₂, o, XS.ifnonnullYes X.here hx rfl (pc0 := pc) rfl hd rfl ho hp h1, h2⟩
theorem o_ldc2 (X : Stand p l e R s m args below meth c T locs cells slots) (hx : p.tables.exec = Jvm.exec) (hZ : Z.Warmed39 s.vm) {own : String} {index : Nat} {v : Int64} (hown : s.vm.findClass own = some m.cls) (w : (Jvm.Cond.constantLong own index v).before a0 Z = true) (hd : decode c.code pc = .ok (.ldc2_w index, 3)) (hp : pc + 3 = pc') (K : Dn p e below P (T.setTop (mkF m pc' Ls (.long v :: st)))) : Dn p e below P (T.setTop (mkF m pc Ls st)) := by
  subst hp
  exact go (X.ldc2Long hx hown (mvT hZ w) (g := mkF m pc Ls st) rfl hd) K
theorem o_ldc (X : Stand p l e R s m args below meth c T locs cells slots) (hx : p.tables.exec = Jvm.exec) (hZ : Z.Warmed39 s.vm) {own : String} {index : Nat} {v : Int32} (hown : s.vm.findClass own = some m.cls) (w : (Jvm.Cond.constant own index v).before a0 Z = true) (hd : decode c.code pc = .ok (.ldc index, 2)) (hp : pc + 2 = pc') (K : Dn p e below P (T.setTop (mkF m pc' Ls (.int v :: st)))) : Dn p e below P (T.setTop (mkF m pc Ls st)) := by
  subst hp
  exact go (X.ldcInt hx hown (mvT hZ w) (g := mkF m pc Ls st) rfl hd) K
theorem o_ldcw (X : Stand p l e R s m args below meth c T locs cells slots) (hx : p.tables.exec = Jvm.exec) (hZ : Z.Warmed39 s.vm) {own : String} {index : Nat} {v : Int32} (hown : s.vm.findClass own = some m.cls) (w : (Jvm.Cond.constant own index v).before a0 Z = true) (hd : decode c.code pc = .ok (.ldc_w index, 3)) (hp : pc + 3 = pc') (K : Dn p e below P (T.setTop (mkF m pc' Ls (.int v :: st)))) : Dn p e below P (T.setTop (mkF m pc Ls st)) := by
  subst hp
  exact go (X.ldcwInt hx hown (mvT hZ w) (g := mkF m pc Ls st) rfl hd) K
theorem o_dup2 (X : Stand p l e R s m args below meth c T locs cells slots) (hx : p.tables.exec = Jvm.exec) {v w : Value} (hd : decode c.code pc = .ok (.dup2, 1)) (hp : pc + 1 = pc') (hv : v.category = 1) (hw : w.category = 1) (K : Dn p e below P (T.setTop (mkF m pc' Ls (v :: w :: v :: w :: st)))) : Dn p e below P (T.setTop (mkF m pc Ls (v :: w :: st))) := by
  subst hp
  obtain ⟨s₂, o, h1, h2⟩ := K
  exact ⟨s₂, o, XT.dup2 X.here hx rfl hd rfl hv hw h1, h2⟩
theorem o_iaload (X : Stand p l e R s m args below meth c T locs cells slots) (hx : p.tables.exec = Jvm.exec) (hZ : Z.Warmed39 s.vm) (eT : T.heap = h) {a : Addr} {k : ClassId} {n j : Int32} {vs : List Value} {d v : Value} (V : Arv Z h a k .int n vs d) (hj : ¬ j < 0 ∧ j < n) (hv : vs.getD j.toNatClampNeg d = v) (hd : decode c.code pc = .ok (.iaload, 1)) (hp : pc + 1 = pc') (K : Dn p e below P (T.setTop (mkF m pc' Ls (v :: st)))) : Dn p e below P (T.setTop (mkF m pc Ls (.int j :: .ref a :: st))) := by
  subst hp
  obtain ⟨cl, A, -, S, N, H, -⟩ := V
  have hin := inb_of S hj
  exact go (X.iaload hx (j := j) (v := v) (by rw [eT]; exact A.1) (State.isArrayOf_alike hZ.alike A.2.1) A.2.2 hin (H.at hin hv) (g := mkF m pc Ls (.int j :: .ref a :: st)) rfl rfl hd) K
theorem o_laload (X : Stand p l e R s m args below meth c T locs cells slots) (hx : p.tables.exec = Jvm.exec) (hZ : Z.Warmed39 s.vm) (eT : T.heap = h) {a : Addr} {k : ClassId} {n j : Int32} {vs : List Value} {d v : Value} (V : Arv Z h a k .long n vs d) (hj : ¬ j < 0 ∧ j < n) (hv : vs.getD j.toNatClampNeg d = v) (hd : decode c.code pc = .ok (.laload, 1)) (hp : pc + 1 = pc') (K : Dn p e below P (T.setTop (mkF m pc' Ls (v :: st)))) : Dn p e below P (T.setTop (mkF m pc Ls (.int j :: .ref a :: st))) := by
  subst hp
  obtain ⟨cl, A, -, S, N, H, -⟩ := V
  have hin := inb_of S hj
  exact go (X.laload hx (j := j) (v := v) (by rw [eT]; exact A.1) (State.isArrayOf_alike hZ.alike A.2.1) A.2.2 hin (H.at hin hv) (g := mkF m pc Ls (.int j :: .ref a :: st)) rfl rfl hd) K
theorem o_caload (X : Stand p l e R s m args below meth c T locs cells slots) (hx : p.tables.exec = Jvm.exec) (hZ : Z.Warmed39 s.vm) (eT : T.heap = h) {a : Addr} {k : ClassId} {n j : Int32} {vs : List Value} {d v : Value} (V : Arv Z h a k .char n vs d) (hj : ¬ j < 0 ∧ j < n) (hv : vs.getD j.toNatClampNeg d = v) (hd : decode c.code pc = .ok (.caload, 1)) (hp : pc + 1 = pc') (K : Dn p e below P (T.setTop (mkF m pc' Ls (v :: st)))) : Dn p e below P (T.setTop (mkF m pc Ls (.int j :: .ref a :: st))) := by
  subst hp
  obtain ⟨cl, A, -, S, N, H, -⟩ := V
  have hin := inb_of S hj
  exact go (X.caload hx (j := j) (v := v) (by rw [eT]; exact A.1) (State.isArrayOf_alike hZ.alike A.2.1) A.2.2 hin (H.at hin hv) (g := mkF m pc Ls (.int j :: .ref a :: st)) rfl rfl hd) K
theorem o_baload (X : Stand p l e R s m args below meth c T locs cells slots) (hx : p.tables.exec = Jvm.exec) (hZ : Z.Warmed39 s.vm) (eT : T.heap = h) {a : Addr} {k : ClassId} {n j : Int32} {vs : List Value} {d v : Value} (V : Arv Z h a k .byte n vs d) (hj : ¬ j < 0 ∧ j < n) (hv : vs.getD j.toNatClampNeg d = v) (hd : decode c.code pc = .ok (.baload, 1)) (hp : pc + 1 = pc') (K : Dn p e below P (T.setTop (mkF m pc' Ls (v :: st)))) : Dn p e below P (T.setTop (mkF m pc Ls (.int j :: .ref a :: st))) := by
  subst hp
  obtain ⟨cl, A, -, S, N, H, -⟩ := V
  have hin := inb_of S hj
  exact go (X.baloadBytes hx (j := j) (v := v) (by rw [eT]; exact A.1) (State.isArrayOf_alike hZ.alike A.2.1) A.2.2 hin (H.at hin hv) (g := mkF m pc Ls (.int j :: .ref a :: st)) rfl rfl hd) K
theorem o_aaload (X : Stand p l e R s m args below meth c T locs cells slots) (hx : p.tables.exec = Jvm.exec) (hZ : Z.Warmed39 s.vm) (eT : T.heap = h) {a : Addr} {k : ClassId} {n j : Int32} {vs : List Value} {d v : Value} {ty : FieldType} (V : Arv Z h a k ty n vs d) (hty : ty.isReference = true) (hj : ¬ j < 0 ∧ j < n) (hv : vs.getD j.toNatClampNeg d = v) (hd : decode c.code pc = .ok (.aaload, 1)) (hp : pc + 1 = pc') (K : Dn p e below P (T.setTop (mkF m pc' Ls (v :: st)))) : Dn p e below P (T.setTop (mkF m pc Ls (.int j :: .ref a :: st))) := by
  subst hp
  obtain ⟨cl, A, -, S, N, H, -⟩ := V
  have hin := inb_of S hj
  exact go (X.aaload hx (j := j) (v := v) (by rw [eT]; exact A.1) (State.isArrayOf_alike hZ.alike A.2.1) hty A.2.2 hin (H.at hin hv) (g := mkF m pc Ls (.int j :: .ref a :: st)) rfl rfl hd) K
theorem o_arraylength (X : Stand p l e R s m args below meth c T locs cells slots) (hx : p.tables.exec = Jvm.exec) (hZ : Z.Warmed39 s.vm) (eT : T.heap = h) {a : Addr} {k : ClassId} {n : Int32} {vs : List Value} {d : Value} {ty : FieldType} (V : Arv Z h a k ty n vs d) (hd : decode c.code pc = .ok (.arraylength, 1)) (hp : pc + 1 = pc') (K : Dn p e below P (T.setTop (mkF m pc' Ls (.int n :: st)))) : Dn p e below P (T.setTop (mkF m pc Ls (.ref a :: st))) := by
  subst hp
  obtain ⟨cl, A, -, S, N, H, -⟩ := V
  refine go (X.arraylength hx (by rw [eT]; exact A.1) (State.isArrayOf_alike hZ.alike A.2.1) (g := mkF m pc Ls (.ref a :: st)) rfl rfl hd) ?_
  rw [len_of S N]
  exact K
theorem o_iastore (X : Stand p l e R s m args below meth c T locs cells slots) (hx : p.tables.exec = Jvm.exec) (hZ : Z.Warmed39 s.vm) (eT : T.heap = h) {a : Addr} {k : ClassId} {n j : Int32} {vs : List Value} {d : Value} {x : Int32} (V : Arv Z h a k .int n vs d) (hj : ¬ j < 0 ∧ j < n) (i : Nat) (hi : j.toNatClampNeg = i) (hl : i < vs.length) (hd : decode c.code pc = .ok (.iastore, 1)) (hp : pc + 1 = pc') (K : ∀ T' h', Stand p l e R s m args below meth c T' (locs ++ [⟨a, j.toNatClampNeg⟩]) cells slots → T'.heap = h' → Wr h h' a j.toNatClampNeg (.int x) → Arv Z h' a k .int n (vs.set i (.int x)) d → Dn p e below P (T'.setTop (mkF m pc' Ls st))) : Dn p e below P (T.setTop (mkF m pc Ls (.int x :: .int j :: .ref a :: st))) := by
  subst hp
  obtain ⟨cl, A, q, S, N, H, G⟩ := V
  have hin := inb_of S hj
  obtain ⟨T', h', X', e', W', st'⟩ := stI X hx hZ eT A (j := j) (x := x) hin (g := mkF m pc Ls (.int x :: .int j :: .ref a :: st)) rfl rfl hd
  exact go st' (K T' h' X' e' W' (Arv.set A q S N H G rfl W' i hi hl))
theorem o_lastore (X : Stand p l e R s m args below meth c T locs cells slots) (hx : p.tables.exec = Jvm.exec) (hZ : Z.Warmed39 s.vm) (eT : T.heap = h) {a : Addr} {k : ClassId} {n j : Int32} {vs : List Value} {d : Value} {x : Int64} (V : Arv Z h a k .long n vs d) (hj : ¬ j < 0 ∧ j < n) (i : Nat) (hi : j.toNatClampNeg = i) (hl : i < vs.length) (hd : decode c.code pc = .ok (.lastore, 1)) (hp : pc + 1 = pc') (K : ∀ T' h', Stand p l e R s m args below meth c T' (locs ++ [⟨a, j.toNatClampNeg⟩]) cells slots → T'.heap = h' → Wr h h' a j.toNatClampNeg (.long x) → Arv Z h' a k .long n (vs.set i (.long x)) d → Dn p e below P (T'.setTop (mkF m pc' Ls st))) : Dn p e below P (T.setTop (mkF m pc Ls (.long x :: .int j :: .ref a :: st))) := by
  subst hp
  obtain ⟨cl, A, q, S, N, H, G⟩ := V
  have hin := inb_of S hj
  obtain ⟨T', h', X', e', W', st'⟩ := stJ X hx hZ eT A (j := j) (x := x) hin (g := mkF m pc Ls (.long x :: .int j :: .ref a :: st)) rfl rfl hd
  exact go st' (K T' h' X' e' W' (Arv.set A q S N H G rfl W' i hi hl))
theorem o_castore (X : Stand p l e R s m args below meth c T locs cells slots) (hx : p.tables.exec = Jvm.exec) (hZ : Z.Warmed39 s.vm) (eT : T.heap = h) {a : Addr} {k : ClassId} {n j : Int32} {vs : List Value} {d : Value} {x : Int32} (V : Arv Z h a k .char n vs d) (hj : ¬ j < 0 ∧ j < n) (i : Nat) (hi : j.toNatClampNeg = i) (hl : i < vs.length) (hd : decode c.code pc = .ok (.castore, 1)) (hp : pc + 1 = pc') (K : ∀ T' h', Stand p l e R s m args below meth c T' (locs ++ [⟨a, j.toNatClampNeg⟩]) cells slots → T'.heap = h' → Wr h h' a j.toNatClampNeg (.int (nar .char x)) → Arv Z h' a k .char n (vs.set i (.int (nar .char x))) d → Dn p e below P (T'.setTop (mkF m pc' Ls st))) : Dn p e below P (T.setTop (mkF m pc Ls (.int x :: .int j :: .ref a :: st))) := by
  subst hp
  obtain ⟨cl, A, q, S, N, H, G⟩ := V
  have hin := inb_of S hj
  obtain ⟨T', h', X', e', W', st'⟩ := stC X hx hZ eT A (j := j) (x := x) hin (g := mkF m pc Ls (.int x :: .int j :: .ref a :: st)) rfl rfl hd
  exact go st' (K T' h' X' e' W' (Arv.set A q S N H G (fits_nar_char x) W' i hi hl))
theorem o_bastore (X : Stand p l e R s m args below meth c T locs cells slots) (hx : p.tables.exec = Jvm.exec) (hZ : Z.Warmed39 s.vm) (eT : T.heap = h) {a : Addr} {k : ClassId} {n j : Int32} {vs : List Value} {d : Value} {x : Int32} (V : Arv Z h a k .byte n vs d) (hj : ¬ j < 0 ∧ j < n) (i : Nat) (hi : j.toNatClampNeg = i) (hl : i < vs.length) (hd : decode c.code pc = .ok (.bastore, 1)) (hp : pc + 1 = pc') (K : ∀ T' h', Stand p l e R s m args below meth c T' (locs ++ [⟨a, j.toNatClampNeg⟩]) cells slots → T'.heap = h' → Wr h h' a j.toNatClampNeg (.int (nar .byte x)) → Arv Z h' a k .byte n (vs.set i (.int (nar .byte x))) d → Dn p e below P (T'.setTop (mkF m pc' Ls st))) : Dn p e below P (T.setTop (mkF m pc Ls (.int x :: .int j :: .ref a :: st))) := by
  subst hp
  obtain ⟨cl, A, q, S, N, H, G⟩ := V
  have hin := inb_of S hj
  obtain ⟨T', h', X', e', W', st'⟩ := stB X hx hZ eT A (j := j) (x := x) hin (g := mkF m pc Ls (.int x :: .int j :: .ref a :: st)) rfl rfl hd
  exact go st' (K T' h' X' e' W' (Arv.set A q S N H G (fits_nar_byte x) W' i hi hl))
theorem o_newarray (X : Stand p l e R s m args below meth c T locs cells slots) (hx : p.tables.exec = Jvm.exec) (hZ : Z.Warmed39 s.vm) (eT : T.heap = h) {aty : ArrayType} (w : (Jvm.Cond.arrayClass (newarray.typeOf aty)).before a0 Z = true) (hd : decode c.code pc = .ok (.newarray aty, 2)) (hp : pc + 2 = pc') {n : Int32} (hn : ¬ n < 0) (cap : Nat) (hcap : n.toNatClampNeg ≤ cap) (hb : cap * 8 ≤ 536870912) (hc : cells + 1 ≤ R.cells) (hs : slots + cap ≤ R.slots) (K : ∀ T' h' a k, a = h.size → Stand p l e R s m args below meth c T' locs (cells + 1) (slots + cap) → T'.heap = h' → Ext h h' → Arv Z h' a k (newarray.typeOf aty) n [] (defaultValue (newarray.typeOf aty)) → Dn p e below P (T'.setTop (mkF m pc' Ls (.ref a :: st)))) : Dn p e below P (T.setTop (mkF m pc Ls (.int n :: st))) := by
  subst hp
  obtain ⟨T', h', k, X', e', E', A', st'⟩ := newP X hx hZ w eT (g := mkF m pc Ls (.int n :: st)) rfl hd rfl hn hcap hb hc hs
  exact go st' (K T' h' _ k rfl X' e' E' (Arv.new A' hn))
theorem o_getfield (X : Stand p l e R s m args below meth c T locs cells slots) (hx : p.tables.exec = Jvm.exec) (hZ : Z.Warmed39 s.vm) {own O n d : String} {index : Nat} (hown : s.vm.findClass own = some m.cls) (w : (Jvm.Cond.fieldLink own index O n d).before a0 Z = true) (eT : T.heap = h) {a : Addr} {v : Value} (F : Fld Z h a O n d v) (hd : decode c.code pc = .ok (.getfield index, 3)) (hp : pc + 3 = pc') (K : ∀ T', Stand p l e R s m args below meth c T' locs cells slots → T'.heap = h → Dn p e below P (T'.setTop (mkF m pc' Ls (v :: st)))) : Dn p e below P (T.setTop (mkF m pc Ls (.ref a :: st))) := by
  subst hp
  obtain ⟨T', X', e', st'⟩ := getF X hx hZ hown (host := "") (Or.inl w) Via.refl eT F (g := mkF m pc Ls (.ref a :: st)) rfl rfl hd
  exact go st' (K T' X' e')
theorem o_getfieldN (X : Stand p l e R s m args below meth c T locs cells slots) (hx : p.tables.exec = Jvm.exec) (hZ : Z.Warmed39 s.vm) {own O n d host : String} {index : Nat} (hown : s.vm.findClass own = some m.cls) (w : (Jvm.Cond.fieldLinkNest own index O n d host).before a0 Z = true) (eT : T.heap = h) {a : Addr} {v : Value} (F : Fld Z h a O n d v) (hd : decode c.code pc = .ok (.getfield index, 3)) (hp : pc + 3 = pc') (K : ∀ T', Stand p l e R s m args below meth c T' locs cells slots → T'.heap = h → Dn p e below P (T'.setTop (mkF m pc' Ls (v :: st)))) : Dn p e below P (T.setTop (mkF m pc Ls (.ref a :: st))) := by
  subst hp
  obtain ⟨T', X', e', st'⟩ := getF X hx hZ hown (host := host) (Or.inr w) Via.refl eT F (g := mkF m pc Ls (.ref a :: st)) rfl rfl hd
  exact go st' (K T' X' e')
theorem o_putfield (X : Stand p l e R s m args below meth c T locs cells slots) (hx : p.tables.exec = Jvm.exec) (hZ : Z.Warmed39 s.vm) {own O n d C : String} {index kk : Nat} {ty : FieldType} (hown : s.vm.findClass own = some m.cls) (w : (Jvm.Cond.fieldLink own index O n d).before a0 Z = true) (eT : T.heap = h) {a : Addr} {v v' old : Value} (F : Fld Z h a O n d old) (E : Exa Z h a C) (L : (Jvm.Cond.lays C O n d).before a0 Z = true ∨ ((Jvm.Cond.laysFinal C O n d).before a0 Z = true ∧ own = O ∧ meth.name = "<init>")) (wi : (Jvm.Cond.instantiable C kk).before a0 Z = true) (hty : parseFieldDescriptor d = some ty) (hn : narrow ty v = v') (hf : fits ty v' = true) (hd : decode c.code pc = .ok (.putfield index, 3)) (hp : pc + 3 = pc') (K : ∀ T' h', Stand p l e R s m args below meth c T' (locs ++ [⟨a, Jvm.RoadKit.slotOf Z O n d⟩]) cells slots → T'.heap = h' → Wr h h' a (Jvm.RoadKit.slotOf Z O n d) v' → Fld Z h' a O n d v' → Exa Z h' a C → Dn p e below P (T'.setTop (mkF m pc' Ls st))) : Dn p e below P (T.setTop (mkF m pc Ls (v :: .ref a :: st))) := by
  subst hp
  obtain ⟨T', h', X', e', W', st'⟩ := putFN X hx hZ hown w Via.refl eT F E L wi hty hn hf (g := mkF m pc Ls (v :: .ref a :: st)) rfl rfl hd
  exact go st' (K T' h' X' e' W' (F.same W') (E.wr W'))
theorem o_getstatic (X : Stand p l e R s m args below meth c T locs cells slots) (hx : p.tables.exec = Jvm.exec) (hZ : Z.Warmed39 s.vm) {own O n d : String} {index : Nat} (hown : s.vm.findClass own = some m.cls) (w : (Jvm.Cond.fieldLink own index O n d).before a0 Z = true) (eT : T.heap = h) {v : Value} (F : Sta Z h O n d v) (hd : decode c.code pc = .ok (.getstatic index, 3)) (hp : pc + 3 = pc') (K : ∀ T', Stand p l e R s m args below meth c T' locs cells slots → T'.heap = h → Dn p e below P (T'.setTop (mkF m pc' Ls (v :: st)))) : Dn p e below P (T.setTop (mkF m pc Ls st)) := by
  subst hp
  obtain ⟨T', X', e', st'⟩ := getS2 X hx hZ hown (host := "") (Or.inl w) Via.refl eT F (g := mkF m pc Ls st) rfl hd
  exact go st' (K T' X' e')
theorem o_new (X : Stand p l e R s m args below meth c T locs cells slots) (hx : p.tables.exec = Jvm.exec) (hZ : Z.Warmed39 s.vm) {own C : String} {index n : Nat} (hown : s.vm.findClass own = some m.cls) (w : (Jvm.Cond.classLink own index C).before a0 Z = true) (wi : (Jvm.Cond.instantiable C n).before a0 Z = true) (wz : (Jvm.Cond.initialized C).before a0 Z = true) (eT : T.heap = h) (hd : decode c.code pc = .ok (.new index, 3)) (hp : pc + 3 = pc') (hc : cells + 1 ≤ R.cells) (hs : slots + n ≤ R.slots) (K : ∀ T' h' a, a = h.size → Stand p l e R s m args below meth c T' locs (cells + 1) (slots + n) → T'.heap = h' → Ext h h' → Exa Z h' a C → (∀ {O nm d : String} {ty : FieldType}, Laid Z a0 C O nm d → parseFieldDescriptor d = some ty → Fld Z h' a O nm d (defaultValue ty)) → Dn p e below P (T'.setTop (mkF m pc' Ls (.ref a :: st)))) : Dn p e below P (T.setTop (mkF m pc Ls st)) := by
  subst hp
  obtain ⟨T', h', X', e', E', A', D', -, st'⟩ := newO X hx hZ hown w wi wz eT (g := mkF m pc Ls st) rfl hd hc hs
  exact go st' (K T' h' _ rfl X' e' E' A' D')
theorem o_initO (X : Stand p l e R s m args below meth c T locs cells slots) (hx : p.tables.exec = Jvm.exec) (hZ : Z.Warmed39 s.vm) {own : String} {index : Nat} (hown : s.vm.findClass own = some m.cls) (w1 : (Jvm.Cond.methodLink own index Lib.objectInit).before a0 Z = true) (w2 : (Jvm.Cond.instanceMethod Lib.objectInit).before a0 Z = true) (w3 : (Jvm.Cond.code Lib.objectInit ⟨#[0xb1]⟩ 1 none).before a0 Z = true) (eT : T.heap = h) (hsize : Ls.size = c.maxLocals) {a : Addr} (hd : decode c.code pc = .ok (.invokespecial index, 3)) (hp : pc + 3 = pc') (hf : 1 ≤ R.frames) {W : Nat} (hW : 2 * 0 + (st.map fun v => v.category).sum ≤ W) (hl : W + 12 ≤ R.locals) (K : ∀ T', Stand p l e R s m args below meth c T' locs cells slots → T'.heap = h → Dn p e below P (T'.setTop (mkF m pc' Ls st))) : Dn p e below P (T.setTop (mkF m pc Ls (.ref a :: st))) := by
  subst hp
  obtain ⟨T', X', e', st'⟩ := initO X hx hZ hown w1 w2 w3 eT (g := mkF m pc Ls (.ref a :: st)) rfl hsize rfl hd hf (W := W) hW hl
  exact go st' (K T' X' e')
theorem o_callS (X : Stand p l e R s m args below meth c T locs cells slots) (hx : p.tables.exec = Jvm.exec) (hZ : Z.Warmed39 s.vm) {own : String} {index : Nat} {y : MethodName} {bytes : ByteArray} {maxL : Nat} {ret : Option FieldType} {Rm : Room} {Q : Option Value → Heap → List Loc → Prop} {ps : List FieldType} (argsL : List Value) {as' : Array Value} (C : Ctr l Z y bytes maxL ret [] Rm as' h Q) (hown : s.vm.findClass own = some m.cls) (w1 : (Jvm.Cond.methodLink own index y).before a0 Z = true) (w2 : (Jvm.Cond.static y).before a0 Z = true) (w3 : (Jvm.Cond.initialized y.cls).before a0 Z = true) (w4 : (Jvm.Cond.code y bytes maxL ret).before a0 Z = true) (hy : y.cls ≠ "java/lang/invoke/MethodHandle" ∧ y.cls ≠ "java/lang/invoke/VarHandle") (hpd : parseMethodDescriptor y.desc = some ⟨ps, ret⟩) (eT : T.heap = h) (hsize : Ls.size = c.maxLocals) {stk : List Value} (has : as' = argsL.toArray) (hln : argsL.length = ps.length) (hst : stk = argsL.reverse ++ st) (hd : decode c.code pc = .ok (.invokestatic index, 3)) (hp : pc + 3 = pc') (W : Nat) (hW : 2 * 0 + (st.map fun v => v.category).sum ≤ W) (hf : Rm.frames + 1 ≤ R.frames) (hl : W + (maxL + 11) + Rm.locals ≤ R.locals) (hc : cells + Rm.cells ≤ R.cells) (hs : slots + Rm.slots ≤ R.slots) (K : ∀ T' v L, Stand p l e R s m args below meth c T' (locs ++ L) (cells + Rm.cells) (slots + Rm.slots) → Q v T'.heap L → Dn p e below P (T'.setTop (mkF m pc' Ls (v.toList ++ st)))) : Dn p e below P (T.setTop (mkF m pc Ls stk)) := by
  subst hp has hst
  obtain ⟨v, vm₁, ⟨T', L', k', n'⟩, -, X', ⟨L, hQ, l1, y1, z1⟩, st'⟩ := Jvm.LawKit.callS X hx (y := y) hown (mvT hZ w1) (mvT hZ w2) (mvT hZ w3) (mvT hZ w4) hy (backOf (W := W) C hZ w4 w3 hf hl) (g := mkF m pc Ls (argsL.reverse ++ st)) rfl hsize (argsL := argsL) (rest := st) (lenOf hpd hln) rfl hW hd (fun _ _ => ⟨rfl, eT, hc, hs⟩)
  dsimp only [Pt.U, Pt.locs, Pt.cells, Pt.slots] at X' l1 y1 z1 st' hQ
  subst l1 y1 z1
  exact go st' (K T' v L X' hQ)
theorem o_callI (X : Stand p l e R s m args below meth c T locs cells slots) (hx : p.tables.exec = Jvm.exec) (hZ : Z.Warmed39 s.vm) {own : String} {index : Nat} {y : MethodName} {bytes : ByteArray} {maxL : Nat} {Rm : Room} {Q : Option Value → Heap → List Loc → Prop} {ps : List FieldType} (a : Addr) (argsL : List Value) {as' : Array Value} (C : Ctr l Z y bytes maxL none [] Rm as' h Q) (hy1 : y.name = "<init>") (hown : s.vm.findClass own = some m.cls) (w1 : (Jvm.Cond.methodLink own index y).before a0 Z = true) (w2 : (Jvm.Cond.instanceMethod y).before a0 Z = true) (w3 : (Jvm.Cond.initialized y.cls).before a0 Z = true) (w4 : (Jvm.Cond.code y bytes maxL none).before a0 Z = true) (hy : y.cls ≠ "java/lang/invoke/MethodHandle" ∧ y.cls ≠ "java/lang/invoke/VarHandle") (hpd : parseMethodDescriptor y.desc = some ⟨ps, none⟩) (eT : T.heap = h) (hsize : Ls.size = c.maxLocals) {stk : List Value} (has : as' = (.ref a :: argsL).toArray) (hln : argsL.length = ps.length) (hst : stk = argsL.reverse ++ .ref a :: st) (hd : decode c.code pc = .ok (.invokespecial index, 3)) (hp : pc + 3 = pc') (W : Nat) (hW : 2 * 0 + (st.map fun v => v.category).sum ≤ W) (hf : Rm.frames + 1 ≤ R.frames) (hl : W + (maxL + 11) + Rm.locals ≤ R.locals) (hc : cells + Rm.cells ≤ R.cells) (hs : slots + Rm.slots ≤ R.slots) (K : ∀ T' v L, Stand p l e R s m args below meth c T' (locs ++ L) (cells + Rm.cells) (slots + Rm.slots) → Q v T'.heap L → Dn p e below P (T'.setTop (mkF m pc' Ls (v.toList ++ st)))) : Dn p e below P (T.setTop (mkF m pc Ls stk)) := by
  subst hp has hst
  obtain ⟨v, vm₁, ⟨T', L', k', n'⟩, -, X', ⟨L, hQ, l1, y1, z1⟩, st'⟩ := X.specialBack hx (y := y) hy1 hown (mvT hZ w1) (mvT hZ w2) (mvT hZ w4) hy (backOf (W := W) C hZ w4 w3 hf hl) (g := mkF m pc Ls (argsL.reverse ++ .ref a :: st)) rfl hsize (Steps.refl _) (a := a) (argsL := argsL) (rest := st) (lenOf hpd hln) rfl hW hd (fun _ _ => ⟨rfl, eT, hc, hs⟩)
  dsimp only [Pt.U, Pt.locs, Pt.cells, Pt.slots] at X' l1 y1 z1 st' hQ
  subst l1 y1 z1
  exact goS st' (K T' v L X' hQ)
theorem o_callV (X : Stand p l e R s m args below meth c T locs cells slots) (hx : p.tables.exec = Jvm.exec) (hZ : Z.Warmed39 s.vm) {own Cc : String} {index : Nat} {y : MethodName} {bytes : ByteArray} {maxL : Nat} {ret : Option FieldType} {Rm : Room} {Q : Option Value → Heap → List Loc → Prop} {ps : List FieldType} (a : Addr) (argsL : List Value) {as' : Array Value} (C : Ctr l Z y bytes maxL ret [] Rm as' h Q) (hown : s.vm.findClass own = some m.cls) (w1 : (Jvm.Cond.methodLink own index y).before a0 Z = true) (w5 : (Jvm.Cond.declares y).before a0 Z = true) (w6 : (Jvm.Cond.selects Cc y y).before a0 Z = true) (w2 : (Jvm.Cond.instanceMethod y).before a0 Z = true) (w3 : (Jvm.Cond.initialized y.cls).before a0 Z = true) (w4 : (Jvm.Cond.code y bytes maxL ret).before a0 Z = true) (hy : y.cls ≠ "java/lang/invoke/MethodHandle" ∧ y.cls ≠ "java/lang/invoke/VarHandle") (E : Exa Z h a Cc) (hpd : parseMethodDescriptor y.desc = some ⟨ps, ret⟩) (eT : T.heap = h) (hsize : Ls.size = c.maxLocals) {stk : List Value} (has : as' = (.ref a :: argsL).toArray) (hln : argsL.length = ps.length) (hst : stk = argsL.reverse ++ .ref a :: st) (hd : decode c.code pc = .ok (.invokevirtual index, 3)) (hp : pc + 3 = pc') (W : Nat) (hW : 2 * 0 + (st.map fun v => v.category).sum ≤ W) (hf : Rm.frames + 1 ≤ R.frames) (hl : W + (maxL + 11) + Rm.locals ≤ R.locals) (hc : cells + Rm.cells ≤ R.cells) (hs : slots + Rm.slots ≤ R.slots) (K : ∀ T' v L, Stand p l e R s m args below meth c T' (locs ++ L) (cells + Rm.cells) (slots + Rm.slots) → Q v T'.heap L → Dn p e below P (T'.setTop (mkF m pc' Ls (v.toList ++ st)))) : Dn p e below P (T.setTop (mkF m pc Ls stk)) := by
  subst hp has hst
  obtain ⟨cq, kq, qa, qb, qc⟩ := isOf (T := T) hZ eT E
  obtain ⟨v, vm₁, ⟨T', L', k', n'⟩, -, X', ⟨L, hQ, l1, y1, z1⟩, st'⟩ := X.virtualBack hx (y := y) (z := y) hown (mvT hZ w1) (mvT hZ w5) (notFace_of_selects (args := #[]) (mvT hZ w6)) (mvT hZ w6) (mvT hZ w2) hy (backOf (W := W) C hZ w4 w3 hf hl) qa qc (g := mkF m pc Ls (argsL.reverse ++ .ref a :: st)) rfl hsize (Steps.refl _) (argsL := argsL) (rest := st) (lenOf hpd hln) rfl hW hd (fun _ _ => ⟨rfl, eT, hc, hs⟩)
  dsimp only [Pt.U, Pt.locs, Pt.cells, Pt.slots] at X' l1 y1 z1 st' hQ
  subst l1 y1 z1
  exact goS st' (K T' v L X' hQ)
theorem o_callP (X : Stand p l e R s m args below meth c T locs cells slots) (hx : p.tables.exec = Jvm.exec) (hZ : Z.Warmed39 s.vm) {own : String} {index : Nat} {y : MethodName} {bytes : ByteArray} {maxL : Nat} {ret : Option FieldType} {Rm : Room} {Q : Option Value → Heap → List Loc → Prop} {ps : List FieldType} (a : Addr) (argsL : List Value) {as' : Array Value} (C : Ctr l Z y bytes maxL ret [] Rm as' h Q) (hown : s.vm.findClass own = some m.cls) (w1 : (Jvm.Cond.methodLink own index y).before a0 Z = true) {kk : Nat} (w6 : (Jvm.Cond.instantiable y.cls kk).before a0 Z = true) (w7 : (Jvm.Cond.privateMethod y).before a0 Z = true) (w2 : (Jvm.Cond.instanceMethod y).before a0 Z = true) (w3 : (Jvm.Cond.initialized y.cls).before a0 Z = true) (w4 : (Jvm.Cond.code y bytes maxL ret).before a0 Z = true) (hy : y.cls ≠ "java/lang/invoke/MethodHandle" ∧ y.cls ≠ "java/lang/invoke/VarHandle") {Cc : String} (E : Exa Z h a Cc) (hpd : parseMethodDescriptor y.desc = some ⟨ps, ret⟩) (eT : T.heap = h) (hsize : Ls.size = c.maxLocals) {stk : List Value} (has : as' = (.ref a :: argsL).toArray) (hln : argsL.length = ps.length) (hst : stk = argsL.reverse ++ .ref a :: st) (hd : decode c.code pc = .ok (.invokevirtual index, 3)) (hp : pc + 3 = pc') (W : Nat) (hW : 2 * 0 + (st.map fun v => v.category).sum ≤ W) (hf : Rm.frames + 1 ≤ R.frames) (hl : W + (maxL + 11) + Rm.locals ≤ R.locals) (hc : cells + Rm.cells ≤ R.cells) (hs : slots + Rm.slots ≤ R.slots) (K : ∀ T' v L, Stand p l e R s m args below meth c T' (locs ++ L) (cells + Rm.cells) (slots + Rm.slots) → Q v T'.heap L → Dn p e below P (T'.setTop (mkF m pc' Ls (v.toList ++ st)))) : Dn p e below P (T.setTop (mkF m pc Ls stk)) := by
  subst hp has hst
  obtain ⟨cq, q1, q2⟩ := E.cell
  obtain ⟨cc, kc, hcc, hkc, -, hni, -, -⟩ := Jvm.Cond.instantiable_spec (mvT (args := args) hZ w6)
  have hpv := Jvm.Cond.privateMethod_at (mvP hZ w7 (args := #[]))
  have hsel := selects_self_of_private (args := args) hcc hkc (Bool.or_eq_false_iff.mp hni).1 hpv (mvT hZ w2) hy
  obtain ⟨v, vm₁, ⟨T', L', k', n'⟩, -, X', ⟨L, hQ, l1, y1, z1⟩, st'⟩ := X.privateBack hx (y := y) hown (mvT hZ w1) (mvT hZ w2) hsel hpv (mvT hZ w4) hy (backOf (W := W) C hZ w4 w3 hf hl) (g := mkF m pc Ls (argsL.reverse ++ .ref a :: st)) rfl hsize (Steps.refl _) (a := a) (by rw [eT]; exact q1) q2 (argsL := argsL) (rest := st) (lenOf hpd hln) rfl hW hd (fun _ _ => ⟨rfl, eT, hc, hs⟩)
  dsimp only [Pt.U, Pt.locs, Pt.cells, Pt.slots] at X' l1 y1 z1 st' hQ
  subst l1 y1 z1
  exact goS st' (K T' v L X' hQ)
abbrev Pure (v0 : Value) (h0 : Heap) : Option Value → Heap → List Loc → Prop := fun v h L => v = some v0 ∧ L = [] ∧ h = h0
theorem o_callSP (X : Stand p l e R s m args below meth c T locs cells slots) (hx : p.tables.exec = Jvm.exec) (hZ : Z.Warmed39 s.vm) {own : String} {index : Nat} {y : MethodName} {bytes : ByteArray} {maxL : Nat} {ret : Option FieldType} {Rm : Room} {v0 : Value} {ps : List FieldType} (argsL : List Value) {as' : Array Value} (C : Ctr l Z y bytes maxL ret [] Rm as' h (Pure v0 h)) (hown : s.vm.findClass own = some m.cls) (w1 : (Jvm.Cond.methodLink own index y).before a0 Z = true) (w2 : (Jvm.Cond.static y).before a0 Z = true) (w3 : (Jvm.Cond.initialized y.cls).before a0 Z = true) (w4 : (Jvm.Cond.code y bytes maxL ret).before a0 Z = true) (hy : y.cls ≠ "java/lang/invoke/MethodHandle" ∧ y.cls ≠ "java/lang/invoke/VarHandle") (hpd : parseMethodDescriptor y.desc = some ⟨ps, ret⟩) (eT : T.heap = h) (hsize : Ls.size = c.maxLocals) {stk : List Value} (has : as' = argsL.toArray) (hln : argsL.length = ps.length) (hst : stk = argsL.reverse ++ st) (hd : decode c.code pc = .ok (.invokestatic index, 3)) (hp : pc + 3 = pc') (W : Nat) (hW : 2 * 0 + (st.map fun v => v.category).sum ≤ W) (hf : Rm.frames + 1 ≤ R.frames) (hl : W + (maxL + 11) + Rm.locals ≤ R.locals) (hc0 : Rm.cells = 0) (hs0 : Rm.slots = 0) (hc : cells ≤ R.cells) (hs : slots ≤ R.slots) (K : ∀ T', Stand p l e R s m args below meth c T' locs cells slots → T'.heap = h → Dn p e below P (T'.setTop (mkF m pc' Ls (v0 :: st)))) : Dn p e below P (T.setTop (mkF m pc Ls stk)) := by
  refine o_callS X hx hZ argsL C hown w1 w2 w3 w4 hy hpd eT hsize has hln hst hd hp W hW hf hl (by rw [hc0]; exact hc) (by rw [hs0]; exact hs) ?_
  intro T' v L X' hQ
  obtain ⟨rfl, rfl, e'⟩ := hQ
  rw [List.append_nil, hc0, hs0] at X'
  exact K T' X' e'
theorem o_callVP (X : Stand p l e R s m args below meth c T locs cells slots) (hx : p.tables.exec = Jvm.exec) (hZ : Z.Warmed39 s.vm) {own Cc : String} {index : Nat} {y : MethodName} {bytes : ByteArray} {maxL : Nat} {ret : Option FieldType} {Rm : Room} {v0 : Value} {ps : List FieldType} (a : Addr) (argsL : List Value) {as' : Array Value} (C : Ctr l Z y bytes maxL ret [] Rm as' h (Pure v0 h)) (hown : s.vm.findClass own = some m.cls) (w1 : (Jvm.Cond.methodLink own index y).before a0 Z = true) (w5 : (Jvm.Cond.declares y).before a0 Z = true) (w6 : (Jvm.Cond.selects Cc y y).before a0 Z = true) (w2 : (Jvm.Cond.instanceMethod y).before a0 Z = true) (w3 : (Jvm.Cond.initialized y.cls).before a0 Z = true) (w4 : (Jvm.Cond.code y bytes maxL ret).before a0 Z = true) (hy : y.cls ≠ "java/lang/invoke/MethodHandle" ∧ y.cls ≠ "java/lang/invoke/VarHandle") (E : Exa Z h a Cc) (hpd : parseMethodDescriptor y.desc = some ⟨ps, ret⟩) (eT : T.heap = h) (hsize : Ls.size = c.maxLocals) {stk : List Value} (has : as' = (.ref a :: argsL).toArray) (hln : argsL.length = ps.length) (hst : stk = argsL.reverse ++ .ref a :: st) (hd : decode c.code pc = .ok (.invokevirtual index, 3)) (hp : pc + 3 = pc') (W : Nat) (hW : 2 * 0 + (st.map fun v => v.category).sum ≤ W) (hf : Rm.frames + 1 ≤ R.frames) (hl : W + (maxL + 11) + Rm.locals ≤ R.locals) (hc0 : Rm.cells = 0) (hs0 : Rm.slots = 0) (hc : cells ≤ R.cells) (hs : slots ≤ R.slots) (K : ∀ T', Stand p l e R s m args below meth c T' locs cells slots → T'.heap = h → Dn p e below P (T'.setTop (mkF m pc' Ls (v0 :: st)))) : Dn p e below P (T.setTop (mkF m pc Ls stk)) := by
  refine o_callV X hx hZ a argsL C hown w1 w5 w6 w2 w3 w4 hy E hpd eT hsize has hln hst hd hp W hW hf hl (by rw [hc0]; exact hc) (by rw [hs0]; exact hs) ?_
  intro T' v L X' hQ
  obtain ⟨rfl, rfl, e'⟩ := hQ
  rw [List.append_nil, hc0, hs0] at X'
  exact K T' X' e'
theorem o_callPP (X : Stand p l e R s m args below meth c T locs cells slots) (hx : p.tables.exec = Jvm.exec) (hZ : Z.Warmed39 s.vm) {own : String} {index : Nat} {y : MethodName} {bytes : ByteArray} {maxL : Nat} {ret : Option FieldType} {Rm : Room} {v0 : Value} {ps : List FieldType} (a : Addr) (argsL : List Value) {as' : Array Value} (C : Ctr l Z y bytes maxL ret [] Rm as' h (Pure v0 h)) (hown : s.vm.findClass own = some m.cls) (w1 : (Jvm.Cond.methodLink own index y).before a0 Z = true) {kk : Nat} (w6 : (Jvm.Cond.instantiable y.cls kk).before a0 Z = true) (w7 : (Jvm.Cond.privateMethod y).before a0 Z = true) (w2 : (Jvm.Cond.instanceMethod y).before a0 Z = true) (w3 : (Jvm.Cond.initialized y.cls).before a0 Z = true) (w4 : (Jvm.Cond.code y bytes maxL ret).before a0 Z = true) (hy : y.cls ≠ "java/lang/invoke/MethodHandle" ∧ y.cls ≠ "java/lang/invoke/VarHandle") {Cc : String} (E : Exa Z h a Cc) (hpd : parseMethodDescriptor y.desc = some ⟨ps, ret⟩) (eT : T.heap = h) (hsize : Ls.size = c.maxLocals) {stk : List Value} (has : as' = (.ref a :: argsL).toArray) (hln : argsL.length = ps.length) (hst : stk = argsL.reverse ++ .ref a :: st) (hd : decode c.code pc = .ok (.invokevirtual index, 3)) (hp : pc + 3 = pc') (W : Nat) (hW : 2 * 0 + (st.map fun v => v.category).sum ≤ W) (hf : Rm.frames + 1 ≤ R.frames) (hl : W + (maxL + 11) + Rm.locals ≤ R.locals) (hc0 : Rm.cells = 0) (hs0 : Rm.slots = 0) (hc : cells ≤ R.cells) (hs : slots ≤ R.slots) (K : ∀ T', Stand p l e R s m args below meth c T' locs cells slots → T'.heap = h → Dn p e below P (T'.setTop (mkF m pc' Ls (v0 :: st)))) : Dn p e below P (T.setTop (mkF m pc Ls stk)) := by
  refine o_callP X hx hZ a argsL C hown w1 w6 w7 w2 w3 w4 hy E hpd eT hsize has hln hst hd hp W hW hf hl (by rw [hc0]; exact hc) (by rw [hs0]; exact hs) ?_
  intro T' v L X' hQ
  obtain ⟨rfl, rfl, e'⟩ := hQ
  rw [List.append_nil, hc0, hs0] at X'
  exact K T' X' e'
end Own
theorem own_eqI {args : Array Value} {s : State} {t : Term} {k : Int32} (h : (Jvm.Cond.eq t (.int k)).value args s none s [] = some true) : t.eval args s none [] s = some (.int k) := by
  obtain ⟨x, y, hx, hy, -, k2⟩ := cmp_v (Or.inl h)
  obtain rfl : y = .int k := Option.some.inj (hy.symm.trans (Term.int_eval k))
  obtain ⟨z, rfl⟩ := k2
  have q := gotT (Jvm.Cond.eq_ints hx (Term.int_eval k)) h
  rw [hx, q]
theorem own_eqR {args : Array Value} {s : State} {t u : Term} {a : Addr} (hu : u.eval args s none [] s = some (.ref a)) (h : (Jvm.Cond.eq t u).value args s none s [] = some true) : t.eval args s none [] s = some (.ref a) := by
  obtain ⟨x, y, hx, hy, -, k2⟩ := cmp_v (Or.inl h)
  obtain rfl : y = .ref a := Option.some.inj (hy.symm.trans hu)
  have q := gotT (eq_R hx hu k2.2 rfl) h
  rw [hx, q]
theorem own_size {args : Array Value} {s : State} {t : Term} {b : Addr} {cl : Cell} (ev : t.eval args s none [] s = some (.ref b)) (harr : s.arrayAt? b = some cl) (hlen : (Term.length t).eval args s none [] s = some (.int 4)) : cl.slots.size = 4 := by
  by_cases q : cl.slots.size < 2 ^ 31
  · rw [len_f ev harr q] at hlen
    have h2 := congrArg Int32.toInt (Value.int.inj (Option.some.inj hlen))
    rw [len_toInt q] at h2
    have : (4 : Int32).toInt = 4 := by decide
    omega
  · simp [Term.eval, ev, harr, q] at hlen
theorem d1_0 : decode prog_5_method_4_code 0 = .ok (.getstatic 84, 3) := by decide +kernel
theorem d1_3 : decode prog_5_method_4_code 3 = .ok (.astore_n 1, 1) := by decide +kernel
theorem d1_4 : decode prog_5_method_4_code 4 = .ok (.aload_n 1, 1) := by decide +kernel
theorem d1_5 : decode prog_5_method_4_code 5 = .ok (.arraylength, 1) := by decide +kernel
theorem d1_6 : decode prog_5_method_4_code 6 = .ok (.istore_n 2, 1) := by decide +kernel
theorem d1_7 : decode prog_5_method_4_code 7 = .ok (.iconst 0, 1) := by decide +kernel
theorem d1_8 : decode prog_5_method_4_code 8 = .ok (.istore_n 3, 1) := by decide +kernel
theorem d1_9 : decode prog_5_method_4_code 9 = .ok (.iload_n 3, 1) := by decide +kernel
theorem d1_10 : decode prog_5_method_4_code 10 = .ok (.iload_n 2, 1) := by decide +kernel
theorem d1_11 : decode prog_5_method_4_code 11 = .ok (.if_icmp .ge 26, 3) := by decide +kernel
theorem d1_14 : decode prog_5_method_4_code 14 = .ok (.aload_n 1, 1) := by decide +kernel
theorem d1_15 : decode prog_5_method_4_code 15 = .ok (.iload_n 3, 1) := by decide +kernel
theorem d1_16 : decode prog_5_method_4_code 16 = .ok (.aaload, 1) := by decide +kernel
theorem d1_17 : decode prog_5_method_4_code 17 = .ok (.astore 4, 2) := by decide +kernel
theorem d1_19 : decode prog_5_method_4_code 19 = .ok (.aload 4, 2) := by decide +kernel
theorem d1_21 : decode prog_5_method_4_code 21 = .ok (.getfield 35, 3) := by decide +kernel
theorem d1_24 : decode prog_5_method_4_code 24 = .ok (.iload_n 0, 1) := by decide +kernel
theorem d1_25 : decode prog_5_method_4_code 25 = .ok (.if_icmp .ne 6, 3) := by decide +kernel
theorem d1_28 : decode prog_5_method_4_code 28 = .ok (.aload 4, 2) := by decide +kernel
theorem d1_30 : decode prog_5_method_4_code 30 = .ok (.areturn, 1) := by decide +kernel
theorem pn_1 : plainFor (⟨"com/example/jadoube/jadoube/Castling", "forLetter", "(C)Lcom/example/jadoube/jadoube/Castling;"⟩ : MethodName) = true := plainFor_of_name (by show plainName "com/example/jadoube/jadoube/Castling" = true; first | (simp [plainName, overriddenIn]; done) | decide +kernel)
theorem ef_1 (m : MethodId) (p1 : Int32) : entryFrame m #[(.int p1)] 5 = mkF m 0 #[.val (.int p1), .unset, .unset, .unset, .unset] [] := by first | (simp [entryFrame, mkF, argsToLocals, Value.category]; done) | rfl
set_option maxRecDepth 65536 in
set_option maxHeartbeats 40000000 in
theorem rmL0 (l : Launch) (Z : State) (a0 : Array Value) (hw : ∀ d ∈ tables_1, d.before a0 Z = true) (h0 : Heap) (n0 : Nat) (Z0 : n0 ≤ h0.size) (p1 : Int32) (aw ax ay az : Addr) (b : Addr) (k : ClassId) (dv : Value) (SC : Sta Z h0 "com/example/jadoube/jadoube/Castling" "CASTLINGS" "[Lcom/example/jadoube/jadoube/Castling;" (.ref b)) (V : Arv Z h0 b k (.object "com/example/jadoube/jadoube/Castling") 4 [.ref aw, .ref ax, .ref ay, .ref az] dv) (F0 : Fld Z h0 aw "com/example/jadoube/jadoube/Castling" "letter" "C" (.int 75)) (F1 : Fld Z h0 ax "com/example/jadoube/jadoube/Castling" "letter" "C" (.int 81)) (F2 : Fld Z h0 ay "com/example/jadoube/jadoube/Castling" "letter" "C" (.int 107)) (F3 : Fld Z h0 az "com/example/jadoube/jadoube/Castling" "letter" "C" (.int 113)) (y : p1 = (75 : Int32)) : Ctr l Z (⟨"com/example/jadoube/jadoube/Castling", "forLetter", "(C)Lcom/example/jadoube/jadoube/Castling;"⟩ : MethodName) prog_5_method_4_code 5 (some (.object "com/example/jadoube/jadoube/Castling")) [] ({ frames := 0, cells := 0, slots := 0, locals := 0 } : Room) #[(.int p1)] h0 (Pure (.ref aw) h0) := by
  refine ctr_mk pn_1 (own := "com/example/jadoube/jadoube/Castling") (mn := "forLetter") rfl rfl ?_
  intro p e s m below meth c T0 X0 hx hby hml hZ hown hnm hret hlk e0
  refine o_entry (ef_1 m p1) ?_
  refine o_getstatic X0 hx hZ hown (hw _ (List.mem_of_getElem? (i := 4) rfl)) e0 SC (hb hby d1_0) (pc' := 3) rfl ?_
  intro T1 X1 e1
  refine o_astoreN X1 hx (pc' := 4) (Ls' := #[.val (.int p1), .val (.ref b), .unset, .unset, .unset]) (hb hby d1_3) rfl rfl rfl ?_
  refine o_aloadN X1 hx (pc' := 5) (hb hby d1_4) rfl rfl rfl ?_
  refine o_arraylength X1 hx hZ e1 V (hb hby d1_5) (pc' := 6) rfl ?_
  refine o_istoreN X1 hx (pc' := 7) (Ls' := #[.val (.int p1), .val (.ref b), .val (.int (4 : Int32)), .unset, .unset]) (hb hby d1_6) rfl rfl ?_
  refine o_iconst X1 hx (pc' := 8) (v := (0 : Int32)) (hb hby d1_7) rfl rfl ?_
  refine o_istoreN X1 hx (pc' := 9) (Ls' := #[.val (.int p1), .val (.ref b), .val (.int (4 : Int32)), .val (.int (0 : Int32)), .unset]) (hb hby d1_8) rfl rfl ?_
  refine o_iloadN X1 hx (pc' := 10) (hb hby d1_9) rfl rfl ?_
  refine o_iloadN X1 hx (pc' := 11) (hb hby d1_10) rfl rfl ?_
  refine o_icmp_ge X1 hx (pc' := 14) (pt := 37) (hb hby d1_11) rfl (by decide) (by decide) (fun q => absurd (by decide) q) (fun _ => ?_)
  refine o_aloadN X1 hx (pc' := 15) (hb hby d1_14) rfl rfl rfl ?_
  refine o_iloadN X1 hx (pc' := 16) (hb hby d1_15) rfl rfl ?_
  refine o_aaload X1 hx hZ e1 V rfl (by decide) (v := (.ref aw)) rfl (hb hby d1_16) (pc' := 17) rfl ?_
  refine o_astore X1 hx (pc' := 19) (Ls' := #[.val (.int p1), .val (.ref b), .val (.int (4 : Int32)), .val (.int (0 : Int32)), .val (.ref aw)]) (hb hby d1_17) rfl rfl rfl ?_
  refine o_aload X1 hx (pc' := 21) (hb hby d1_19) rfl rfl rfl ?_
  refine o_getfield X1 hx hZ hown (hw _ (List.mem_of_getElem? (i := 7) rfl)) e1 F0 (hb hby d1_21) (pc' := 24) rfl ?_
  intro T2 X2 e2
  refine o_iloadN X2 hx (pc' := 25) (hb hby d1_24) rfl rfl ?_
  refine o_icmp_ne X2 hx (pc' := 28) (pt := 31) (hb hby d1_25) rfl (by decide) (by decide) (fun q => absurd y.symm q) (fun _ => ?_)
  refine o_aload X2 hx (pc' := 30) (hb hby d1_28) rfl rfl rfl ?_
  exact finA X2 hx hlk rfl hret rfl rfl (hb hby d1_30) (by decide) (by decide) ⟨rfl, rfl, e2⟩
theorem d2_0 : decode method_3_code 0 = .ok (.iload_n 0, 1) := by decide +kernel
theorem d2_1 : decode method_3_code 1 = .ok (.bipush 75, 2) := by decide +kernel
theorem d2_3 : decode method_3_code 3 = .ok (.if_icmp .ne 7, 3) := by decide +kernel
theorem d2_6 : decode method_3_code 6 = .ok (.getstatic 18, 3) := by decide +kernel
theorem d2_9 : decode method_3_code 9 = .ok (.areturn, 1) := by decide +kernel
theorem pn_2 : plainFor (⟨"com/example/jadoube/jadoube/CastlingForLetterPinLaw", "expected", "(C)Lcom/example/jadoube/jadoube/Castling;"⟩ : MethodName) = true := plainFor_of_name (by show plainName "com/example/jadoube/jadoube/CastlingForLetterPinLaw" = true; first | (simp [plainName, overriddenIn]; done) | decide +kernel)
theorem ef_2 (m : MethodId) (p1 : Int32) : entryFrame m #[(.int p1)] 1 = mkF m 0 #[.val (.int p1)] [] := by first | (simp [entryFrame, mkF, argsToLocals, Value.category]; done) | rfl
set_option maxRecDepth 65536 in
set_option maxHeartbeats 40000000 in
theorem rmE0 (l : Launch) (Z : State) (a0 : Array Value) (hw : ∀ d ∈ tables_1, d.before a0 Z = true) (h0 : Heap) (n0 : Nat) (Z0 : n0 ≤ h0.size) (p1 : Int32) (aw ax ay az : Addr) (S0 : Sta Z h0 "com/example/jadoube/jadoube/Castling" "WHITE_KING_SIDE" "Lcom/example/jadoube/jadoube/Castling;" (.ref aw)) (S1 : Sta Z h0 "com/example/jadoube/jadoube/Castling" "WHITE_QUEEN_SIDE" "Lcom/example/jadoube/jadoube/Castling;" (.ref ax)) (S2 : Sta Z h0 "com/example/jadoube/jadoube/Castling" "BLACK_KING_SIDE" "Lcom/example/jadoube/jadoube/Castling;" (.ref ay)) (S3 : Sta Z h0 "com/example/jadoube/jadoube/Castling" "BLACK_QUEEN_SIDE" "Lcom/example/jadoube/jadoube/Castling;" (.ref az)) (y : p1 = (75 : Int32)) : Ctr l Z (⟨"com/example/jadoube/jadoube/CastlingForLetterPinLaw", "expected", "(C)Lcom/example/jadoube/jadoube/Castling;"⟩ : MethodName) method_3_code 1 (some (.object "com/example/jadoube/jadoube/Castling")) [] ({ frames := 0, cells := 0, slots := 0, locals := 0 } : Room) #[(.int p1)] h0 (Pure (.ref aw) h0) := by
  refine ctr_mk pn_2 (own := "com/example/jadoube/jadoube/CastlingForLetterPinLaw") (mn := "expected") rfl rfl ?_
  intro p e s m below meth c T0 X0 hx hby hml hZ hown hnm hret hlk e0
  refine o_entry (ef_2 m p1) ?_
  refine o_iloadN X0 hx (pc' := 1) (hb hby d2_0) rfl rfl ?_
  refine o_bipush X0 hx (pc' := 3) (v := (75 : Int32)) (hb hby d2_1) rfl rfl ?_
  refine o_icmp_ne X0 hx (pc' := 6) (pt := 10) (hb hby d2_3) rfl (by decide) (by decide) (fun q => absurd y q) (fun _ => ?_)
  refine o_getstatic X0 hx hZ hown (hw _ (List.mem_of_getElem? (i := 13) rfl)) e0 S0 (hb hby d2_6) (pc' := 9) rfl ?_
  intro T1 X1 e1
  exact finA X1 hx hlk rfl hret rfl rfl (hb hby d2_9) (by decide) (by decide) ⟨rfl, rfl, e1⟩
theorem d1_31 : decode prog_5_method_4_code 31 = .ok (.iinc 3 1, 3) := by decide +kernel
theorem d1_34 : decode prog_5_method_4_code 34 = .ok (.goto (-25), 3) := by decide +kernel
set_option maxRecDepth 65536 in
set_option maxHeartbeats 40000000 in
theorem rmL1 (l : Launch) (Z : State) (a0 : Array Value) (hw : ∀ d ∈ tables_1, d.before a0 Z = true) (h0 : Heap) (n0 : Nat) (Z0 : n0 ≤ h0.size) (p1 : Int32) (aw ax ay az : Addr) (b : Addr) (k : ClassId) (dv : Value) (SC : Sta Z h0 "com/example/jadoube/jadoube/Castling" "CASTLINGS" "[Lcom/example/jadoube/jadoube/Castling;" (.ref b)) (V : Arv Z h0 b k (.object "com/example/jadoube/jadoube/Castling") 4 [.ref aw, .ref ax, .ref ay, .ref az] dv) (F0 : Fld Z h0 aw "com/example/jadoube/jadoube/Castling" "letter" "C" (.int 75)) (F1 : Fld Z h0 ax "com/example/jadoube/jadoube/Castling" "letter" "C" (.int 81)) (F2 : Fld Z h0 ay "com/example/jadoube/jadoube/Castling" "letter" "C" (.int 107)) (F3 : Fld Z h0 az "com/example/jadoube/jadoube/Castling" "letter" "C" (.int 113)) (n0 : ¬ p1 = (75 : Int32)) (y : p1 = (81 : Int32)) : Ctr l Z (⟨"com/example/jadoube/jadoube/Castling", "forLetter", "(C)Lcom/example/jadoube/jadoube/Castling;"⟩ : MethodName) prog_5_method_4_code 5 (some (.object "com/example/jadoube/jadoube/Castling")) [] ({ frames := 0, cells := 0, slots := 0, locals := 0 } : Room) #[(.int p1)] h0 (Pure (.ref ax) h0) := by
  refine ctr_mk pn_1 (own := "com/example/jadoube/jadoube/Castling") (mn := "forLetter") rfl rfl ?_
  intro p e s m below meth c T0 X0 hx hby hml hZ hown hnm hret hlk e0
  refine o_entry (ef_1 m p1) ?_
  refine o_getstatic X0 hx hZ hown (hw _ (List.mem_of_getElem? (i := 4) rfl)) e0 SC (hb hby d1_0) (pc' := 3) rfl ?_
  intro T1 X1 e1
  refine o_astoreN X1 hx (pc' := 4) (Ls' := #[.val (.int p1), .val (.ref b), .unset, .unset, .unset]) (hb hby d1_3) rfl rfl rfl ?_
  refine o_aloadN X1 hx (pc' := 5) (hb hby d1_4) rfl rfl rfl ?_
  refine o_arraylength X1 hx hZ e1 V (hb hby d1_5) (pc' := 6) rfl ?_
  refine o_istoreN X1 hx (pc' := 7) (Ls' := #[.val (.int p1), .val (.ref b), .val (.int (4 : Int32)), .unset, .unset]) (hb hby d1_6) rfl rfl ?_
  refine o_iconst X1 hx (pc' := 8) (v := (0 : Int32)) (hb hby d1_7) rfl rfl ?_
  refine o_istoreN X1 hx (pc' := 9) (Ls' := #[.val (.int p1), .val (.ref b), .val (.int (4 : Int32)), .val (.int (0 : Int32)), .unset]) (hb hby d1_8) rfl rfl ?_
  refine o_iloadN X1 hx (pc' := 10) (hb hby d1_9) rfl rfl ?_
  refine o_iloadN X1 hx (pc' := 11) (hb hby d1_10) rfl rfl ?_
  refine o_icmp_ge X1 hx (pc' := 14) (pt := 37) (hb hby d1_11) rfl (by decide) (by decide) (fun q => absurd (by decide) q) (fun _ => ?_)
  refine o_aloadN X1 hx (pc' := 15) (hb hby d1_14) rfl rfl rfl ?_
  refine o_iloadN X1 hx (pc' := 16) (hb hby d1_15) rfl rfl ?_
  refine o_aaload X1 hx hZ e1 V rfl (by decide) (v := (.ref aw)) rfl (hb hby d1_16) (pc' := 17) rfl ?_
  refine o_astore X1 hx (pc' := 19) (Ls' := #[.val (.int p1), .val (.ref b), .val (.int (4 : Int32)), .val (.int (0 : Int32)), .val (.ref aw)]) (hb hby d1_17) rfl rfl rfl ?_
  refine o_aload X1 hx (pc' := 21) (hb hby d1_19) rfl rfl rfl ?_
  refine o_getfield X1 hx hZ hown (hw _ (List.mem_of_getElem? (i := 7) rfl)) e1 F0 (hb hby d1_21) (pc' := 24) rfl ?_
  intro T2 X2 e2
  refine o_iloadN X2 hx (pc' := 25) (hb hby d1_24) rfl rfl ?_
  refine o_icmp_ne X2 hx (pc' := 28) (pt := 31) (hb hby d1_25) rfl (by decide) (by decide) (fun _ => ?_) (fun q => absurd q (fun q => n0 q.symm))
  refine o_iinc X2 hx (pc' := 34) (Ls' := #[.val (.int p1), .val (.ref b), .val (.int (4 : Int32)), .val (.int (1 : Int32)), .val (.ref aw)]) (v := (1 : Int32)) (hb hby d1_31) rfl rfl rfl rfl ?_
  refine o_goto X2 hx (pc' := 9) (hb hby d1_34) (by decide) (by decide) ?_
  refine o_iloadN X2 hx (pc' := 10) (hb hby d1_9) rfl rfl ?_
  refine o_iloadN X2 hx (pc' := 11) (hb hby d1_10) rfl rfl ?_
  refine o_icmp_ge X2 hx (pc' := 14) (pt := 37) (hb hby d1_11) rfl (by decide) (by decide) (fun q => absurd (by decide) q) (fun _ => ?_)
  refine o_aloadN X2 hx (pc' := 15) (hb hby d1_14) rfl rfl rfl ?_
  refine o_iloadN X2 hx (pc' := 16) (hb hby d1_15) rfl rfl ?_
  refine o_aaload X2 hx hZ e2 V rfl (by decide) (v := (.ref ax)) rfl (hb hby d1_16) (pc' := 17) rfl ?_
  refine o_astore X2 hx (pc' := 19) (Ls' := #[.val (.int p1), .val (.ref b), .val (.int (4 : Int32)), .val (.int (1 : Int32)), .val (.ref ax)]) (hb hby d1_17) rfl rfl rfl ?_
  refine o_aload X2 hx (pc' := 21) (hb hby d1_19) rfl rfl rfl ?_
  refine o_getfield X2 hx hZ hown (hw _ (List.mem_of_getElem? (i := 7) rfl)) e2 F1 (hb hby d1_21) (pc' := 24) rfl ?_
  intro T3 X3 e3
  refine o_iloadN X3 hx (pc' := 25) (hb hby d1_24) rfl rfl ?_
  refine o_icmp_ne X3 hx (pc' := 28) (pt := 31) (hb hby d1_25) rfl (by decide) (by decide) (fun q => absurd y.symm q) (fun _ => ?_)
  refine o_aload X3 hx (pc' := 30) (hb hby d1_28) rfl rfl rfl ?_
  exact finA X3 hx hlk rfl hret rfl rfl (hb hby d1_30) (by decide) (by decide) ⟨rfl, rfl, e3⟩
theorem d2_10 : decode method_3_code 10 = .ok (.iload_n 0, 1) := by decide +kernel
theorem d2_11 : decode method_3_code 11 = .ok (.bipush 81, 2) := by decide +kernel
theorem d2_13 : decode method_3_code 13 = .ok (.if_icmp .ne 7, 3) := by decide +kernel
theorem d2_16 : decode method_3_code 16 = .ok (.getstatic 22, 3) := by decide +kernel
theorem d2_19 : decode method_3_code 19 = .ok (.areturn, 1) := by decide +kernel
set_option maxRecDepth 65536 in
set_option maxHeartbeats 40000000 in
theorem rmE1 (l : Launch) (Z : State) (a0 : Array Value) (hw : ∀ d ∈ tables_1, d.before a0 Z = true) (h0 : Heap) (n0 : Nat) (Z0 : n0 ≤ h0.size) (p1 : Int32) (aw ax ay az : Addr) (S0 : Sta Z h0 "com/example/jadoube/jadoube/Castling" "WHITE_KING_SIDE" "Lcom/example/jadoube/jadoube/Castling;" (.ref aw)) (S1 : Sta Z h0 "com/example/jadoube/jadoube/Castling" "WHITE_QUEEN_SIDE" "Lcom/example/jadoube/jadoube/Castling;" (.ref ax)) (S2 : Sta Z h0 "com/example/jadoube/jadoube/Castling" "BLACK_KING_SIDE" "Lcom/example/jadoube/jadoube/Castling;" (.ref ay)) (S3 : Sta Z h0 "com/example/jadoube/jadoube/Castling" "BLACK_QUEEN_SIDE" "Lcom/example/jadoube/jadoube/Castling;" (.ref az)) (n0 : ¬ p1 = (75 : Int32)) (y : p1 = (81 : Int32)) : Ctr l Z (⟨"com/example/jadoube/jadoube/CastlingForLetterPinLaw", "expected", "(C)Lcom/example/jadoube/jadoube/Castling;"⟩ : MethodName) method_3_code 1 (some (.object "com/example/jadoube/jadoube/Castling")) [] ({ frames := 0, cells := 0, slots := 0, locals := 0 } : Room) #[(.int p1)] h0 (Pure (.ref ax) h0) := by
  refine ctr_mk pn_2 (own := "com/example/jadoube/jadoube/CastlingForLetterPinLaw") (mn := "expected") rfl rfl ?_
  intro p e s m below meth c T0 X0 hx hby hml hZ hown hnm hret hlk e0
  refine o_entry (ef_2 m p1) ?_
  refine o_iloadN X0 hx (pc' := 1) (hb hby d2_0) rfl rfl ?_
  refine o_bipush X0 hx (pc' := 3) (v := (75 : Int32)) (hb hby d2_1) rfl rfl ?_
  refine o_icmp_ne X0 hx (pc' := 6) (pt := 10) (hb hby d2_3) rfl (by decide) (by decide) (fun _ => ?_) (fun q => absurd q n0)
  refine o_iloadN X0 hx (pc' := 11) (hb hby d2_10) rfl rfl ?_
  refine o_bipush X0 hx (pc' := 13) (v := (81 : Int32)) (hb hby d2_11) rfl rfl ?_
  refine o_icmp_ne X0 hx (pc' := 16) (pt := 20) (hb hby d2_13) rfl (by decide) (by decide) (fun q => absurd y q) (fun _ => ?_)
  refine o_getstatic X0 hx hZ hown (hw _ (List.mem_of_getElem? (i := 18) rfl)) e0 S1 (hb hby d2_16) (pc' := 19) rfl ?_
  intro T1 X1 e1
  exact finA X1 hx hlk rfl hret rfl rfl (hb hby d2_19) (by decide) (by decide) ⟨rfl, rfl, e1⟩
set_option maxRecDepth 65536 in
set_option maxHeartbeats 40000000 in
theorem rmL2 (l : Launch) (Z : State) (a0 : Array Value) (hw : ∀ d ∈ tables_1, d.before a0 Z = true) (h0 : Heap) (n0 : Nat) (Z0 : n0 ≤ h0.size) (p1 : Int32) (aw ax ay az : Addr) (b : Addr) (k : ClassId) (dv : Value) (SC : Sta Z h0 "com/example/jadoube/jadoube/Castling" "CASTLINGS" "[Lcom/example/jadoube/jadoube/Castling;" (.ref b)) (V : Arv Z h0 b k (.object "com/example/jadoube/jadoube/Castling") 4 [.ref aw, .ref ax, .ref ay, .ref az] dv) (F0 : Fld Z h0 aw "com/example/jadoube/jadoube/Castling" "letter" "C" (.int 75)) (F1 : Fld Z h0 ax "com/example/jadoube/jadoube/Castling" "letter" "C" (.int 81)) (F2 : Fld Z h0 ay "com/example/jadoube/jadoube/Castling" "letter" "C" (.int 107)) (F3 : Fld Z h0 az "com/example/jadoube/jadoube/Castling" "letter" "C" (.int 113)) (n0 : ¬ p1 = (75 : Int32)) (n1 : ¬ p1 = (81 : Int32)) (y : p1 = (107 : Int32)) : Ctr l Z (⟨"com/example/jadoube/jadoube/Castling", "forLetter", "(C)Lcom/example/jadoube/jadoube/Castling;"⟩ : MethodName) prog_5_method_4_code 5 (some (.object "com/example/jadoube/jadoube/Castling")) [] ({ frames := 0, cells := 0, slots := 0, locals := 0 } : Room) #[(.int p1)] h0 (Pure (.ref ay) h0) := by
  refine ctr_mk pn_1 (own := "com/example/jadoube/jadoube/Castling") (mn := "forLetter") rfl rfl ?_
  intro p e s m below meth c T0 X0 hx hby hml hZ hown hnm hret hlk e0
  refine o_entry (ef_1 m p1) ?_
  refine o_getstatic X0 hx hZ hown (hw _ (List.mem_of_getElem? (i := 4) rfl)) e0 SC (hb hby d1_0) (pc' := 3) rfl ?_
  intro T1 X1 e1
  refine o_astoreN X1 hx (pc' := 4) (Ls' := #[.val (.int p1), .val (.ref b), .unset, .unset, .unset]) (hb hby d1_3) rfl rfl rfl ?_
  refine o_aloadN X1 hx (pc' := 5) (hb hby d1_4) rfl rfl rfl ?_
  refine o_arraylength X1 hx hZ e1 V (hb hby d1_5) (pc' := 6) rfl ?_
  refine o_istoreN X1 hx (pc' := 7) (Ls' := #[.val (.int p1), .val (.ref b), .val (.int (4 : Int32)), .unset, .unset]) (hb hby d1_6) rfl rfl ?_
  refine o_iconst X1 hx (pc' := 8) (v := (0 : Int32)) (hb hby d1_7) rfl rfl ?_
  refine o_istoreN X1 hx (pc' := 9) (Ls' := #[.val (.int p1), .val (.ref b), .val (.int (4 : Int32)), .val (.int (0 : Int32)), .unset]) (hb hby d1_8) rfl rfl ?_
  refine o_iloadN X1 hx (pc' := 10) (hb hby d1_9) rfl rfl ?_
  refine o_iloadN X1 hx (pc' := 11) (hb hby d1_10) rfl rfl ?_
  refine o_icmp_ge X1 hx (pc' := 14) (pt := 37) (hb hby d1_11) rfl (by decide) (by decide) (fun q => absurd (by decide) q) (fun _ => ?_)
  refine o_aloadN X1 hx (pc' := 15) (hb hby d1_14) rfl rfl rfl ?_
  refine o_iloadN X1 hx (pc' := 16) (hb hby d1_15) rfl rfl ?_
  refine o_aaload X1 hx hZ e1 V rfl (by decide) (v := (.ref aw)) rfl (hb hby d1_16) (pc' := 17) rfl ?_
  refine o_astore X1 hx (pc' := 19) (Ls' := #[.val (.int p1), .val (.ref b), .val (.int (4 : Int32)), .val (.int (0 : Int32)), .val (.ref aw)]) (hb hby d1_17) rfl rfl rfl ?_
  refine o_aload X1 hx (pc' := 21) (hb hby d1_19) rfl rfl rfl ?_
  refine o_getfield X1 hx hZ hown (hw _ (List.mem_of_getElem? (i := 7) rfl)) e1 F0 (hb hby d1_21) (pc' := 24) rfl ?_
  intro T2 X2 e2
  refine o_iloadN X2 hx (pc' := 25) (hb hby d1_24) rfl rfl ?_
  refine o_icmp_ne X2 hx (pc' := 28) (pt := 31) (hb hby d1_25) rfl (by decide) (by decide) (fun _ => ?_) (fun q => absurd q (fun q => n0 q.symm))
  refine o_iinc X2 hx (pc' := 34) (Ls' := #[.val (.int p1), .val (.ref b), .val (.int (4 : Int32)), .val (.int (1 : Int32)), .val (.ref aw)]) (v := (1 : Int32)) (hb hby d1_31) rfl rfl rfl rfl ?_
  refine o_goto X2 hx (pc' := 9) (hb hby d1_34) (by decide) (by decide) ?_
  refine o_iloadN X2 hx (pc' := 10) (hb hby d1_9) rfl rfl ?_
  refine o_iloadN X2 hx (pc' := 11) (hb hby d1_10) rfl rfl ?_
  refine o_icmp_ge X2 hx (pc' := 14) (pt := 37) (hb hby d1_11) rfl (by decide) (by decide) (fun q => absurd (by decide) q) (fun _ => ?_)
  refine o_aloadN X2 hx (pc' := 15) (hb hby d1_14) rfl rfl rfl ?_
  refine o_iloadN X2 hx (pc' := 16) (hb hby d1_15) rfl rfl ?_
  refine o_aaload X2 hx hZ e2 V rfl (by decide) (v := (.ref ax)) rfl (hb hby d1_16) (pc' := 17) rfl ?_
  refine o_astore X2 hx (pc' := 19) (Ls' := #[.val (.int p1), .val (.ref b), .val (.int (4 : Int32)), .val (.int (1 : Int32)), .val (.ref ax)]) (hb hby d1_17) rfl rfl rfl ?_
  refine o_aload X2 hx (pc' := 21) (hb hby d1_19) rfl rfl rfl ?_
  refine o_getfield X2 hx hZ hown (hw _ (List.mem_of_getElem? (i := 7) rfl)) e2 F1 (hb hby d1_21) (pc' := 24) rfl ?_
  intro T3 X3 e3
  refine o_iloadN X3 hx (pc' := 25) (hb hby d1_24) rfl rfl ?_
  refine o_icmp_ne X3 hx (pc' := 28) (pt := 31) (hb hby d1_25) rfl (by decide) (by decide) (fun _ => ?_) (fun q => absurd q (fun q => n1 q.symm))
  refine o_iinc X3 hx (pc' := 34) (Ls' := #[.val (.int p1), .val (.ref b), .val (.int (4 : Int32)), .val (.int (2 : Int32)), .val (.ref ax)]) (v := (1 : Int32)) (hb hby d1_31) rfl rfl rfl rfl ?_
  refine o_goto X3 hx (pc' := 9) (hb hby d1_34) (by decide) (by decide) ?_
  refine o_iloadN X3 hx (pc' := 10) (hb hby d1_9) rfl rfl ?_
  refine o_iloadN X3 hx (pc' := 11) (hb hby d1_10) rfl rfl ?_
  refine o_icmp_ge X3 hx (pc' := 14) (pt := 37) (hb hby d1_11) rfl (by decide) (by decide) (fun q => absurd (by decide) q) (fun _ => ?_)
  refine o_aloadN X3 hx (pc' := 15) (hb hby d1_14) rfl rfl rfl ?_
  refine o_iloadN X3 hx (pc' := 16) (hb hby d1_15) rfl rfl ?_
  refine o_aaload X3 hx hZ e3 V rfl (by decide) (v := (.ref ay)) rfl (hb hby d1_16) (pc' := 17) rfl ?_
  refine o_astore X3 hx (pc' := 19) (Ls' := #[.val (.int p1), .val (.ref b), .val (.int (4 : Int32)), .val (.int (2 : Int32)), .val (.ref ay)]) (hb hby d1_17) rfl rfl rfl ?_
  refine o_aload X3 hx (pc' := 21) (hb hby d1_19) rfl rfl rfl ?_
  refine o_getfield X3 hx hZ hown (hw _ (List.mem_of_getElem? (i := 7) rfl)) e3 F2 (hb hby d1_21) (pc' := 24) rfl ?_
  intro T4 X4 e4
  refine o_iloadN X4 hx (pc' := 25) (hb hby d1_24) rfl rfl ?_
  refine o_icmp_ne X4 hx (pc' := 28) (pt := 31) (hb hby d1_25) rfl (by decide) (by decide) (fun q => absurd y.symm q) (fun _ => ?_)
  refine o_aload X4 hx (pc' := 30) (hb hby d1_28) rfl rfl rfl ?_
  exact finA X4 hx hlk rfl hret rfl rfl (hb hby d1_30) (by decide) (by decide) ⟨rfl, rfl, e4⟩
theorem d2_20 : decode method_3_code 20 = .ok (.iload_n 0, 1) := by decide +kernel
theorem d2_21 : decode method_3_code 21 = .ok (.bipush 107, 2) := by decide +kernel
theorem d2_23 : decode method_3_code 23 = .ok (.if_icmp .ne 7, 3) := by decide +kernel
theorem d2_26 : decode method_3_code 26 = .ok (.getstatic 25, 3) := by decide +kernel
theorem d2_29 : decode method_3_code 29 = .ok (.areturn, 1) := by decide +kernel
set_option maxRecDepth 65536 in
set_option maxHeartbeats 40000000 in
theorem rmE2 (l : Launch) (Z : State) (a0 : Array Value) (hw : ∀ d ∈ tables_1, d.before a0 Z = true) (h0 : Heap) (n0 : Nat) (Z0 : n0 ≤ h0.size) (p1 : Int32) (aw ax ay az : Addr) (S0 : Sta Z h0 "com/example/jadoube/jadoube/Castling" "WHITE_KING_SIDE" "Lcom/example/jadoube/jadoube/Castling;" (.ref aw)) (S1 : Sta Z h0 "com/example/jadoube/jadoube/Castling" "WHITE_QUEEN_SIDE" "Lcom/example/jadoube/jadoube/Castling;" (.ref ax)) (S2 : Sta Z h0 "com/example/jadoube/jadoube/Castling" "BLACK_KING_SIDE" "Lcom/example/jadoube/jadoube/Castling;" (.ref ay)) (S3 : Sta Z h0 "com/example/jadoube/jadoube/Castling" "BLACK_QUEEN_SIDE" "Lcom/example/jadoube/jadoube/Castling;" (.ref az)) (n0 : ¬ p1 = (75 : Int32)) (n1 : ¬ p1 = (81 : Int32)) (y : p1 = (107 : Int32)) : Ctr l Z (⟨"com/example/jadoube/jadoube/CastlingForLetterPinLaw", "expected", "(C)Lcom/example/jadoube/jadoube/Castling;"⟩ : MethodName) method_3_code 1 (some (.object "com/example/jadoube/jadoube/Castling")) [] ({ frames := 0, cells := 0, slots := 0, locals := 0 } : Room) #[(.int p1)] h0 (Pure (.ref ay) h0) := by
  refine ctr_mk pn_2 (own := "com/example/jadoube/jadoube/CastlingForLetterPinLaw") (mn := "expected") rfl rfl ?_
  intro p e s m below meth c T0 X0 hx hby hml hZ hown hnm hret hlk e0
  refine o_entry (ef_2 m p1) ?_
  refine o_iloadN X0 hx (pc' := 1) (hb hby d2_0) rfl rfl ?_
  refine o_bipush X0 hx (pc' := 3) (v := (75 : Int32)) (hb hby d2_1) rfl rfl ?_
  refine o_icmp_ne X0 hx (pc' := 6) (pt := 10) (hb hby d2_3) rfl (by decide) (by decide) (fun _ => ?_) (fun q => absurd q n0)
  refine o_iloadN X0 hx (pc' := 11) (hb hby d2_10) rfl rfl ?_
  refine o_bipush X0 hx (pc' := 13) (v := (81 : Int32)) (hb hby d2_11) rfl rfl ?_
  refine o_icmp_ne X0 hx (pc' := 16) (pt := 20) (hb hby d2_13) rfl (by decide) (by decide) (fun _ => ?_) (fun q => absurd q n1)
  refine o_iloadN X0 hx (pc' := 21) (hb hby d2_20) rfl rfl ?_
  refine o_bipush X0 hx (pc' := 23) (v := (107 : Int32)) (hb hby d2_21) rfl rfl ?_
  refine o_icmp_ne X0 hx (pc' := 26) (pt := 30) (hb hby d2_23) rfl (by decide) (by decide) (fun q => absurd y q) (fun _ => ?_)
  refine o_getstatic X0 hx hZ hown (hw _ (List.mem_of_getElem? (i := 19) rfl)) e0 S2 (hb hby d2_26) (pc' := 29) rfl ?_
  intro T1 X1 e1
  exact finA X1 hx hlk rfl hret rfl rfl (hb hby d2_29) (by decide) (by decide) ⟨rfl, rfl, e1⟩
set_option maxRecDepth 65536 in
set_option maxHeartbeats 40000000 in
theorem rmL3 (l : Launch) (Z : State) (a0 : Array Value) (hw : ∀ d ∈ tables_1, d.before a0 Z = true) (h0 : Heap) (n0 : Nat) (Z0 : n0 ≤ h0.size) (p1 : Int32) (aw ax ay az : Addr) (b : Addr) (k : ClassId) (dv : Value) (SC : Sta Z h0 "com/example/jadoube/jadoube/Castling" "CASTLINGS" "[Lcom/example/jadoube/jadoube/Castling;" (.ref b)) (V : Arv Z h0 b k (.object "com/example/jadoube/jadoube/Castling") 4 [.ref aw, .ref ax, .ref ay, .ref az] dv) (F0 : Fld Z h0 aw "com/example/jadoube/jadoube/Castling" "letter" "C" (.int 75)) (F1 : Fld Z h0 ax "com/example/jadoube/jadoube/Castling" "letter" "C" (.int 81)) (F2 : Fld Z h0 ay "com/example/jadoube/jadoube/Castling" "letter" "C" (.int 107)) (F3 : Fld Z h0 az "com/example/jadoube/jadoube/Castling" "letter" "C" (.int 113)) (n0 : ¬ p1 = (75 : Int32)) (n1 : ¬ p1 = (81 : Int32)) (n2 : ¬ p1 = (107 : Int32)) (y : p1 = (113 : Int32)) : Ctr l Z (⟨"com/example/jadoube/jadoube/Castling", "forLetter", "(C)Lcom/example/jadoube/jadoube/Castling;"⟩ : MethodName) prog_5_method_4_code 5 (some (.object "com/example/jadoube/jadoube/Castling")) [] ({ frames := 0, cells := 0, slots := 0, locals := 0 } : Room) #[(.int p1)] h0 (Pure (.ref az) h0) := by
  refine ctr_mk pn_1 (own := "com/example/jadoube/jadoube/Castling") (mn := "forLetter") rfl rfl ?_
  intro p e s m below meth c T0 X0 hx hby hml hZ hown hnm hret hlk e0
  refine o_entry (ef_1 m p1) ?_
  refine o_getstatic X0 hx hZ hown (hw _ (List.mem_of_getElem? (i := 4) rfl)) e0 SC (hb hby d1_0) (pc' := 3) rfl ?_
  intro T1 X1 e1
  refine o_astoreN X1 hx (pc' := 4) (Ls' := #[.val (.int p1), .val (.ref b), .unset, .unset, .unset]) (hb hby d1_3) rfl rfl rfl ?_
  refine o_aloadN X1 hx (pc' := 5) (hb hby d1_4) rfl rfl rfl ?_
  refine o_arraylength X1 hx hZ e1 V (hb hby d1_5) (pc' := 6) rfl ?_
  refine o_istoreN X1 hx (pc' := 7) (Ls' := #[.val (.int p1), .val (.ref b), .val (.int (4 : Int32)), .unset, .unset]) (hb hby d1_6) rfl rfl ?_
  refine o_iconst X1 hx (pc' := 8) (v := (0 : Int32)) (hb hby d1_7) rfl rfl ?_
  refine o_istoreN X1 hx (pc' := 9) (Ls' := #[.val (.int p1), .val (.ref b), .val (.int (4 : Int32)), .val (.int (0 : Int32)), .unset]) (hb hby d1_8) rfl rfl ?_
  refine o_iloadN X1 hx (pc' := 10) (hb hby d1_9) rfl rfl ?_
  refine o_iloadN X1 hx (pc' := 11) (hb hby d1_10) rfl rfl ?_
  refine o_icmp_ge X1 hx (pc' := 14) (pt := 37) (hb hby d1_11) rfl (by decide) (by decide) (fun q => absurd (by decide) q) (fun _ => ?_)
  refine o_aloadN X1 hx (pc' := 15) (hb hby d1_14) rfl rfl rfl ?_
  refine o_iloadN X1 hx (pc' := 16) (hb hby d1_15) rfl rfl ?_
  refine o_aaload X1 hx hZ e1 V rfl (by decide) (v := (.ref aw)) rfl (hb hby d1_16) (pc' := 17) rfl ?_
  refine o_astore X1 hx (pc' := 19) (Ls' := #[.val (.int p1), .val (.ref b), .val (.int (4 : Int32)), .val (.int (0 : Int32)), .val (.ref aw)]) (hb hby d1_17) rfl rfl rfl ?_
  refine o_aload X1 hx (pc' := 21) (hb hby d1_19) rfl rfl rfl ?_
  refine o_getfield X1 hx hZ hown (hw _ (List.mem_of_getElem? (i := 7) rfl)) e1 F0 (hb hby d1_21) (pc' := 24) rfl ?_
  intro T2 X2 e2
  refine o_iloadN X2 hx (pc' := 25) (hb hby d1_24) rfl rfl ?_
  refine o_icmp_ne X2 hx (pc' := 28) (pt := 31) (hb hby d1_25) rfl (by decide) (by decide) (fun _ => ?_) (fun q => absurd q (fun q => n0 q.symm))
  refine o_iinc X2 hx (pc' := 34) (Ls' := #[.val (.int p1), .val (.ref b), .val (.int (4 : Int32)), .val (.int (1 : Int32)), .val (.ref aw)]) (v := (1 : Int32)) (hb hby d1_31) rfl rfl rfl rfl ?_
  refine o_goto X2 hx (pc' := 9) (hb hby d1_34) (by decide) (by decide) ?_
  refine o_iloadN X2 hx (pc' := 10) (hb hby d1_9) rfl rfl ?_
  refine o_iloadN X2 hx (pc' := 11) (hb hby d1_10) rfl rfl ?_
  refine o_icmp_ge X2 hx (pc' := 14) (pt := 37) (hb hby d1_11) rfl (by decide) (by decide) (fun q => absurd (by decide) q) (fun _ => ?_)
  refine o_aloadN X2 hx (pc' := 15) (hb hby d1_14) rfl rfl rfl ?_
  refine o_iloadN X2 hx (pc' := 16) (hb hby d1_15) rfl rfl ?_
  refine o_aaload X2 hx hZ e2 V rfl (by decide) (v := (.ref ax)) rfl (hb hby d1_16) (pc' := 17) rfl ?_
  refine o_astore X2 hx (pc' := 19) (Ls' := #[.val (.int p1), .val (.ref b), .val (.int (4 : Int32)), .val (.int (1 : Int32)), .val (.ref ax)]) (hb hby d1_17) rfl rfl rfl ?_
  refine o_aload X2 hx (pc' := 21) (hb hby d1_19) rfl rfl rfl ?_
  refine o_getfield X2 hx hZ hown (hw _ (List.mem_of_getElem? (i := 7) rfl)) e2 F1 (hb hby d1_21) (pc' := 24) rfl ?_
  intro T3 X3 e3
  refine o_iloadN X3 hx (pc' := 25) (hb hby d1_24) rfl rfl ?_
  refine o_icmp_ne X3 hx (pc' := 28) (pt := 31) (hb hby d1_25) rfl (by decide) (by decide) (fun _ => ?_) (fun q => absurd q (fun q => n1 q.symm))
  refine o_iinc X3 hx (pc' := 34) (Ls' := #[.val (.int p1), .val (.ref b), .val (.int (4 : Int32)), .val (.int (2 : Int32)), .val (.ref ax)]) (v := (1 : Int32)) (hb hby d1_31) rfl rfl rfl rfl ?_
  refine o_goto X3 hx (pc' := 9) (hb hby d1_34) (by decide) (by decide) ?_
  refine o_iloadN X3 hx (pc' := 10) (hb hby d1_9) rfl rfl ?_
  refine o_iloadN X3 hx (pc' := 11) (hb hby d1_10) rfl rfl ?_
  refine o_icmp_ge X3 hx (pc' := 14) (pt := 37) (hb hby d1_11) rfl (by decide) (by decide) (fun q => absurd (by decide) q) (fun _ => ?_)
  refine o_aloadN X3 hx (pc' := 15) (hb hby d1_14) rfl rfl rfl ?_
  refine o_iloadN X3 hx (pc' := 16) (hb hby d1_15) rfl rfl ?_
  refine o_aaload X3 hx hZ e3 V rfl (by decide) (v := (.ref ay)) rfl (hb hby d1_16) (pc' := 17) rfl ?_
  refine o_astore X3 hx (pc' := 19) (Ls' := #[.val (.int p1), .val (.ref b), .val (.int (4 : Int32)), .val (.int (2 : Int32)), .val (.ref ay)]) (hb hby d1_17) rfl rfl rfl ?_
  refine o_aload X3 hx (pc' := 21) (hb hby d1_19) rfl rfl rfl ?_
  refine o_getfield X3 hx hZ hown (hw _ (List.mem_of_getElem? (i := 7) rfl)) e3 F2 (hb hby d1_21) (pc' := 24) rfl ?_
  intro T4 X4 e4
  refine o_iloadN X4 hx (pc' := 25) (hb hby d1_24) rfl rfl ?_
  refine o_icmp_ne X4 hx (pc' := 28) (pt := 31) (hb hby d1_25) rfl (by decide) (by decide) (fun _ => ?_) (fun q => absurd q (fun q => n2 q.symm))
  refine o_iinc X4 hx (pc' := 34) (Ls' := #[.val (.int p1), .val (.ref b), .val (.int (4 : Int32)), .val (.int (3 : Int32)), .val (.ref ay)]) (v := (1 : Int32)) (hb hby d1_31) rfl rfl rfl rfl ?_
  refine o_goto X4 hx (pc' := 9) (hb hby d1_34) (by decide) (by decide) ?_
  refine o_iloadN X4 hx (pc' := 10) (hb hby d1_9) rfl rfl ?_
  refine o_iloadN X4 hx (pc' := 11) (hb hby d1_10) rfl rfl ?_
  refine o_icmp_ge X4 hx (pc' := 14) (pt := 37) (hb hby d1_11) rfl (by decide) (by decide) (fun q => absurd (by decide) q) (fun _ => ?_)
  refine o_aloadN X4 hx (pc' := 15) (hb hby d1_14) rfl rfl rfl ?_
  refine o_iloadN X4 hx (pc' := 16) (hb hby d1_15) rfl rfl ?_
  refine o_aaload X4 hx hZ e4 V rfl (by decide) (v := (.ref az)) rfl (hb hby d1_16) (pc' := 17) rfl ?_
  refine o_astore X4 hx (pc' := 19) (Ls' := #[.val (.int p1), .val (.ref b), .val (.int (4 : Int32)), .val (.int (3 : Int32)), .val (.ref az)]) (hb hby d1_17) rfl rfl rfl ?_
  refine o_aload X4 hx (pc' := 21) (hb hby d1_19) rfl rfl rfl ?_
  refine o_getfield X4 hx hZ hown (hw _ (List.mem_of_getElem? (i := 7) rfl)) e4 F3 (hb hby d1_21) (pc' := 24) rfl ?_
  intro T5 X5 e5
  refine o_iloadN X5 hx (pc' := 25) (hb hby d1_24) rfl rfl ?_
  refine o_icmp_ne X5 hx (pc' := 28) (pt := 31) (hb hby d1_25) rfl (by decide) (by decide) (fun q => absurd y.symm q) (fun _ => ?_)
  refine o_aload X5 hx (pc' := 30) (hb hby d1_28) rfl rfl rfl ?_
  exact finA X5 hx hlk rfl hret rfl rfl (hb hby d1_30) (by decide) (by decide) ⟨rfl, rfl, e5⟩
theorem d2_30 : decode method_3_code 30 = .ok (.iload_n 0, 1) := by decide +kernel
theorem d2_31 : decode method_3_code 31 = .ok (.bipush 113, 2) := by decide +kernel
theorem d2_33 : decode method_3_code 33 = .ok (.if_icmp .ne 7, 3) := by decide +kernel
theorem d2_36 : decode method_3_code 36 = .ok (.getstatic 28, 3) := by decide +kernel
theorem d2_39 : decode method_3_code 39 = .ok (.areturn, 1) := by decide +kernel
set_option maxRecDepth 65536 in
set_option maxHeartbeats 40000000 in
theorem rmE3 (l : Launch) (Z : State) (a0 : Array Value) (hw : ∀ d ∈ tables_1, d.before a0 Z = true) (h0 : Heap) (n0 : Nat) (Z0 : n0 ≤ h0.size) (p1 : Int32) (aw ax ay az : Addr) (S0 : Sta Z h0 "com/example/jadoube/jadoube/Castling" "WHITE_KING_SIDE" "Lcom/example/jadoube/jadoube/Castling;" (.ref aw)) (S1 : Sta Z h0 "com/example/jadoube/jadoube/Castling" "WHITE_QUEEN_SIDE" "Lcom/example/jadoube/jadoube/Castling;" (.ref ax)) (S2 : Sta Z h0 "com/example/jadoube/jadoube/Castling" "BLACK_KING_SIDE" "Lcom/example/jadoube/jadoube/Castling;" (.ref ay)) (S3 : Sta Z h0 "com/example/jadoube/jadoube/Castling" "BLACK_QUEEN_SIDE" "Lcom/example/jadoube/jadoube/Castling;" (.ref az)) (n0 : ¬ p1 = (75 : Int32)) (n1 : ¬ p1 = (81 : Int32)) (n2 : ¬ p1 = (107 : Int32)) (y : p1 = (113 : Int32)) : Ctr l Z (⟨"com/example/jadoube/jadoube/CastlingForLetterPinLaw", "expected", "(C)Lcom/example/jadoube/jadoube/Castling;"⟩ : MethodName) method_3_code 1 (some (.object "com/example/jadoube/jadoube/Castling")) [] ({ frames := 0, cells := 0, slots := 0, locals := 0 } : Room) #[(.int p1)] h0 (Pure (.ref az) h0) := by
  refine ctr_mk pn_2 (own := "com/example/jadoube/jadoube/CastlingForLetterPinLaw") (mn := "expected") rfl rfl ?_
  intro p e s m below meth c T0 X0 hx hby hml hZ hown hnm hret hlk e0
  refine o_entry (ef_2 m p1) ?_
  refine o_iloadN X0 hx (pc' := 1) (hb hby d2_0) rfl rfl ?_
  refine o_bipush X0 hx (pc' := 3) (v := (75 : Int32)) (hb hby d2_1) rfl rfl ?_
  refine o_icmp_ne X0 hx (pc' := 6) (pt := 10) (hb hby d2_3) rfl (by decide) (by decide) (fun _ => ?_) (fun q => absurd q n0)
  refine o_iloadN X0 hx (pc' := 11) (hb hby d2_10) rfl rfl ?_
  refine o_bipush X0 hx (pc' := 13) (v := (81 : Int32)) (hb hby d2_11) rfl rfl ?_
  refine o_icmp_ne X0 hx (pc' := 16) (pt := 20) (hb hby d2_13) rfl (by decide) (by decide) (fun _ => ?_) (fun q => absurd q n1)
  refine o_iloadN X0 hx (pc' := 21) (hb hby d2_20) rfl rfl ?_
  refine o_bipush X0 hx (pc' := 23) (v := (107 : Int32)) (hb hby d2_21) rfl rfl ?_
  refine o_icmp_ne X0 hx (pc' := 26) (pt := 30) (hb hby d2_23) rfl (by decide) (by decide) (fun _ => ?_) (fun q => absurd q n2)
  refine o_iloadN X0 hx (pc' := 31) (hb hby d2_30) rfl rfl ?_
  refine o_bipush X0 hx (pc' := 33) (v := (113 : Int32)) (hb hby d2_31) rfl rfl ?_
  refine o_icmp_ne X0 hx (pc' := 36) (pt := 40) (hb hby d2_33) rfl (by decide) (by decide) (fun q => absurd y q) (fun _ => ?_)
  refine o_getstatic X0 hx hZ hown (hw _ (List.mem_of_getElem? (i := 17) rfl)) e0 S3 (hb hby d2_36) (pc' := 39) rfl ?_
  intro T1 X1 e1
  exact finA X1 hx hlk rfl hret rfl rfl (hb hby d2_39) (by decide) (by decide) ⟨rfl, rfl, e1⟩
theorem d1_37 : decode prog_5_method_4_code 37 = .ok (.aconst_null, 1) := by decide +kernel
theorem d1_38 : decode prog_5_method_4_code 38 = .ok (.areturn, 1) := by decide +kernel
set_option maxRecDepth 65536 in
set_option maxHeartbeats 40000000 in
theorem rmL4 (l : Launch) (Z : State) (a0 : Array Value) (hw : ∀ d ∈ tables_1, d.before a0 Z = true) (h0 : Heap) (n0 : Nat) (Z0 : n0 ≤ h0.size) (p1 : Int32) (aw ax ay az : Addr) (b : Addr) (k : ClassId) (dv : Value) (SC : Sta Z h0 "com/example/jadoube/jadoube/Castling" "CASTLINGS" "[Lcom/example/jadoube/jadoube/Castling;" (.ref b)) (V : Arv Z h0 b k (.object "com/example/jadoube/jadoube/Castling") 4 [.ref aw, .ref ax, .ref ay, .ref az] dv) (F0 : Fld Z h0 aw "com/example/jadoube/jadoube/Castling" "letter" "C" (.int 75)) (F1 : Fld Z h0 ax "com/example/jadoube/jadoube/Castling" "letter" "C" (.int 81)) (F2 : Fld Z h0 ay "com/example/jadoube/jadoube/Castling" "letter" "C" (.int 107)) (F3 : Fld Z h0 az "com/example/jadoube/jadoube/Castling" "letter" "C" (.int 113)) (n0 : ¬ p1 = (75 : Int32)) (n1 : ¬ p1 = (81 : Int32)) (n2 : ¬ p1 = (107 : Int32)) (n3 : ¬ p1 = (113 : Int32)) : Ctr l Z (⟨"com/example/jadoube/jadoube/Castling", "forLetter", "(C)Lcom/example/jadoube/jadoube/Castling;"⟩ : MethodName) prog_5_method_4_code 5 (some (.object "com/example/jadoube/jadoube/Castling")) [] ({ frames := 0, cells := 0, slots := 0, locals := 0 } : Room) #[(.int p1)] h0 (Pure (.null) h0) := by
  refine ctr_mk pn_1 (own := "com/example/jadoube/jadoube/Castling") (mn := "forLetter") rfl rfl ?_
  intro p e s m below meth c T0 X0 hx hby hml hZ hown hnm hret hlk e0
  refine o_entry (ef_1 m p1) ?_
  refine o_getstatic X0 hx hZ hown (hw _ (List.mem_of_getElem? (i := 4) rfl)) e0 SC (hb hby d1_0) (pc' := 3) rfl ?_
  intro T1 X1 e1
  refine o_astoreN X1 hx (pc' := 4) (Ls' := #[.val (.int p1), .val (.ref b), .unset, .unset, .unset]) (hb hby d1_3) rfl rfl rfl ?_
  refine o_aloadN X1 hx (pc' := 5) (hb hby d1_4) rfl rfl rfl ?_
  refine o_arraylength X1 hx hZ e1 V (hb hby d1_5) (pc' := 6) rfl ?_
  refine o_istoreN X1 hx (pc' := 7) (Ls' := #[.val (.int p1), .val (.ref b), .val (.int (4 : Int32)), .unset, .unset]) (hb hby d1_6) rfl rfl ?_
  refine o_iconst X1 hx (pc' := 8) (v := (0 : Int32)) (hb hby d1_7) rfl rfl ?_
  refine o_istoreN X1 hx (pc' := 9) (Ls' := #[.val (.int p1), .val (.ref b), .val (.int (4 : Int32)), .val (.int (0 : Int32)), .unset]) (hb hby d1_8) rfl rfl ?_
  refine o_iloadN X1 hx (pc' := 10) (hb hby d1_9) rfl rfl ?_
  refine o_iloadN X1 hx (pc' := 11) (hb hby d1_10) rfl rfl ?_
  refine o_icmp_ge X1 hx (pc' := 14) (pt := 37) (hb hby d1_11) rfl (by decide) (by decide) (fun q => absurd (by decide) q) (fun _ => ?_)
  refine o_aloadN X1 hx (pc' := 15) (hb hby d1_14) rfl rfl rfl ?_
  refine o_iloadN X1 hx (pc' := 16) (hb hby d1_15) rfl rfl ?_
  refine o_aaload X1 hx hZ e1 V rfl (by decide) (v := (.ref aw)) rfl (hb hby d1_16) (pc' := 17) rfl ?_
  refine o_astore X1 hx (pc' := 19) (Ls' := #[.val (.int p1), .val (.ref b), .val (.int (4 : Int32)), .val (.int (0 : Int32)), .val (.ref aw)]) (hb hby d1_17) rfl rfl rfl ?_
  refine o_aload X1 hx (pc' := 21) (hb hby d1_19) rfl rfl rfl ?_
  refine o_getfield X1 hx hZ hown (hw _ (List.mem_of_getElem? (i := 7) rfl)) e1 F0 (hb hby d1_21) (pc' := 24) rfl ?_
  intro T2 X2 e2
  refine o_iloadN X2 hx (pc' := 25) (hb hby d1_24) rfl rfl ?_
  refine o_icmp_ne X2 hx (pc' := 28) (pt := 31) (hb hby d1_25) rfl (by decide) (by decide) (fun _ => ?_) (fun q => absurd q (fun q => n0 q.symm))
  refine o_iinc X2 hx (pc' := 34) (Ls' := #[.val (.int p1), .val (.ref b), .val (.int (4 : Int32)), .val (.int (1 : Int32)), .val (.ref aw)]) (v := (1 : Int32)) (hb hby d1_31) rfl rfl rfl rfl ?_
  refine o_goto X2 hx (pc' := 9) (hb hby d1_34) (by decide) (by decide) ?_
  refine o_iloadN X2 hx (pc' := 10) (hb hby d1_9) rfl rfl ?_
  refine o_iloadN X2 hx (pc' := 11) (hb hby d1_10) rfl rfl ?_
  refine o_icmp_ge X2 hx (pc' := 14) (pt := 37) (hb hby d1_11) rfl (by decide) (by decide) (fun q => absurd (by decide) q) (fun _ => ?_)
  refine o_aloadN X2 hx (pc' := 15) (hb hby d1_14) rfl rfl rfl ?_
  refine o_iloadN X2 hx (pc' := 16) (hb hby d1_15) rfl rfl ?_
  refine o_aaload X2 hx hZ e2 V rfl (by decide) (v := (.ref ax)) rfl (hb hby d1_16) (pc' := 17) rfl ?_
  refine o_astore X2 hx (pc' := 19) (Ls' := #[.val (.int p1), .val (.ref b), .val (.int (4 : Int32)), .val (.int (1 : Int32)), .val (.ref ax)]) (hb hby d1_17) rfl rfl rfl ?_
  refine o_aload X2 hx (pc' := 21) (hb hby d1_19) rfl rfl rfl ?_
  refine o_getfield X2 hx hZ hown (hw _ (List.mem_of_getElem? (i := 7) rfl)) e2 F1 (hb hby d1_21) (pc' := 24) rfl ?_
  intro T3 X3 e3
  refine o_iloadN X3 hx (pc' := 25) (hb hby d1_24) rfl rfl ?_
  refine o_icmp_ne X3 hx (pc' := 28) (pt := 31) (hb hby d1_25) rfl (by decide) (by decide) (fun _ => ?_) (fun q => absurd q (fun q => n1 q.symm))
  refine o_iinc X3 hx (pc' := 34) (Ls' := #[.val (.int p1), .val (.ref b), .val (.int (4 : Int32)), .val (.int (2 : Int32)), .val (.ref ax)]) (v := (1 : Int32)) (hb hby d1_31) rfl rfl rfl rfl ?_
  refine o_goto X3 hx (pc' := 9) (hb hby d1_34) (by decide) (by decide) ?_
  refine o_iloadN X3 hx (pc' := 10) (hb hby d1_9) rfl rfl ?_
  refine o_iloadN X3 hx (pc' := 11) (hb hby d1_10) rfl rfl ?_
  refine o_icmp_ge X3 hx (pc' := 14) (pt := 37) (hb hby d1_11) rfl (by decide) (by decide) (fun q => absurd (by decide) q) (fun _ => ?_)
  refine o_aloadN X3 hx (pc' := 15) (hb hby d1_14) rfl rfl rfl ?_
  refine o_iloadN X3 hx (pc' := 16) (hb hby d1_15) rfl rfl ?_
  refine o_aaload X3 hx hZ e3 V rfl (by decide) (v := (.ref ay)) rfl (hb hby d1_16) (pc' := 17) rfl ?_
  refine o_astore X3 hx (pc' := 19) (Ls' := #[.val (.int p1), .val (.ref b), .val (.int (4 : Int32)), .val (.int (2 : Int32)), .val (.ref ay)]) (hb hby d1_17) rfl rfl rfl ?_
  refine o_aload X3 hx (pc' := 21) (hb hby d1_19) rfl rfl rfl ?_
  refine o_getfield X3 hx hZ hown (hw _ (List.mem_of_getElem? (i := 7) rfl)) e3 F2 (hb hby d1_21) (pc' := 24) rfl ?_
  intro T4 X4 e4
  refine o_iloadN X4 hx (pc' := 25) (hb hby d1_24) rfl rfl ?_
  refine o_icmp_ne X4 hx (pc' := 28) (pt := 31) (hb hby d1_25) rfl (by decide) (by decide) (fun _ => ?_) (fun q => absurd q (fun q => n2 q.symm))
  refine o_iinc X4 hx (pc' := 34) (Ls' := #[.val (.int p1), .val (.ref b), .val (.int (4 : Int32)), .val (.int (3 : Int32)), .val (.ref ay)]) (v := (1 : Int32)) (hb hby d1_31) rfl rfl rfl rfl ?_
  refine o_goto X4 hx (pc' := 9) (hb hby d1_34) (by decide) (by decide) ?_
  refine o_iloadN X4 hx (pc' := 10) (hb hby d1_9) rfl rfl ?_
  refine o_iloadN X4 hx (pc' := 11) (hb hby d1_10) rfl rfl ?_
  refine o_icmp_ge X4 hx (pc' := 14) (pt := 37) (hb hby d1_11) rfl (by decide) (by decide) (fun q => absurd (by decide) q) (fun _ => ?_)
  refine o_aloadN X4 hx (pc' := 15) (hb hby d1_14) rfl rfl rfl ?_
  refine o_iloadN X4 hx (pc' := 16) (hb hby d1_15) rfl rfl ?_
  refine o_aaload X4 hx hZ e4 V rfl (by decide) (v := (.ref az)) rfl (hb hby d1_16) (pc' := 17) rfl ?_
  refine o_astore X4 hx (pc' := 19) (Ls' := #[.val (.int p1), .val (.ref b), .val (.int (4 : Int32)), .val (.int (3 : Int32)), .val (.ref az)]) (hb hby d1_17) rfl rfl rfl ?_
  refine o_aload X4 hx (pc' := 21) (hb hby d1_19) rfl rfl rfl ?_
  refine o_getfield X4 hx hZ hown (hw _ (List.mem_of_getElem? (i := 7) rfl)) e4 F3 (hb hby d1_21) (pc' := 24) rfl ?_
  intro T5 X5 e5
  refine o_iloadN X5 hx (pc' := 25) (hb hby d1_24) rfl rfl ?_
  refine o_icmp_ne X5 hx (pc' := 28) (pt := 31) (hb hby d1_25) rfl (by decide) (by decide) (fun _ => ?_) (fun q => absurd q (fun q => n3 q.symm))
  refine o_iinc X5 hx (pc' := 34) (Ls' := #[.val (.int p1), .val (.ref b), .val (.int (4 : Int32)), .val (.int (4 : Int32)), .val (.ref az)]) (v := (1 : Int32)) (hb hby d1_31) rfl rfl rfl rfl ?_
  refine o_goto X5 hx (pc' := 9) (hb hby d1_34) (by decide) (by decide) ?_
  refine o_iloadN X5 hx (pc' := 10) (hb hby d1_9) rfl rfl ?_
  refine o_iloadN X5 hx (pc' := 11) (hb hby d1_10) rfl rfl ?_
  refine o_icmp_ge X5 hx (pc' := 14) (pt := 37) (hb hby d1_11) rfl (by decide) (by decide) (fun _ => ?_) (fun q => absurd q (by decide))
  refine o_aconstNull X5 hx (pc' := 38) (hb hby d1_37) rfl ?_
  exact finA X5 hx hlk rfl hret rfl rfl (hb hby d1_38) (by decide) (by decide) ⟨rfl, rfl, e5⟩
theorem d2_40 : decode method_3_code 40 = .ok (.aconst_null, 1) := by decide +kernel
theorem d2_41 : decode method_3_code 41 = .ok (.areturn, 1) := by decide +kernel
set_option maxRecDepth 65536 in
set_option maxHeartbeats 40000000 in
theorem rmE4 (l : Launch) (Z : State) (a0 : Array Value) (hw : ∀ d ∈ tables_1, d.before a0 Z = true) (h0 : Heap) (n0 : Nat) (Z0 : n0 ≤ h0.size) (p1 : Int32) (aw ax ay az : Addr) (S0 : Sta Z h0 "com/example/jadoube/jadoube/Castling" "WHITE_KING_SIDE" "Lcom/example/jadoube/jadoube/Castling;" (.ref aw)) (S1 : Sta Z h0 "com/example/jadoube/jadoube/Castling" "WHITE_QUEEN_SIDE" "Lcom/example/jadoube/jadoube/Castling;" (.ref ax)) (S2 : Sta Z h0 "com/example/jadoube/jadoube/Castling" "BLACK_KING_SIDE" "Lcom/example/jadoube/jadoube/Castling;" (.ref ay)) (S3 : Sta Z h0 "com/example/jadoube/jadoube/Castling" "BLACK_QUEEN_SIDE" "Lcom/example/jadoube/jadoube/Castling;" (.ref az)) (n0 : ¬ p1 = (75 : Int32)) (n1 : ¬ p1 = (81 : Int32)) (n2 : ¬ p1 = (107 : Int32)) (n3 : ¬ p1 = (113 : Int32)) : Ctr l Z (⟨"com/example/jadoube/jadoube/CastlingForLetterPinLaw", "expected", "(C)Lcom/example/jadoube/jadoube/Castling;"⟩ : MethodName) method_3_code 1 (some (.object "com/example/jadoube/jadoube/Castling")) [] ({ frames := 0, cells := 0, slots := 0, locals := 0 } : Room) #[(.int p1)] h0 (Pure (.null) h0) := by
  refine ctr_mk pn_2 (own := "com/example/jadoube/jadoube/CastlingForLetterPinLaw") (mn := "expected") rfl rfl ?_
  intro p e s m below meth c T0 X0 hx hby hml hZ hown hnm hret hlk e0
  refine o_entry (ef_2 m p1) ?_
  refine o_iloadN X0 hx (pc' := 1) (hb hby d2_0) rfl rfl ?_
  refine o_bipush X0 hx (pc' := 3) (v := (75 : Int32)) (hb hby d2_1) rfl rfl ?_
  refine o_icmp_ne X0 hx (pc' := 6) (pt := 10) (hb hby d2_3) rfl (by decide) (by decide) (fun _ => ?_) (fun q => absurd q n0)
  refine o_iloadN X0 hx (pc' := 11) (hb hby d2_10) rfl rfl ?_
  refine o_bipush X0 hx (pc' := 13) (v := (81 : Int32)) (hb hby d2_11) rfl rfl ?_
  refine o_icmp_ne X0 hx (pc' := 16) (pt := 20) (hb hby d2_13) rfl (by decide) (by decide) (fun _ => ?_) (fun q => absurd q n1)
  refine o_iloadN X0 hx (pc' := 21) (hb hby d2_20) rfl rfl ?_
  refine o_bipush X0 hx (pc' := 23) (v := (107 : Int32)) (hb hby d2_21) rfl rfl ?_
  refine o_icmp_ne X0 hx (pc' := 26) (pt := 30) (hb hby d2_23) rfl (by decide) (by decide) (fun _ => ?_) (fun q => absurd q n2)
  refine o_iloadN X0 hx (pc' := 31) (hb hby d2_30) rfl rfl ?_
  refine o_bipush X0 hx (pc' := 33) (v := (113 : Int32)) (hb hby d2_31) rfl rfl ?_
  refine o_icmp_ne X0 hx (pc' := 36) (pt := 40) (hb hby d2_33) rfl (by decide) (by decide) (fun _ => ?_) (fun q => absurd q n3)
  refine o_aconstNull X0 hx (pc' := 41) (hb hby d2_40) rfl ?_
  exact finA X0 hx hlk rfl hret rfl rfl (hb hby d2_41) (by decide) (by decide) ⟨rfl, rfl, e0⟩
theorem pd_0 : parseMethodDescriptor "(C)Lcom/example/jadoube/jadoube/Castling;" = some ⟨[.char], some (.object "com/example/jadoube/jadoube/Castling")⟩ := by decide +kernel
theorem pn_0 : plainFor x = true := plainFor_of_name (by show plainName "com/example/jadoube/jadoube/CastlingForLetterPinLaw" = true; first | (simp [plainName, overriddenIn]; done) | decide +kernel)
theorem ef_0 (m : MethodId) (p1 : Int32) (p2 : Int32) : entryFrame m #[(.int p1), (.int p2)] maxLocals = mkF m 0 #[.val (.int p1), .val (.int p2), .unset, .unset, .unset, .unset] [] := by first | (simp [entryFrame, mkF, argsToLocals, Value.category, maxLocals]; done) | rfl
set_option maxRecDepth 65536 in
set_option maxHeartbeats 40000000 in
theorem rm0 (l : Launch) (Z : State) (a0 : Array Value) (hw : ∀ d ∈ tables_1, d.before a0 Z = true) (ws : List Jvm.Cond) (h0 : Heap) (n0 : Nat) (Z0 : n0 ≤ h0.size) (p1 : Int32) (p2 : Int32) (aw ax ay az : Addr) (b : Addr) (k : ClassId) (dv : Value) (SC : Sta Z h0 "com/example/jadoube/jadoube/Castling" "CASTLINGS" "[Lcom/example/jadoube/jadoube/Castling;" (.ref b)) (V : Arv Z h0 b k (.object "com/example/jadoube/jadoube/Castling") 4 [.ref aw, .ref ax, .ref ay, .ref az] dv) (F0 : Fld Z h0 aw "com/example/jadoube/jadoube/Castling" "letter" "C" (.int 75)) (F1 : Fld Z h0 ax "com/example/jadoube/jadoube/Castling" "letter" "C" (.int 81)) (F2 : Fld Z h0 ay "com/example/jadoube/jadoube/Castling" "letter" "C" (.int 107)) (F3 : Fld Z h0 az "com/example/jadoube/jadoube/Castling" "letter" "C" (.int 113)) (S0 : Sta Z h0 "com/example/jadoube/jadoube/Castling" "WHITE_KING_SIDE" "Lcom/example/jadoube/jadoube/Castling;" (.ref aw)) (S1 : Sta Z h0 "com/example/jadoube/jadoube/Castling" "WHITE_QUEEN_SIDE" "Lcom/example/jadoube/jadoube/Castling;" (.ref ax)) (S2 : Sta Z h0 "com/example/jadoube/jadoube/Castling" "BLACK_KING_SIDE" "Lcom/example/jadoube/jadoube/Castling;" (.ref ay)) (S3 : Sta Z h0 "com/example/jadoube/jadoube/Castling" "BLACK_QUEEN_SIDE" "Lcom/example/jadoube/jadoube/Castling;" (.ref az)) : Ctr l Z x code maxLocals ret ws room_1 #[(.int p1), (.int p2)] h0 (Pure (.int 1) h0) := by
  refine ctr_mk pn_0 (own := "com/example/jadoube/jadoube/CastlingForLetterPinLaw") (mn := "law") rfl rfl ?_
  intro p e s m below meth c T0 X0 hx hby hml hZ hown hnm hret hlk e0
  refine o_entry (ef_0 m p1 p2) ?_
  skip
  refine o_iloadN X0 hx (pc' := 1) (hb hby at_0) rfl rfl ?_
  refine o_bipush X0 hx (pc' := 3) (v := (7 : Int32)) (hb hby at_1) rfl rfl ?_
  refine o_iand X0 hx (pc' := 4) (hb hby at_3) rfl ?_
  refine o_istoreN X0 hx (pc' := 5) (Ls' := #[.val (.int p1), .val (.int p2), .val (.int (p1 &&& (7 : Int32))), .unset, .unset, .unset]) (hb hby at_4) rfl rfl ?_
  refine o_iloadN X0 hx (pc' := 6) (hb hby at_5) rfl rfl ?_
  refine o_if_ne X0 hx (pc' := 9) (pt := 15) (hb hby at_6) rfl (by decide) (by decide) (fun hc6 => ?_) (fun hc6 => ?_)
  · skip
    skip
    refine o_iloadN X0 hx (pc' := 16) (hb hby at_15) rfl rfl ?_
    refine o_iconst X0 hx (pc' := 17) (v := (1 : Int32)) (hb hby at_16) rfl rfl ?_
    refine o_icmp_ne X0 hx (pc' := 20) (pt := 26) (hb hby at_17) rfl (by decide) (by decide) (fun hc17 => ?_) (fun hc17 => ?_)
    · skip
      skip
      refine o_iloadN X0 hx (pc' := 27) (hb hby at_26) rfl rfl ?_
      refine o_iconst X0 hx (pc' := 28) (v := (2 : Int32)) (hb hby at_27) rfl rfl ?_
      refine o_icmp_ne X0 hx (pc' := 31) (pt := 37) (hb hby at_28) rfl (by decide) (by decide) (fun hc28 => ?_) (fun hc28 => ?_)
      · skip
        skip
        refine o_iloadN X0 hx (pc' := 38) (hb hby at_37) rfl rfl ?_
        refine o_iconst X0 hx (pc' := 39) (v := (3 : Int32)) (hb hby at_38) rfl rfl ?_
        refine o_icmp_ne X0 hx (pc' := 42) (pt := 48) (hb hby at_39) rfl (by decide) (by decide) (fun hc39 => ?_) (fun hc39 => ?_)
        · skip
          skip
          refine o_iloadN X0 hx (pc' := 49) (hb hby at_48) rfl rfl ?_
          refine o_i2c X0 hx (pc' := 50) (hb hby at_49) rfl ?_
          refine o_istoreN X0 hx (pc' := 51) (Ls' := #[.val (.int p1), .val (.int p2), .val (.int (p1 &&& (7 : Int32))), .val (.int (p2.toUInt32.toUInt16.toUInt32.toInt32)), .unset, .unset]) (hb hby at_50) rfl rfl ?_
          refine o_iloadN X0 hx (pc' := 52) (hb hby at_51) rfl rfl ?_
          by_cases q0 : (p2.toUInt32.toUInt16.toUInt32.toInt32) = (75 : Int32)
          · skip
            refine o_callSP X0 hx hZ [(.int (p2.toUInt32.toUInt16.toUInt32.toInt32))] (rmL0 l Z a0 hw h0 n0 Z0 (p2.toUInt32.toUInt16.toUInt32.toInt32) aw ax ay az b k dv SC V F0 F1 F2 F3 q0) hown (hw _ (List.mem_of_getElem? (i := 0) rfl)) (hw _ (List.mem_of_getElem? (i := 1) rfl)) (hw _ (List.mem_of_getElem? (i := 2) rfl)) (hw _ (List.mem_of_getElem? (i := 3) rfl)) (by decide) pd_0 e0 (by rw [hml]; rfl) rfl rfl rfl (hb hby at_52) (pc' := 55) rfl 0 (Nat.le_of_eq rfl) (by decide) (by decide) rfl rfl (by decide) (by decide) ?_
            intro T1 X1 e1
            show Dn p e below _ (T1.setTop (mkF m 55 #[.val (.int p1), .val (.int p2), .val (.int (p1 &&& (7 : Int32))), .val (.int (p2.toUInt32.toUInt16.toUInt32.toInt32)), .unset, .unset] [(.ref aw)]))
            refine o_astore X1 hx (pc' := 57) (Ls' := #[.val (.int p1), .val (.int p2), .val (.int (p1 &&& (7 : Int32))), .val (.int (p2.toUInt32.toUInt16.toUInt32.toInt32)), .val (.ref aw), .unset]) (hb hby at_55) rfl rfl rfl ?_
            refine o_iloadN X1 hx (pc' := 58) (hb hby at_57) rfl rfl ?_
            refine o_callSP X1 hx hZ [(.int (p2.toUInt32.toUInt16.toUInt32.toInt32))] (rmE0 l Z a0 hw h0 n0 Z0 (p2.toUInt32.toUInt16.toUInt32.toInt32) aw ax ay az S0 S1 S2 S3 q0) hown (hw _ (List.mem_of_getElem? (i := 9) rfl)) (hw _ (List.mem_of_getElem? (i := 10) rfl)) (hw _ (List.mem_of_getElem? (i := 11) rfl)) (hw _ (List.mem_of_getElem? (i := 12) rfl)) (by decide) pd_0 e1 (by rw [hml]; rfl) rfl rfl rfl (hb hby at_58) (pc' := 61) rfl 0 (Nat.le_of_eq rfl) (by decide) (by decide) rfl rfl (by decide) (by decide) ?_
            intro T2 X2 e2
            show Dn p e below _ (T2.setTop (mkF m 61 #[.val (.int p1), .val (.int p2), .val (.int (p1 &&& (7 : Int32))), .val (.int (p2.toUInt32.toUInt16.toUInt32.toInt32)), .val (.ref aw), .unset] [(.ref aw)]))
            refine o_astore X2 hx (pc' := 63) (Ls' := #[.val (.int p1), .val (.int p2), .val (.int (p1 &&& (7 : Int32))), .val (.int (p2.toUInt32.toUInt16.toUInt32.toInt32)), .val (.ref aw), .val (.ref aw)]) (hb hby at_61) rfl rfl rfl ?_
            refine o_aload X2 hx (pc' := 65) (hb hby at_63) rfl rfl rfl ?_
            refine o_aload X2 hx (pc' := 67) (hb hby at_65) rfl rfl rfl ?_
            refine o_acmp_ne X2 hx (pc' := 70) (pt := 74) (hb hby at_67) rfl (by decide) (by decide) rfl rfl (fun q => absurd rfl q) (fun _ => ?_)
            refine o_iconst X2 hx (pc' := 71) (v := (1 : Int32)) (hb hby at_70) rfl rfl ?_
            refine o_goto X2 hx (pc' := 75) (hb hby at_71) (by decide) (by decide) ?_
            exact finN X2 hx hlk (t := .boolean) hret (by simp) (hb hby at_75) (by decide) (by decide) ⟨rfl, rfl, e2⟩
          by_cases q1 : (p2.toUInt32.toUInt16.toUInt32.toInt32) = (81 : Int32)
          · skip
            refine o_callSP X0 hx hZ [(.int (p2.toUInt32.toUInt16.toUInt32.toInt32))] (rmL1 l Z a0 hw h0 n0 Z0 (p2.toUInt32.toUInt16.toUInt32.toInt32) aw ax ay az b k dv SC V F0 F1 F2 F3 q0 q1) hown (hw _ (List.mem_of_getElem? (i := 0) rfl)) (hw _ (List.mem_of_getElem? (i := 1) rfl)) (hw _ (List.mem_of_getElem? (i := 2) rfl)) (hw _ (List.mem_of_getElem? (i := 3) rfl)) (by decide) pd_0 e0 (by rw [hml]; rfl) rfl rfl rfl (hb hby at_52) (pc' := 55) rfl 0 (Nat.le_of_eq rfl) (by decide) (by decide) rfl rfl (by decide) (by decide) ?_
            intro T3 X3 e3
            show Dn p e below _ (T3.setTop (mkF m 55 #[.val (.int p1), .val (.int p2), .val (.int (p1 &&& (7 : Int32))), .val (.int (p2.toUInt32.toUInt16.toUInt32.toInt32)), .unset, .unset] [(.ref ax)]))
            refine o_astore X3 hx (pc' := 57) (Ls' := #[.val (.int p1), .val (.int p2), .val (.int (p1 &&& (7 : Int32))), .val (.int (p2.toUInt32.toUInt16.toUInt32.toInt32)), .val (.ref ax), .unset]) (hb hby at_55) rfl rfl rfl ?_
            refine o_iloadN X3 hx (pc' := 58) (hb hby at_57) rfl rfl ?_
            refine o_callSP X3 hx hZ [(.int (p2.toUInt32.toUInt16.toUInt32.toInt32))] (rmE1 l Z a0 hw h0 n0 Z0 (p2.toUInt32.toUInt16.toUInt32.toInt32) aw ax ay az S0 S1 S2 S3 q0 q1) hown (hw _ (List.mem_of_getElem? (i := 9) rfl)) (hw _ (List.mem_of_getElem? (i := 10) rfl)) (hw _ (List.mem_of_getElem? (i := 11) rfl)) (hw _ (List.mem_of_getElem? (i := 12) rfl)) (by decide) pd_0 e3 (by rw [hml]; rfl) rfl rfl rfl (hb hby at_58) (pc' := 61) rfl 0 (Nat.le_of_eq rfl) (by decide) (by decide) rfl rfl (by decide) (by decide) ?_
            intro T4 X4 e4
            show Dn p e below _ (T4.setTop (mkF m 61 #[.val (.int p1), .val (.int p2), .val (.int (p1 &&& (7 : Int32))), .val (.int (p2.toUInt32.toUInt16.toUInt32.toInt32)), .val (.ref ax), .unset] [(.ref ax)]))
            refine o_astore X4 hx (pc' := 63) (Ls' := #[.val (.int p1), .val (.int p2), .val (.int (p1 &&& (7 : Int32))), .val (.int (p2.toUInt32.toUInt16.toUInt32.toInt32)), .val (.ref ax), .val (.ref ax)]) (hb hby at_61) rfl rfl rfl ?_
            refine o_aload X4 hx (pc' := 65) (hb hby at_63) rfl rfl rfl ?_
            refine o_aload X4 hx (pc' := 67) (hb hby at_65) rfl rfl rfl ?_
            refine o_acmp_ne X4 hx (pc' := 70) (pt := 74) (hb hby at_67) rfl (by decide) (by decide) rfl rfl (fun q => absurd rfl q) (fun _ => ?_)
            refine o_iconst X4 hx (pc' := 71) (v := (1 : Int32)) (hb hby at_70) rfl rfl ?_
            refine o_goto X4 hx (pc' := 75) (hb hby at_71) (by decide) (by decide) ?_
            exact finN X4 hx hlk (t := .boolean) hret (by simp) (hb hby at_75) (by decide) (by decide) ⟨rfl, rfl, e4⟩
          by_cases q2 : (p2.toUInt32.toUInt16.toUInt32.toInt32) = (107 : Int32)
          · skip
            refine o_callSP X0 hx hZ [(.int (p2.toUInt32.toUInt16.toUInt32.toInt32))] (rmL2 l Z a0 hw h0 n0 Z0 (p2.toUInt32.toUInt16.toUInt32.toInt32) aw ax ay az b k dv SC V F0 F1 F2 F3 q0 q1 q2) hown (hw _ (List.mem_of_getElem? (i := 0) rfl)) (hw _ (List.mem_of_getElem? (i := 1) rfl)) (hw _ (List.mem_of_getElem? (i := 2) rfl)) (hw _ (List.mem_of_getElem? (i := 3) rfl)) (by decide) pd_0 e0 (by rw [hml]; rfl) rfl rfl rfl (hb hby at_52) (pc' := 55) rfl 0 (Nat.le_of_eq rfl) (by decide) (by decide) rfl rfl (by decide) (by decide) ?_
            intro T5 X5 e5
            show Dn p e below _ (T5.setTop (mkF m 55 #[.val (.int p1), .val (.int p2), .val (.int (p1 &&& (7 : Int32))), .val (.int (p2.toUInt32.toUInt16.toUInt32.toInt32)), .unset, .unset] [(.ref ay)]))
            refine o_astore X5 hx (pc' := 57) (Ls' := #[.val (.int p1), .val (.int p2), .val (.int (p1 &&& (7 : Int32))), .val (.int (p2.toUInt32.toUInt16.toUInt32.toInt32)), .val (.ref ay), .unset]) (hb hby at_55) rfl rfl rfl ?_
            refine o_iloadN X5 hx (pc' := 58) (hb hby at_57) rfl rfl ?_
            refine o_callSP X5 hx hZ [(.int (p2.toUInt32.toUInt16.toUInt32.toInt32))] (rmE2 l Z a0 hw h0 n0 Z0 (p2.toUInt32.toUInt16.toUInt32.toInt32) aw ax ay az S0 S1 S2 S3 q0 q1 q2) hown (hw _ (List.mem_of_getElem? (i := 9) rfl)) (hw _ (List.mem_of_getElem? (i := 10) rfl)) (hw _ (List.mem_of_getElem? (i := 11) rfl)) (hw _ (List.mem_of_getElem? (i := 12) rfl)) (by decide) pd_0 e5 (by rw [hml]; rfl) rfl rfl rfl (hb hby at_58) (pc' := 61) rfl 0 (Nat.le_of_eq rfl) (by decide) (by decide) rfl rfl (by decide) (by decide) ?_
            intro T6 X6 e6
            show Dn p e below _ (T6.setTop (mkF m 61 #[.val (.int p1), .val (.int p2), .val (.int (p1 &&& (7 : Int32))), .val (.int (p2.toUInt32.toUInt16.toUInt32.toInt32)), .val (.ref ay), .unset] [(.ref ay)]))
            refine o_astore X6 hx (pc' := 63) (Ls' := #[.val (.int p1), .val (.int p2), .val (.int (p1 &&& (7 : Int32))), .val (.int (p2.toUInt32.toUInt16.toUInt32.toInt32)), .val (.ref ay), .val (.ref ay)]) (hb hby at_61) rfl rfl rfl ?_
            refine o_aload X6 hx (pc' := 65) (hb hby at_63) rfl rfl rfl ?_
            refine o_aload X6 hx (pc' := 67) (hb hby at_65) rfl rfl rfl ?_
            refine o_acmp_ne X6 hx (pc' := 70) (pt := 74) (hb hby at_67) rfl (by decide) (by decide) rfl rfl (fun q => absurd rfl q) (fun _ => ?_)
            refine o_iconst X6 hx (pc' := 71) (v := (1 : Int32)) (hb hby at_70) rfl rfl ?_
            refine o_goto X6 hx (pc' := 75) (hb hby at_71) (by decide) (by decide) ?_
            exact finN X6 hx hlk (t := .boolean) hret (by simp) (hb hby at_75) (by decide) (by decide) ⟨rfl, rfl, e6⟩
          by_cases q3 : (p2.toUInt32.toUInt16.toUInt32.toInt32) = (113 : Int32)
          · skip
            refine o_callSP X0 hx hZ [(.int (p2.toUInt32.toUInt16.toUInt32.toInt32))] (rmL3 l Z a0 hw h0 n0 Z0 (p2.toUInt32.toUInt16.toUInt32.toInt32) aw ax ay az b k dv SC V F0 F1 F2 F3 q0 q1 q2 q3) hown (hw _ (List.mem_of_getElem? (i := 0) rfl)) (hw _ (List.mem_of_getElem? (i := 1) rfl)) (hw _ (List.mem_of_getElem? (i := 2) rfl)) (hw _ (List.mem_of_getElem? (i := 3) rfl)) (by decide) pd_0 e0 (by rw [hml]; rfl) rfl rfl rfl (hb hby at_52) (pc' := 55) rfl 0 (Nat.le_of_eq rfl) (by decide) (by decide) rfl rfl (by decide) (by decide) ?_
            intro T7 X7 e7
            show Dn p e below _ (T7.setTop (mkF m 55 #[.val (.int p1), .val (.int p2), .val (.int (p1 &&& (7 : Int32))), .val (.int (p2.toUInt32.toUInt16.toUInt32.toInt32)), .unset, .unset] [(.ref az)]))
            refine o_astore X7 hx (pc' := 57) (Ls' := #[.val (.int p1), .val (.int p2), .val (.int (p1 &&& (7 : Int32))), .val (.int (p2.toUInt32.toUInt16.toUInt32.toInt32)), .val (.ref az), .unset]) (hb hby at_55) rfl rfl rfl ?_
            refine o_iloadN X7 hx (pc' := 58) (hb hby at_57) rfl rfl ?_
            refine o_callSP X7 hx hZ [(.int (p2.toUInt32.toUInt16.toUInt32.toInt32))] (rmE3 l Z a0 hw h0 n0 Z0 (p2.toUInt32.toUInt16.toUInt32.toInt32) aw ax ay az S0 S1 S2 S3 q0 q1 q2 q3) hown (hw _ (List.mem_of_getElem? (i := 9) rfl)) (hw _ (List.mem_of_getElem? (i := 10) rfl)) (hw _ (List.mem_of_getElem? (i := 11) rfl)) (hw _ (List.mem_of_getElem? (i := 12) rfl)) (by decide) pd_0 e7 (by rw [hml]; rfl) rfl rfl rfl (hb hby at_58) (pc' := 61) rfl 0 (Nat.le_of_eq rfl) (by decide) (by decide) rfl rfl (by decide) (by decide) ?_
            intro T8 X8 e8
            show Dn p e below _ (T8.setTop (mkF m 61 #[.val (.int p1), .val (.int p2), .val (.int (p1 &&& (7 : Int32))), .val (.int (p2.toUInt32.toUInt16.toUInt32.toInt32)), .val (.ref az), .unset] [(.ref az)]))
            refine o_astore X8 hx (pc' := 63) (Ls' := #[.val (.int p1), .val (.int p2), .val (.int (p1 &&& (7 : Int32))), .val (.int (p2.toUInt32.toUInt16.toUInt32.toInt32)), .val (.ref az), .val (.ref az)]) (hb hby at_61) rfl rfl rfl ?_
            refine o_aload X8 hx (pc' := 65) (hb hby at_63) rfl rfl rfl ?_
            refine o_aload X8 hx (pc' := 67) (hb hby at_65) rfl rfl rfl ?_
            refine o_acmp_ne X8 hx (pc' := 70) (pt := 74) (hb hby at_67) rfl (by decide) (by decide) rfl rfl (fun q => absurd rfl q) (fun _ => ?_)
            refine o_iconst X8 hx (pc' := 71) (v := (1 : Int32)) (hb hby at_70) rfl rfl ?_
            refine o_goto X8 hx (pc' := 75) (hb hby at_71) (by decide) (by decide) ?_
            exact finN X8 hx hlk (t := .boolean) hret (by simp) (hb hby at_75) (by decide) (by decide) ⟨rfl, rfl, e8⟩
          refine o_callSP X0 hx hZ [(.int (p2.toUInt32.toUInt16.toUInt32.toInt32))] (rmL4 l Z a0 hw h0 n0 Z0 (p2.toUInt32.toUInt16.toUInt32.toInt32) aw ax ay az b k dv SC V F0 F1 F2 F3 q0 q1 q2 q3) hown (hw _ (List.mem_of_getElem? (i := 0) rfl)) (hw _ (List.mem_of_getElem? (i := 1) rfl)) (hw _ (List.mem_of_getElem? (i := 2) rfl)) (hw _ (List.mem_of_getElem? (i := 3) rfl)) (by decide) pd_0 e0 (by rw [hml]; rfl) rfl rfl rfl (hb hby at_52) (pc' := 55) rfl 0 (Nat.le_of_eq rfl) (by decide) (by decide) rfl rfl (by decide) (by decide) ?_
          intro T9 X9 e9
          show Dn p e below _ (T9.setTop (mkF m 55 #[.val (.int p1), .val (.int p2), .val (.int (p1 &&& (7 : Int32))), .val (.int (p2.toUInt32.toUInt16.toUInt32.toInt32)), .unset, .unset] [.null]))
          refine o_astore X9 hx (pc' := 57) (Ls' := #[.val (.int p1), .val (.int p2), .val (.int (p1 &&& (7 : Int32))), .val (.int (p2.toUInt32.toUInt16.toUInt32.toInt32)), .val .null, .unset]) (hb hby at_55) rfl rfl rfl ?_
          refine o_iloadN X9 hx (pc' := 58) (hb hby at_57) rfl rfl ?_
          refine o_callSP X9 hx hZ [(.int (p2.toUInt32.toUInt16.toUInt32.toInt32))] (rmE4 l Z a0 hw h0 n0 Z0 (p2.toUInt32.toUInt16.toUInt32.toInt32) aw ax ay az S0 S1 S2 S3 q0 q1 q2 q3) hown (hw _ (List.mem_of_getElem? (i := 9) rfl)) (hw _ (List.mem_of_getElem? (i := 10) rfl)) (hw _ (List.mem_of_getElem? (i := 11) rfl)) (hw _ (List.mem_of_getElem? (i := 12) rfl)) (by decide) pd_0 e9 (by rw [hml]; rfl) rfl rfl rfl (hb hby at_58) (pc' := 61) rfl 0 (Nat.le_of_eq rfl) (by decide) (by decide) rfl rfl (by decide) (by decide) ?_
          intro T10 X10 e10
          show Dn p e below _ (T10.setTop (mkF m 61 #[.val (.int p1), .val (.int p2), .val (.int (p1 &&& (7 : Int32))), .val (.int (p2.toUInt32.toUInt16.toUInt32.toInt32)), .val .null, .unset] [.null]))
          refine o_astore X10 hx (pc' := 63) (Ls' := #[.val (.int p1), .val (.int p2), .val (.int (p1 &&& (7 : Int32))), .val (.int (p2.toUInt32.toUInt16.toUInt32.toInt32)), .val .null, .val .null]) (hb hby at_61) rfl rfl rfl ?_
          refine o_aload X10 hx (pc' := 65) (hb hby at_63) rfl rfl rfl ?_
          refine o_aload X10 hx (pc' := 67) (hb hby at_65) rfl rfl rfl ?_
          refine o_acmp_ne X10 hx (pc' := 70) (pt := 74) (hb hby at_67) rfl (by decide) (by decide) rfl rfl (fun q => absurd rfl q) (fun _ => ?_)
          refine o_iconst X10 hx (pc' := 71) (v := (1 : Int32)) (hb hby at_70) rfl rfl ?_
          refine o_goto X10 hx (pc' := 75) (hb hby at_71) (by decide) (by decide) ?_
          exact finN X10 hx hlk (t := .boolean) hret (by simp) (hb hby at_75) (by decide) (by decide) ⟨rfl, rfl, e10⟩
        · skip
          skip
          refine o_bipush X0 hx (pc' := 44) (v := (113 : Int32)) (hb hby at_42) rfl rfl ?_
          refine o_istoreN X0 hx (pc' := 45) (Ls' := #[.val (.int p1), .val (.int p2), .val (.int (p1 &&& (7 : Int32))), .val (.int (113 : Int32)), .unset, .unset]) (hb hby at_44) rfl rfl ?_
          refine o_goto X0 hx (pc' := 51) (hb hby at_45) (by decide) (by decide) ?_
          refine o_iloadN X0 hx (pc' := 52) (hb hby at_51) rfl rfl ?_
          refine o_callSP X0 hx hZ [(.int (113 : Int32))] (rmL3 l Z a0 hw h0 n0 Z0 (113 : Int32) aw ax ay az b k dv SC V F0 F1 F2 F3 (by decide) (by decide) (by decide) rfl) hown (hw _ (List.mem_of_getElem? (i := 0) rfl)) (hw _ (List.mem_of_getElem? (i := 1) rfl)) (hw _ (List.mem_of_getElem? (i := 2) rfl)) (hw _ (List.mem_of_getElem? (i := 3) rfl)) (by decide) pd_0 e0 (by rw [hml]; rfl) rfl rfl rfl (hb hby at_52) (pc' := 55) rfl 0 (Nat.le_of_eq rfl) (by decide) (by decide) rfl rfl (by decide) (by decide) ?_
          intro T11 X11 e11
          show Dn p e below _ (T11.setTop (mkF m 55 #[.val (.int p1), .val (.int p2), .val (.int (p1 &&& (7 : Int32))), .val (.int (113 : Int32)), .unset, .unset] [(.ref az)]))
          refine o_astore X11 hx (pc' := 57) (Ls' := #[.val (.int p1), .val (.int p2), .val (.int (p1 &&& (7 : Int32))), .val (.int (113 : Int32)), .val (.ref az), .unset]) (hb hby at_55) rfl rfl rfl ?_
          refine o_iloadN X11 hx (pc' := 58) (hb hby at_57) rfl rfl ?_
          refine o_callSP X11 hx hZ [(.int (113 : Int32))] (rmE3 l Z a0 hw h0 n0 Z0 (113 : Int32) aw ax ay az S0 S1 S2 S3 (by decide) (by decide) (by decide) rfl) hown (hw _ (List.mem_of_getElem? (i := 9) rfl)) (hw _ (List.mem_of_getElem? (i := 10) rfl)) (hw _ (List.mem_of_getElem? (i := 11) rfl)) (hw _ (List.mem_of_getElem? (i := 12) rfl)) (by decide) pd_0 e11 (by rw [hml]; rfl) rfl rfl rfl (hb hby at_58) (pc' := 61) rfl 0 (Nat.le_of_eq rfl) (by decide) (by decide) rfl rfl (by decide) (by decide) ?_
          intro T12 X12 e12
          show Dn p e below _ (T12.setTop (mkF m 61 #[.val (.int p1), .val (.int p2), .val (.int (p1 &&& (7 : Int32))), .val (.int (113 : Int32)), .val (.ref az), .unset] [(.ref az)]))
          refine o_astore X12 hx (pc' := 63) (Ls' := #[.val (.int p1), .val (.int p2), .val (.int (p1 &&& (7 : Int32))), .val (.int (113 : Int32)), .val (.ref az), .val (.ref az)]) (hb hby at_61) rfl rfl rfl ?_
          refine o_aload X12 hx (pc' := 65) (hb hby at_63) rfl rfl rfl ?_
          refine o_aload X12 hx (pc' := 67) (hb hby at_65) rfl rfl rfl ?_
          refine o_acmp_ne X12 hx (pc' := 70) (pt := 74) (hb hby at_67) rfl (by decide) (by decide) rfl rfl (fun q => absurd rfl q) (fun _ => ?_)
          refine o_iconst X12 hx (pc' := 71) (v := (1 : Int32)) (hb hby at_70) rfl rfl ?_
          refine o_goto X12 hx (pc' := 75) (hb hby at_71) (by decide) (by decide) ?_
          exact finN X12 hx hlk (t := .boolean) hret (by simp) (hb hby at_75) (by decide) (by decide) ⟨rfl, rfl, e12⟩
      · skip
        skip
        refine o_bipush X0 hx (pc' := 33) (v := (107 : Int32)) (hb hby at_31) rfl rfl ?_
        refine o_istoreN X0 hx (pc' := 34) (Ls' := #[.val (.int p1), .val (.int p2), .val (.int (p1 &&& (7 : Int32))), .val (.int (107 : Int32)), .unset, .unset]) (hb hby at_33) rfl rfl ?_
        refine o_goto X0 hx (pc' := 51) (hb hby at_34) (by decide) (by decide) ?_
        refine o_iloadN X0 hx (pc' := 52) (hb hby at_51) rfl rfl ?_
        refine o_callSP X0 hx hZ [(.int (107 : Int32))] (rmL2 l Z a0 hw h0 n0 Z0 (107 : Int32) aw ax ay az b k dv SC V F0 F1 F2 F3 (by decide) (by decide) rfl) hown (hw _ (List.mem_of_getElem? (i := 0) rfl)) (hw _ (List.mem_of_getElem? (i := 1) rfl)) (hw _ (List.mem_of_getElem? (i := 2) rfl)) (hw _ (List.mem_of_getElem? (i := 3) rfl)) (by decide) pd_0 e0 (by rw [hml]; rfl) rfl rfl rfl (hb hby at_52) (pc' := 55) rfl 0 (Nat.le_of_eq rfl) (by decide) (by decide) rfl rfl (by decide) (by decide) ?_
        intro T13 X13 e13
        show Dn p e below _ (T13.setTop (mkF m 55 #[.val (.int p1), .val (.int p2), .val (.int (p1 &&& (7 : Int32))), .val (.int (107 : Int32)), .unset, .unset] [(.ref ay)]))
        refine o_astore X13 hx (pc' := 57) (Ls' := #[.val (.int p1), .val (.int p2), .val (.int (p1 &&& (7 : Int32))), .val (.int (107 : Int32)), .val (.ref ay), .unset]) (hb hby at_55) rfl rfl rfl ?_
        refine o_iloadN X13 hx (pc' := 58) (hb hby at_57) rfl rfl ?_
        refine o_callSP X13 hx hZ [(.int (107 : Int32))] (rmE2 l Z a0 hw h0 n0 Z0 (107 : Int32) aw ax ay az S0 S1 S2 S3 (by decide) (by decide) rfl) hown (hw _ (List.mem_of_getElem? (i := 9) rfl)) (hw _ (List.mem_of_getElem? (i := 10) rfl)) (hw _ (List.mem_of_getElem? (i := 11) rfl)) (hw _ (List.mem_of_getElem? (i := 12) rfl)) (by decide) pd_0 e13 (by rw [hml]; rfl) rfl rfl rfl (hb hby at_58) (pc' := 61) rfl 0 (Nat.le_of_eq rfl) (by decide) (by decide) rfl rfl (by decide) (by decide) ?_
        intro T14 X14 e14
        show Dn p e below _ (T14.setTop (mkF m 61 #[.val (.int p1), .val (.int p2), .val (.int (p1 &&& (7 : Int32))), .val (.int (107 : Int32)), .val (.ref ay), .unset] [(.ref ay)]))
        refine o_astore X14 hx (pc' := 63) (Ls' := #[.val (.int p1), .val (.int p2), .val (.int (p1 &&& (7 : Int32))), .val (.int (107 : Int32)), .val (.ref ay), .val (.ref ay)]) (hb hby at_61) rfl rfl rfl ?_
        refine o_aload X14 hx (pc' := 65) (hb hby at_63) rfl rfl rfl ?_
        refine o_aload X14 hx (pc' := 67) (hb hby at_65) rfl rfl rfl ?_
        refine o_acmp_ne X14 hx (pc' := 70) (pt := 74) (hb hby at_67) rfl (by decide) (by decide) rfl rfl (fun q => absurd rfl q) (fun _ => ?_)
        refine o_iconst X14 hx (pc' := 71) (v := (1 : Int32)) (hb hby at_70) rfl rfl ?_
        refine o_goto X14 hx (pc' := 75) (hb hby at_71) (by decide) (by decide) ?_
        exact finN X14 hx hlk (t := .boolean) hret (by simp) (hb hby at_75) (by decide) (by decide) ⟨rfl, rfl, e14⟩
    · skip
      skip
      refine o_bipush X0 hx (pc' := 22) (v := (81 : Int32)) (hb hby at_20) rfl rfl ?_
      refine o_istoreN X0 hx (pc' := 23) (Ls' := #[.val (.int p1), .val (.int p2), .val (.int (p1 &&& (7 : Int32))), .val (.int (81 : Int32)), .unset, .unset]) (hb hby at_22) rfl rfl ?_
      refine o_goto X0 hx (pc' := 51) (hb hby at_23) (by decide) (by decide) ?_
      refine o_iloadN X0 hx (pc' := 52) (hb hby at_51) rfl rfl ?_
      refine o_callSP X0 hx hZ [(.int (81 : Int32))] (rmL1 l Z a0 hw h0 n0 Z0 (81 : Int32) aw ax ay az b k dv SC V F0 F1 F2 F3 (by decide) rfl) hown (hw _ (List.mem_of_getElem? (i := 0) rfl)) (hw _ (List.mem_of_getElem? (i := 1) rfl)) (hw _ (List.mem_of_getElem? (i := 2) rfl)) (hw _ (List.mem_of_getElem? (i := 3) rfl)) (by decide) pd_0 e0 (by rw [hml]; rfl) rfl rfl rfl (hb hby at_52) (pc' := 55) rfl 0 (Nat.le_of_eq rfl) (by decide) (by decide) rfl rfl (by decide) (by decide) ?_
      intro T15 X15 e15
      show Dn p e below _ (T15.setTop (mkF m 55 #[.val (.int p1), .val (.int p2), .val (.int (p1 &&& (7 : Int32))), .val (.int (81 : Int32)), .unset, .unset] [(.ref ax)]))
      refine o_astore X15 hx (pc' := 57) (Ls' := #[.val (.int p1), .val (.int p2), .val (.int (p1 &&& (7 : Int32))), .val (.int (81 : Int32)), .val (.ref ax), .unset]) (hb hby at_55) rfl rfl rfl ?_
      refine o_iloadN X15 hx (pc' := 58) (hb hby at_57) rfl rfl ?_
      refine o_callSP X15 hx hZ [(.int (81 : Int32))] (rmE1 l Z a0 hw h0 n0 Z0 (81 : Int32) aw ax ay az S0 S1 S2 S3 (by decide) rfl) hown (hw _ (List.mem_of_getElem? (i := 9) rfl)) (hw _ (List.mem_of_getElem? (i := 10) rfl)) (hw _ (List.mem_of_getElem? (i := 11) rfl)) (hw _ (List.mem_of_getElem? (i := 12) rfl)) (by decide) pd_0 e15 (by rw [hml]; rfl) rfl rfl rfl (hb hby at_58) (pc' := 61) rfl 0 (Nat.le_of_eq rfl) (by decide) (by decide) rfl rfl (by decide) (by decide) ?_
      intro T16 X16 e16
      show Dn p e below _ (T16.setTop (mkF m 61 #[.val (.int p1), .val (.int p2), .val (.int (p1 &&& (7 : Int32))), .val (.int (81 : Int32)), .val (.ref ax), .unset] [(.ref ax)]))
      refine o_astore X16 hx (pc' := 63) (Ls' := #[.val (.int p1), .val (.int p2), .val (.int (p1 &&& (7 : Int32))), .val (.int (81 : Int32)), .val (.ref ax), .val (.ref ax)]) (hb hby at_61) rfl rfl rfl ?_
      refine o_aload X16 hx (pc' := 65) (hb hby at_63) rfl rfl rfl ?_
      refine o_aload X16 hx (pc' := 67) (hb hby at_65) rfl rfl rfl ?_
      refine o_acmp_ne X16 hx (pc' := 70) (pt := 74) (hb hby at_67) rfl (by decide) (by decide) rfl rfl (fun q => absurd rfl q) (fun _ => ?_)
      refine o_iconst X16 hx (pc' := 71) (v := (1 : Int32)) (hb hby at_70) rfl rfl ?_
      refine o_goto X16 hx (pc' := 75) (hb hby at_71) (by decide) (by decide) ?_
      exact finN X16 hx hlk (t := .boolean) hret (by simp) (hb hby at_75) (by decide) (by decide) ⟨rfl, rfl, e16⟩
  · skip
    skip
    refine o_bipush X0 hx (pc' := 11) (v := (75 : Int32)) (hb hby at_9) rfl rfl ?_
    refine o_istoreN X0 hx (pc' := 12) (Ls' := #[.val (.int p1), .val (.int p2), .val (.int (p1 &&& (7 : Int32))), .val (.int (75 : Int32)), .unset, .unset]) (hb hby at_11) rfl rfl ?_
    refine o_goto X0 hx (pc' := 51) (hb hby at_12) (by decide) (by decide) ?_
    refine o_iloadN X0 hx (pc' := 52) (hb hby at_51) rfl rfl ?_
    refine o_callSP X0 hx hZ [(.int (75 : Int32))] (rmL0 l Z a0 hw h0 n0 Z0 (75 : Int32) aw ax ay az b k dv SC V F0 F1 F2 F3 rfl) hown (hw _ (List.mem_of_getElem? (i := 0) rfl)) (hw _ (List.mem_of_getElem? (i := 1) rfl)) (hw _ (List.mem_of_getElem? (i := 2) rfl)) (hw _ (List.mem_of_getElem? (i := 3) rfl)) (by decide) pd_0 e0 (by rw [hml]; rfl) rfl rfl rfl (hb hby at_52) (pc' := 55) rfl 0 (Nat.le_of_eq rfl) (by decide) (by decide) rfl rfl (by decide) (by decide) ?_
    intro T17 X17 e17
    show Dn p e below _ (T17.setTop (mkF m 55 #[.val (.int p1), .val (.int p2), .val (.int (p1 &&& (7 : Int32))), .val (.int (75 : Int32)), .unset, .unset] [(.ref aw)]))
    refine o_astore X17 hx (pc' := 57) (Ls' := #[.val (.int p1), .val (.int p2), .val (.int (p1 &&& (7 : Int32))), .val (.int (75 : Int32)), .val (.ref aw), .unset]) (hb hby at_55) rfl rfl rfl ?_
    refine o_iloadN X17 hx (pc' := 58) (hb hby at_57) rfl rfl ?_
    refine o_callSP X17 hx hZ [(.int (75 : Int32))] (rmE0 l Z a0 hw h0 n0 Z0 (75 : Int32) aw ax ay az S0 S1 S2 S3 rfl) hown (hw _ (List.mem_of_getElem? (i := 9) rfl)) (hw _ (List.mem_of_getElem? (i := 10) rfl)) (hw _ (List.mem_of_getElem? (i := 11) rfl)) (hw _ (List.mem_of_getElem? (i := 12) rfl)) (by decide) pd_0 e17 (by rw [hml]; rfl) rfl rfl rfl (hb hby at_58) (pc' := 61) rfl 0 (Nat.le_of_eq rfl) (by decide) (by decide) rfl rfl (by decide) (by decide) ?_
    intro T18 X18 e18
    show Dn p e below _ (T18.setTop (mkF m 61 #[.val (.int p1), .val (.int p2), .val (.int (p1 &&& (7 : Int32))), .val (.int (75 : Int32)), .val (.ref aw), .unset] [(.ref aw)]))
    refine o_astore X18 hx (pc' := 63) (Ls' := #[.val (.int p1), .val (.int p2), .val (.int (p1 &&& (7 : Int32))), .val (.int (75 : Int32)), .val (.ref aw), .val (.ref aw)]) (hb hby at_61) rfl rfl rfl ?_
    refine o_aload X18 hx (pc' := 65) (hb hby at_63) rfl rfl rfl ?_
    refine o_aload X18 hx (pc' := 67) (hb hby at_65) rfl rfl rfl ?_
    refine o_acmp_ne X18 hx (pc' := 70) (pt := 74) (hb hby at_67) rfl (by decide) (by decide) rfl rfl (fun q => absurd rfl q) (fun _ => ?_)
    refine o_iconst X18 hx (pc' := 71) (v := (1 : Int32)) (hb hby at_70) rfl rfl ?_
    refine o_goto X18 hx (pc' := 75) (hb hby at_71) (by decide) (by decide) ?_
    exact finN X18 hx hlk (t := .boolean) hret (by simp) (hb hby at_75) (by decide) (by decide) ⟨rfl, rfl, e18⟩
set_option maxRecDepth 65536 in
set_option maxHeartbeats 40000000 in
theorem comes_1 {Post : Tables → Env → Array Value → State → Outcome → State → Prop} (hpost : ∀ tb e args s v u, (limb_1_1.after args s (.returned v) u = true ∧ limb_1_2.after args s (.returned v) u = true ∧ True) → FrameEnd s (.returned v) u (Jvm.fieldLocs frame_1_writes args s ++ Jvm.arrayLocs frame_1_arrays args s ++ Jvm.staticLocs frame_1_statics s) 0 0 → Post tb e args s (.returned v) u) :
    ArmFor flags0 classFile x code maxLocals ret World_1 tables_1 room_1 Calls_1 rest_1 Pre_1 Post := by
  intro l hfl _ _ p e ha hc hk s m args below hf hA hF happ hP
  obtain ⟨hcalls, hrest, hpre⟩ := hP
  obtain ⟨-, -, -, hnamed, -, -, -, hat⟩ := (Spec.applies_iff hf).mp happ
  obtain ⟨hg, hn⟩ := and_e (Cond.before_iff.mp (show (Jvm.Cond.and given_1 narrow_1).before args s = true from hpre))
  obtain ⟨g0, r0⟩ := and_e hg
  obtain ⟨g1, r1⟩ := and_e r0
  have g2 := r1
  obtain ⟨w0, w1, rfl⟩ : ∃ w0 w1 : Value, args = #[w0, w1] := by
    have hs : args.size = 2 := by simpa [Cond.value, given_1] using g0
    obtain ⟨L⟩ := args
    match L, hs with
    | [w0, w1], _ => exact ⟨w0, w1, rfl⟩
  have hw := fun d (hd : d ∈ tables_1) => atoms_spec (ws := Jvm.Cond.code x code maxLocals ret :: tables_1) hat d (List.mem_cons_of_mem _ hd)
  have hfit : Fit s := fun {y c} hc i hi => by
    obtain ⟨ha, rfl⟩ := Array.getElem?_eq_some_iff.mp hc
    have q := List.all_eq_true.mp ((Array.all_eq_true_iff_forall_mem.mp hF) _ (Array.getElem_mem ha)) i (List.mem_range.mpr hi)
    simpa [Array.getElem?_eq_getElem hi] using q
  obtain ⟨i0, ei0⟩ := is_v g1
  obtain rfl : w0 = (.int i0) := Option.some.inj ei0
  obtain ⟨i1, ei1⟩ := is_v g2
  obtain rfl : w1 = (.int i1) := Option.some.inj ei1
  obtain ⟨hArr, m0⟩ := and_e hn
  obtain ⟨hLen, m1⟩ := and_e m0
  obtain ⟨hx0, m2⟩ := and_e m1
  obtain ⟨he0, m3⟩ := and_e m2
  obtain ⟨hf0, m4⟩ := and_e m3
  obtain ⟨hx1, m5⟩ := and_e m4
  obtain ⟨he1, m6⟩ := and_e m5
  obtain ⟨hf1, m7⟩ := and_e m6
  obtain ⟨hx2, m8⟩ := and_e m7
  obtain ⟨he2, m9⟩ := and_e m8
  obtain ⟨hf2, m10⟩ := and_e m9
  obtain ⟨hx3, m11⟩ := and_e m10
  obtain ⟨he3, m12⟩ := and_e m11
  have hf3 := m12
  obtain ⟨b, evC⟩ := arr_v hArr
  obtain ⟨cl, hA⟩ := Arr.start evC hArr
  have SC := Sta.start evC (Or.inr ⟨(hw _ (List.mem_of_getElem? (i := 2) rfl)), (hw _ (List.mem_of_getElem? (i := 5) rfl))⟩)
  have hlen := own_eqI hLen
  obtain ⟨aw, ev0⟩ := exa_v hx0
  have S0 := Sta.start ev0 (Or.inr ⟨(hw _ (List.mem_of_getElem? (i := 2) rfl)), (hw _ (List.mem_of_getElem? (i := 6) rfl))⟩)
  have o0 := own_eqI hf0
  rw [fld_at ev0] at o0
  have F0 := Fld.start o0
  obtain ⟨hin0, hat0⟩ := elem_in (own_eqR ev0 he0) evC (Term.int_eval 0) hA.1
  obtain ⟨ax, ev1⟩ := exa_v hx1
  have S1 := Sta.start ev1 (Or.inr ⟨(hw _ (List.mem_of_getElem? (i := 2) rfl)), (hw _ (List.mem_of_getElem? (i := 14) rfl))⟩)
  have o1 := own_eqI hf1
  rw [fld_at ev1] at o1
  have F1 := Fld.start o1
  obtain ⟨hin1, hat1⟩ := elem_in (own_eqR ev1 he1) evC (Term.int_eval 1) hA.1
  obtain ⟨ay, ev2⟩ := exa_v hx2
  have S2 := Sta.start ev2 (Or.inr ⟨(hw _ (List.mem_of_getElem? (i := 2) rfl)), (hw _ (List.mem_of_getElem? (i := 15) rfl))⟩)
  have o2 := own_eqI hf2
  rw [fld_at ev2] at o2
  have F2 := Fld.start o2
  obtain ⟨hin2, hat2⟩ := elem_in (own_eqR ev2 he2) evC (Term.int_eval 2) hA.1
  obtain ⟨az, ev3⟩ := exa_v hx3
  have S3 := Sta.start ev3 (Or.inr ⟨(hw _ (List.mem_of_getElem? (i := 2) rfl)), (hw _ (List.mem_of_getElem? (i := 16) rfl))⟩)
  have o3 := own_eqI hf3
  rw [fld_at ev3] at o3
  have F3 := Fld.start o3
  obtain ⟨hin3, hat3⟩ := elem_in (own_eqR ev3 he3) evC (Term.int_eval 3) hA.1
  have harr : s.arrayAt? b = some cl := Arr.fin (Vm.Alike.refl s.vm) hA
  have hsz : cl.slots.size = 4 := own_size evC harr hlen
  have V := Arv.start (z := 4) (vs := [.ref aw, .ref ax, .ref ay, .ref az]) (dv := .null) hfit hA (by rw [hsz]; decide) (by rw [hsz]; rfl) (by decide) rfl ⟨hat0, hat1, hat2, hat3, trivial⟩
  obtain ⟨n, o, h1, h2, h3, v, L, rfl, hQ, hq⟩ := rm0 l s _ hw tables_1 s.heap s.heap.size (Nat.le_refl _) i0 i1 aw ax ay az b cl.cls .null SC V F0 F1 F2 F3 S0 S1 S2 S3 p e ha hc hk s m _ below hf ((Spec.applies_iff_loose hf).mp happ).1 ⟨rfl, State.Warmed39.refl s, rfl⟩ trivial
  obtain ⟨rfl, rfl, -⟩ := hQ
  have N : Fr s.heap.size ([] : List Loc) := Fr.nil _
  refine ⟨n, _, h1, h2, h3, hpost _ _ _ _ _ _ ⟨Cond.after_iff.mpr rfl, Cond.after_iff.mpr (eq_i res_at (Term.int_eval (1)) rfl), trivial⟩ ⟨hq.1, hq.2.1, (hq.2.2.sift fun y hy => Or.inr (N y hy)).mono (by decide) (by decide)⟩⟩
theorem main_1_1 : Claimed_1_1 := comes_1 fun _ _ _ _ _ _ h hF => ⟨h.1, hF⟩
theorem main_1_2 : Claimed_1_2 := comes_1 fun _ _ _ _ _ _ h hF => ⟨h.2.1, hF⟩
end Jvm.Pilot.@@N@@
namespace Jvm.Pilot.@@N@@
open Jvm Jvm.ClassFile Sem Op Lib Jvm.Free Jvm.Stand Jvm.Pilot.@@N@@.Jvm.D
/-! MADE BY PROGRAM (witnessworld.py) out of the Statement's table words and the real class files: 13 classes; the members and pool entries that the words name. The judged class is class 1, her method 1. -/
namespace start1
open Jvm.ClassFile
def u (s : String) : CpInfo := .utf8 (stringToUtf16 s)
/-- a pool by its gaps: so many unusable entries, then the entry; so many at the end -/
def gap : Nat → List CpInfo → List CpInfo
  | 0, r => r
  | n + 1, r => .unusable :: gap n r
def poolList (es : List (Nat × CpInfo)) (last : Nat) : List CpInfo := es.foldr (fun e r => gap e.1 (e.2 :: r)) (gap last [])
def pool (es : List (Nat × CpInfo)) (last : Nat) : Array CpInfo := ⟨poolList es last⟩
def fileOf (pool : Array CpInfo) (this : Nat) (attrs : Array Attribute := #[]) (ms : Array MethodInfo := #[]) (fl : Nat := 33) (sup : Nat := 0) (ifs : Array Nat := #[]) (fds : Array FieldInfo := #[]) : ClassFile where
  minorVersion := 0
  majorVersion := 65
  constantPool := pool
  accessFlags := fl
  thisClass := this
  superClass := sup
  interfaces := ifs
  fields := fds
  methods := ms
  attributes := attrs
def plain (name : String) (sup : Option ClassId) : Class where
  name := name
  kind := .ordinary
  loader := none
  accessFlags := 33
  super := sup
  interfaces := #[]
  cf := none
  fields := #[]
  methods := #[]
  instanceTypes := #[]
  staticTypes := #[]
  resolved := #[]
  callSites := []
  init := .initialized
  statics := none
  mirror := none

def pool0 : Array CpInfo := pool [(5, u "<init>"), (0, u "()V"), (1, .class_ 10), (1, u "java/lang/Object")] 113

def k0m0 : Method := { name := "<init>", desc := "()V", sig := { parameters := [], returnType := none }, accessFlags := 1, code := none }
/-- java/lang/Object -/
def k0 : Class := { plain "java/lang/Object" none with
  accessFlags := 33
  interfaces := #[]
  cf := some (fileOf pool0 8 #[] #[{ accessFlags := 1, nameIndex := 5, descriptorIndex := 6, attributes := #[] }] 33 0 #[] #[])
  fields := #[]
  methods := #[k0m0]
  instanceTypes := #[]
  staticTypes := #[]
  resolved := Array.replicate 124 none
  statics := none }

def pool1 : Array CpInfo := pool [(2, .class_ 4), (1, u "java/lang/Object"), (0, u "<init>"), (0, u "()V"), (0, .methodref 8 9), (0, .class_ 10), (0, .nameAndType 11 12), (0, u "com/example/jadoube/jadoube/Castling"), (0, u "forLetter"), (0, u "(C)Lcom/example/jadoube/jadoube/Castling;"), (0, .methodref 14 15), (0, .class_ 16), (0, .nameAndType 17 12), (0, u "com/example/jadoube/jadoube/CastlingForLetterPinLaw"), (0, u "expected"), (0, .fieldref 8 19), (0, .nameAndType 20 21), (0, u "WHITE_KING_SIDE"), (0, u "Lcom/example/jadoube/jadoube/Castling;"), (0, .fieldref 8 23), (0, .nameAndType 24 21), (0, u "WHITE_QUEEN_SIDE"), (0, .fieldref 8 26), (0, .nameAndType 27 21), (0, u "BLACK_KING_SIDE"), (0, .fieldref 8 29), (0, .nameAndType 30 21), (0, u "BLACK_QUEEN_SIDE"), (2, u "law"), (0, u "(II)Z")] 3

def k1m0 : Method := { name := "<init>", desc := "()V", sig := { parameters := [], returnType := none }, accessFlags := 1, code := none }
def k1c1 : Code := { maxStack := 2, maxLocals := 6, code := code, exceptionTable := #[], attributes := #[] }
def k1m1 : Method := { name := "law", desc := "(II)Z", sig := { parameters := [.int, .int], returnType := some .boolean }, accessFlags := 9, code := some k1c1 }
def k1c2 : Code := { maxStack := 2, maxLocals := 1, code := method_3_code, exceptionTable := #[], attributes := #[] }
def k1m2 : Method := { name := "expected", desc := "(C)Lcom/example/jadoube/jadoube/Castling;", sig := { parameters := [.char], returnType := some (.object "com/example/jadoube/jadoube/Castling") }, accessFlags := 10, code := some k1c2 }
/-- com/example/jadoube/jadoube/CastlingForLetterPinLaw -/
def k1 : Class := { plain "com/example/jadoube/jadoube/CastlingForLetterPinLaw" (some 0) with
  accessFlags := 49
  interfaces := #[]
  cf := some (fileOf pool1 14 #[] #[{ accessFlags := 1, nameIndex := 5, descriptorIndex := 6, attributes := #[] }, { accessFlags := 9, nameIndex := 33, descriptorIndex := 34, attributes := #[] }, { accessFlags := 10, nameIndex := 17, descriptorIndex := 12, attributes := #[] }] 49 2 #[] #[])
  fields := #[]
  methods := #[k1m0, k1m1, k1m2]
  instanceTypes := #[]
  staticTypes := #[]
  resolved := Array.replicate 38 none
  statics := none }

def pool2 : Array CpInfo := pool [(1, .class_ 2), (0, u "java/lang/constant/Constable"), (0, .class_ 4), (0, u "java/lang/Object")] 6

/-- java/lang/constant/Constable -/
def k2 : Class := { plain "java/lang/constant/Constable" (some 0) with
  accessFlags := 1537
  interfaces := #[]
  cf := some (fileOf pool2 1 #[] #[] 1537 3 #[] #[])
  fields := #[]
  methods := #[]
  instanceTypes := #[]
  staticTypes := #[]
  resolved := Array.replicate 11 none
  statics := none }

def pool3 : Array CpInfo := pool [(1, .class_ 2), (0, u "java/lang/Comparable"), (0, .class_ 4), (0, u "java/lang/Object")] 7

/-- java/lang/Comparable -/
def k3 : Class := { plain "java/lang/Comparable" (some 0) with
  accessFlags := 1537
  interfaces := #[]
  cf := some (fileOf pool3 1 #[] #[] 1537 3 #[] #[])
  fields := #[]
  methods := #[]
  instanceTypes := #[]
  staticTypes := #[]
  resolved := Array.replicate 12 none
  statics := none }

def pool4 : Array CpInfo := pool [(1, .class_ 2), (0, u "java/io/Serializable"), (0, .class_ 4), (0, u "java/lang/Object")] 2

/-- java/io/Serializable -/
def k4 : Class := { plain "java/io/Serializable" (some 0) with
  accessFlags := 1537
  interfaces := #[]
  cf := some (fileOf pool4 1 #[] #[] 1537 3 #[] #[])
  fields := #[]
  methods := #[]
  instanceTypes := #[]
  staticTypes := #[]
  resolved := Array.replicate 7 none
  statics := none }

def pool5 : Array CpInfo := pool [(2, .class_ 4), (1, u "java/lang/Enum"), (0, u "name"), (0, u "Ljava/lang/String;"), (2, u "ordinal"), (0, u "I"), (1, .class_ 14), (1, u "java/lang/Object"), (4, u "hash"), (86, .class_ 108), (1, u "java/lang/Enum$EnumDesc"), (2, .class_ 112), (0, u "java/lang/constant/Constable"), (0, .class_ 114), (0, u "java/lang/Comparable"), (0, .class_ 116), (0, u "java/io/Serializable")] 87

/-- java/lang/Enum -/
def k5 : Class := { plain "java/lang/Enum" (some 0) with
  accessFlags := 1057
  interfaces := #[2, 3, 4]
  cf := some (fileOf pool5 2 #[.nestMembers #[106]] #[] 1057 12 #[111, 113, 115] #[{ accessFlags := 18, nameIndex := 5, descriptorIndex := 6, attributes := #[] }, { accessFlags := 18, nameIndex := 9, descriptorIndex := 10, attributes := #[] }, { accessFlags := 2, nameIndex := 19, descriptorIndex := 10, attributes := #[] }])
  fields := #[{ name := "name", type := (.object "java/lang/String"), accessFlags := 18, slot := 0, constantValue := 0 }, { name := "ordinal", type := .int, accessFlags := 18, slot := 1, constantValue := 0 }, { name := "hash", type := .int, accessFlags := 2, slot := 2, constantValue := 0 }]
  methods := #[]
  instanceTypes := #[(.object "java/lang/String"), .int, .int]
  staticTypes := #[]
  resolved := Array.replicate 204 none
  statics := none }

def pool6 : Array CpInfo := pool [(1, .class_ 2), (0, u "com/example/jadoube/jadoube/Castling"), (2, u "WHITE_KING_SIDE"), (0, u "Lcom/example/jadoube/jadoube/Castling;"), (2, u "WHITE_QUEEN_SIDE"), (2, u "BLACK_KING_SIDE"), (2, u "BLACK_QUEEN_SIDE"), (2, u "$VALUES"), (0, u "[Lcom/example/jadoube/jadoube/Castling;"), (6, .class_ 28), (1, u "java/lang/Enum"), (6, .fieldref 1 36), (0, .nameAndType 37 38), (0, u "letter"), (0, u "C"), (2, u "san"), (0, u "Ljava/lang/String;"), (10, u "colour"), (0, u "I"), (8, u "kingSide"), (0, u "Z"), (5, u "standardKingFrom"), (2, u "standardRookFrom"), (2, u "kingTo"), (2, u "rookTo"), (3, u "right"), (0, .fieldref 1 85), (0, .nameAndType 86 19), (0, u "CASTLINGS"), (85, u "forLetter"), (0, u "(C)Lcom/example/jadoube/jadoube/Castling;")] 10

def k6c0 : Code := { maxStack := 2, maxLocals := 5, code := prog_5_method_4_code, exceptionTable := #[], attributes := #[] }
def k6m0 : Method := { name := "forLetter", desc := "(C)Lcom/example/jadoube/jadoube/Castling;", sig := { parameters := [.char], returnType := some (.object "com/example/jadoube/jadoube/Castling") }, accessFlags := 8, code := some k6c0 }
/-- com/example/jadoube/jadoube/Castling -/
def k6 : Class := { plain "com/example/jadoube/jadoube/Castling" (some 5) with
  accessFlags := 16432
  interfaces := #[]
  cf := some (fileOf pool6 1 #[] #[{ accessFlags := 8, nameIndex := 172, descriptorIndex := 173, attributes := #[] }] 16432 26 #[] #[{ accessFlags := 16409, nameIndex := 5, descriptorIndex := 6, attributes := #[] }, { accessFlags := 16409, nameIndex := 9, descriptorIndex := 6, attributes := #[] }, { accessFlags := 16409, nameIndex := 12, descriptorIndex := 6, attributes := #[] }, { accessFlags := 16409, nameIndex := 15, descriptorIndex := 6, attributes := #[] }, { accessFlags := 26, nameIndex := 86, descriptorIndex := 19, attributes := #[] }, { accessFlags := 16, nameIndex := 37, descriptorIndex := 38, attributes := #[] }, { accessFlags := 16, nameIndex := 41, descriptorIndex := 42, attributes := #[] }, { accessFlags := 16, nameIndex := 53, descriptorIndex := 54, attributes := #[] }, { accessFlags := 16, nameIndex := 63, descriptorIndex := 64, attributes := #[] }, { accessFlags := 16, nameIndex := 70, descriptorIndex := 54, attributes := #[] }, { accessFlags := 16, nameIndex := 73, descriptorIndex := 54, attributes := #[] }, { accessFlags := 16, nameIndex := 76, descriptorIndex := 54, attributes := #[] }, { accessFlags := 16, nameIndex := 79, descriptorIndex := 54, attributes := #[] }, { accessFlags := 16, nameIndex := 83, descriptorIndex := 54, attributes := #[] }, { accessFlags := 4122, nameIndex := 18, descriptorIndex := 19, attributes := #[] }])
  fields := #[{ name := "WHITE_KING_SIDE", type := (.object "com/example/jadoube/jadoube/Castling"), accessFlags := 16409, slot := 0, constantValue := 0 }, { name := "WHITE_QUEEN_SIDE", type := (.object "com/example/jadoube/jadoube/Castling"), accessFlags := 16409, slot := 1, constantValue := 0 }, { name := "BLACK_KING_SIDE", type := (.object "com/example/jadoube/jadoube/Castling"), accessFlags := 16409, slot := 2, constantValue := 0 }, { name := "BLACK_QUEEN_SIDE", type := (.object "com/example/jadoube/jadoube/Castling"), accessFlags := 16409, slot := 3, constantValue := 0 }, { name := "CASTLINGS", type := (.array (.object "com/example/jadoube/jadoube/Castling")), accessFlags := 26, slot := 4, constantValue := 0 }, { name := "letter", type := .char, accessFlags := 16, slot := 3, constantValue := 0 }, { name := "san", type := (.object "java/lang/String"), accessFlags := 16, slot := 4, constantValue := 0 }, { name := "colour", type := .int, accessFlags := 16, slot := 5, constantValue := 0 }, { name := "kingSide", type := .boolean, accessFlags := 16, slot := 6, constantValue := 0 }, { name := "standardKingFrom", type := .int, accessFlags := 16, slot := 7, constantValue := 0 }, { name := "standardRookFrom", type := .int, accessFlags := 16, slot := 8, constantValue := 0 }, { name := "kingTo", type := .int, accessFlags := 16, slot := 9, constantValue := 0 }, { name := "rookTo", type := .int, accessFlags := 16, slot := 10, constantValue := 0 }, { name := "right", type := .int, accessFlags := 16, slot := 11, constantValue := 0 }, { name := "$VALUES", type := (.array (.object "com/example/jadoube/jadoube/Castling")), accessFlags := 4122, slot := 5, constantValue := 0 }]
  methods := #[k6m0]
  instanceTypes := #[(.object "java/lang/String"), .int, .int, .char, (.object "java/lang/String"), .int, .boolean, .int, .int, .int, .int, .int]
  staticTypes := #[(.object "com/example/jadoube/jadoube/Castling"), (.object "com/example/jadoube/jadoube/Castling"), (.object "com/example/jadoube/jadoube/Castling"), (.object "com/example/jadoube/jadoube/Castling"), (.array (.object "com/example/jadoube/jadoube/Castling")), (.array (.object "com/example/jadoube/jadoube/Castling"))]
  resolved := Array.replicate 184 none
  statics := some 0 }

def pool7 : Array CpInfo := pool [(1, u "java/lang/Cloneable"), (0, .class_ 1), (0, u "java/lang/Object"), (0, .class_ 3)] 3

/-- java/lang/Cloneable -/
def k7 : Class := { plain "java/lang/Cloneable" (some 0) with
  accessFlags := 1537
  interfaces := #[]
  cf := some (fileOf pool7 2 #[] #[] 1537 4 #[] #[])
  fields := #[]
  methods := #[]
  instanceTypes := #[]
  staticTypes := #[]
  resolved := Array.replicate 8 none
  statics := none }

/-- the primitive byte -/
def k8 : Class := { plain "byte" none with kind := .primitive 'B', accessFlags := 0x411 }
/-- [B -/
def k9 : Class := { plain "[B" (some 0) with kind := .array 8 .byte, interfaces := #[7, 4], accessFlags := 1041 }

/-- the primitive int -/
def k10 : Class := { plain "int" none with kind := .primitive 'I', accessFlags := 0x411 }
/-- [I -/
def k11 : Class := { plain "[I" (some 0) with kind := .array 10 .int, interfaces := #[7, 4], accessFlags := 1041 }

/-- [Lcom/example/jadoube/jadoube/Castling; -/
def k12 : Class := { plain "[Lcom/example/jadoube/jadoube/Castling;" (some 0) with kind := .array 6 (.object "com/example/jadoube/jadoube/Castling"), interfaces := #[7, 4], accessFlags := 1041 }

def heap : Heap := #[{ cls := 6, slots := #[.ref 2, .ref 3, .ref 4, .ref 5, .ref 1, .null], vm := .statics 6 },
  { cls := 12, slots := #[.ref 2, .ref 3, .ref 4, .ref 5], vm := .none },
  { cls := 6, slots := #[.null, .int 0, .int 0, .int 75, .null, .int 0, .int 0, .int 0, .int 0, .int 0, .int 0, .int 0], vm := .none },
  { cls := 6, slots := #[.null, .int 1, .int 0, .int 81, .null, .int 0, .int 0, .int 0, .int 0, .int 0, .int 0, .int 0], vm := .none },
  { cls := 6, slots := #[.null, .int 2, .int 0, .int 107, .null, .int 0, .int 0, .int 0, .int 0, .int 0, .int 0, .int 0], vm := .none },
  { cls := 6, slots := #[.null, .int 3, .int 0, .int 113, .null, .int 0, .int 0, .int 0, .int 0, .int 0, .int 0, .int 0], vm := .none }]
def classes : Array Class := #[k0, k1, k2, k3, k4, k5, k6, k7, k8, k9, k10, k11, k12]
def interned : List (Array UInt16 × Addr) := []
def slotsUsed : Nat := 58
def theMethod : MethodId := ⟨1, 1⟩
def args0 : Array Value := #[.int 4, .int 75]
def aboutOver (below : List Frame) : State where
  vm := { classes := classes, interned := interned.toArray }
  heap := heap
  slotsUsed := slotsUsed
  threads := #[{ frames := .invoking theMethod args0 :: below }]
def below0 : List Frame := [.native { method := ⟨0, 0⟩, args := #[] }]
def about1 : State := aboutOver below0
def p0 : Program := .bare "" "" ""
def e0 : Env := launch0.env 0 0 0
theorem w_frames : about1.frames = Frame.invoking theMethod args0 :: below0 := rfl
set_option maxRecDepth 65536 in
theorem w_args : argsFit about1.vm theMethod args0 = true := by decide +kernel
set_option maxRecDepth 65536 in
theorem w_heap : heapFits about1 = true := by decide +kernel
set_option maxRecDepth 65536 in
theorem w_runnable : about1.curStatus? = some .runnable := by decide +kernel
set_option maxRecDepth 65536 in
theorem w_alone : about1.alone = true := by decide +kernel
set_option maxRecDepth 65536 in
theorem w_named : about1.methodNamed? x = some theMethod := by decide +kernel
set_option maxRecDepth 65536 in
theorem w_hears : about1.hears theMethod below0 = true := by decide +kernel
set_option maxRecDepth 65536 in
theorem w_ripe : about1.ripe theMethod args0 below0 = true := by decide +kernel
theorem w_running : about1.status = .running := rfl
set_option maxRecDepth 65536 in
theorem w_room : about1.hasRoom e0.platform room_1 = true :=
  launch0.hasRoom_least _ room_1 (by decide +kernel) (by decide +kernel) (by decide +kernel) (by decide +kernel) (by decide +kernel) (by decide +kernel)
theorem allAtoms_all (ts : List Jvm.Cond) (a : Array Jvm.Value) (st : Jvm.State) : (allAtoms ts).before a st = ts.all (fun c => c.before a st) := by
  induction ts with
  | nil => rfl
  | cons c t ih =>
    show (Jvm.Cond.and c (allAtoms t)).before a st = _
    rw [Jvm.Cond.before_and, ih, List.all_cons]
def words1 : List Jvm.Cond := Jvm.Cond.code x code maxLocals ret :: tables_1
/-- a 'code' word, met by the world's own term for the bytes: nothing is compared byte by byte -/
theorem code_word {y : MethodName} {bytes : ByteArray} {mx : Nat} {rt : Option FieldType} {a : Array Value} {s : State} {m : MethodId} {meth : Method} {c : Code} (h1 : s.methodNamed? y = some m) (h2 : s.vm.method? m = some meth) (h3 : meth.code = some c) (h4 : c.code = bytes)
    (h5 : (c.maxLocals == mx && c.exceptionTable.isEmpty && decide (c.maxStack ≤ mostOperands) && decide (meth.sig.returnType = rt) && !meth.locks && decide (parseMethodDescriptor y.desc = some meth.sig)) = true) : (Jvm.Cond.code y bytes mx rt).before a s = true := by
  simp only [Bool.and_eq_true, beq_iff_eq, Bool.not_eq_true', decide_eq_true_eq] at h5
  obtain ⟨⟨⟨⟨⟨g1, g2⟩, g3⟩, g4⟩, g5⟩, g6⟩ := h5
  simp [Cond.before, Cond.holds, Cond.value, h1, h2, h3, h4, g1, g2, g3, g4, g5, g6]
def isCode : Jvm.Cond → Bool
  | .code _ _ _ _ => true
  | _ => false
theorem all_split {L : List Jvm.Cond} {P : Jvm.Cond → Bool} (h1 : L.all (fun c => isCode c || P c) = true) (h2 : ∀ c ∈ L.filter isCode, P c = true) : L.all P = true := by
  refine List.all_eq_true.mpr fun c hc => ?_
  have h := List.all_eq_true.mp h1 c hc
  rcases Bool.eq_false_or_eq_true (isCode c) with hi | hi
  · exact h2 c (List.mem_filter.mpr ⟨hc, hi⟩)
  · simpa [hi] using h
set_option maxRecDepth 65536 in
theorem w_c0 : (Jvm.Cond.code x code maxLocals ret).before args0 about1 = true := code_word (m := ⟨1, 1⟩) (meth := k1m1) (c := k1c1) (by decide +kernel) rfl rfl rfl (by decide +kernel)
set_option maxRecDepth 65536 in
theorem w_c1 : (Jvm.Cond.code ({ cls := "com/example/jadoube/jadoube/Castling", name := "forLetter", desc := "(C)Lcom/example/jadoube/jadoube/Castling;" } : Jvm.MethodName) prog_5_method_4_code (5 : Nat) (Option.some (Jvm.ClassFile.FieldType.object "com/example/jadoube/jadoube/Castling"))).before args0 about1 = true := code_word (m := ⟨6, 0⟩) (meth := k6m0) (c := k6c0) (by decide +kernel) rfl rfl rfl (by decide +kernel)
set_option maxRecDepth 65536 in
theorem w_c2 : (Jvm.Cond.code ({ cls := "com/example/jadoube/jadoube/CastlingForLetterPinLaw", name := "expected", desc := "(C)Lcom/example/jadoube/jadoube/Castling;" } : Jvm.MethodName) method_3_code (1 : Nat) (Option.some (Jvm.ClassFile.FieldType.object "com/example/jadoube/jadoube/Castling"))).before args0 about1 = true := code_word (m := ⟨1, 2⟩) (meth := k1m2) (c := k1c2) (by decide +kernel) rfl rfl rfl (by decide +kernel)
def codes1 : List Jvm.Cond := [Jvm.Cond.code x code maxLocals ret, Jvm.Cond.code ({ cls := "com/example/jadoube/jadoube/Castling", name := "forLetter", desc := "(C)Lcom/example/jadoube/jadoube/Castling;" } : Jvm.MethodName) prog_5_method_4_code (5 : Nat) (Option.some (Jvm.ClassFile.FieldType.object "com/example/jadoube/jadoube/Castling")), Jvm.Cond.code ({ cls := "com/example/jadoube/jadoube/CastlingForLetterPinLaw", name := "expected", desc := "(C)Lcom/example/jadoube/jadoube/Castling;" } : Jvm.MethodName) method_3_code (1 : Nat) (Option.some (Jvm.ClassFile.FieldType.object "com/example/jadoube/jadoube/Castling"))]
set_option maxRecDepth 65536 in
theorem codes_eq : words1.filter isCode = codes1 := rfl
theorem w_codes : ∀ c ∈ words1.filter isCode, c.before args0 about1 = true := by
  rw [codes_eq]
  intro c hc
  simp only [codes1, List.mem_cons, List.not_mem_nil, or_false] at hc
  rcases hc with rfl | rfl | rfl
  · exact w_c0
  · exact w_c1
  · exact w_c2
set_option maxRecDepth 65536 in
theorem w_t1 : words1.all (fun c => isCode c || c.before args0 about1) = true := by decide +kernel
theorem w_tables : (allAtoms (Jvm.Cond.code x code maxLocals ret :: tables_1)).before args0 about1 = true := by
  rw [allAtoms_all]
  show words1.all (fun c => c.before args0 about1) = true
  refine all_split ?_ w_codes
  rw [w_t1]
set_option maxRecDepth 65536 in
theorem w_case : (Jvm.Cond.and given_1 narrow_1).before args0 about1 = true := by decide +kernel
theorem w_applies : (headSpec (Jvm.Cond.code x code maxLocals ret :: tables_1) room_1).applies x e0.platform about1 = true :=
  (Spec.applies_iff w_frames).mpr ⟨w_running, w_runnable, w_alone, w_named, w_hears, w_ripe, w_room, w_tables⟩
theorem atStart : AtStart classFile x code maxLocals ret World_1 tables_1 room_1 Calls_1 rest_1 Pre_1 launch0 p0 e0 about1 theMethod args0 below0 :=
  ⟨lists_1, trivial, launch0.admits_env _ _ _, launch0.least_env, fairChoices_fair.cas, fairChoices_fair.clock, w_frames, w_args, w_heap, w_applies, trivial, trivial, w_case⟩
end start1
theorem witness_1 : WitnessClaimed_1 := ⟨start1.p0, start1.e0, start1.about1, start1.theMethod, start1.args0, start1.below0, start1.atStart⟩
end Jvm.Pilot.@@N@@
