import JvmDerived
import JvmDerived.Pilot.@@N@@Statement
import JvmDerived.Pilot.@@N@@Code
set_option linter.unusedVariables false
set_option linter.unusedSimpArgs false
@@BLOCK:NumsL.lean.txt@@
namespace Jvm.RoadKit
open Sem ClassFile Op Lib Jvm.Stand Jvm.Free Jvm.LawKit
section OwnKit
variable {p : Program} {l : Launch} {e : Env} {R : Room} {s : State} {m : MethodId} {args : Array Value} {below : List Frame} {meth : Method} {c : Code} {Z : State} {y : MethodName} {bytes : ByteArray} {ml : Nat} {ret : Option FieldType} {n0 : Nat} {T : State} {h : Heap} {cells slots : Nat} {E : State → Prop} {pc : Nat} {Ls : Array Slot} {st rest : List Value} {a0 : Array Value}
/-- from here the run comes to an end of which E holds -/
def Go (p : Program) (e : Env) (below : List Frame) (E : State → Prop) (m : MethodId) (T : State) (pc : Nat) (Ls : Array Slot) (st : List Value) : Prop := ∃ u, Steps p.tables e below (T.setTop (mkF m pc Ls st)) u ∧ E u
/-- where a walk stands: the library's Stand, what was written is new, the heap, and what is known of the body -/
def SD (p : Program) (l : Launch) (e : Env) (R : Room) (s : State) (m : MethodId) (args : Array Value) (below : List Frame) (meth : Method) (c : Code) (Z : State) (y : MethodName) (bytes : ByteArray) (ml : Nat) (ret : Option FieldType) (n0 : Nat) (T : State) (h : Heap) (cells slots : Nat) : Prop :=
  (∃ locs, Stand p l e R s m args below meth c T locs cells slots ∧ Fr n0 locs) ∧ T.heap = h ∧ p.tables.exec = Jvm.exec ∧ Z.Warmed39 s.vm ∧ s.vm.findClass y.cls = some m.cls ∧ c.code = bytes ∧ c.maxLocals = ml ∧ meth.sig.returnType = ret ∧ meth.locks = false ∧ meth.name = y.name
/-- the end of a body that returns -/
def EndQ (s : State) (below : List Frame) (Q : Option Value → Heap → List Loc → Prop) (k n : Nat) (u : State) : Prop := ∃ o, u.status = .running ∧ Ended u below o ∧ ∃ v L, o = .returned v ∧ Q v u.heap L ∧ FrameEnd s o u L k n
theorem go_cut {A G : Prop} (h1 : A → G) (h2 : A) : G := h1 h2
theorem go_by {T' : State} {pc' : Nat} {Ls' : Array Slot} {st' : List Value} (k : ∀ u, Steps p.tables e below (T'.setTop (mkF m pc' Ls' st')) u → Steps p.tables e below (T.setTop (mkF m pc Ls st)) u) (g : Go p e below E m T' pc' Ls' st') : Go p e below E m T pc Ls st := by
  obtain ⟨u, h1, h2⟩ := g
  exact ⟨u, k u h1, h2⟩
theorem met_of {ws : List Cond} {rm : Room} {as : Array Value} {Q : Option Value → Heap → List Loc → Prop} {k n : Nat} (hn : plainFor y = true) (hef : ∀ m, entryFrame m as ml = mkF m 0 Ls [])
    (body : ∀ p e s m below meth c T E, E = EndQ s below Q k n → SD p l e rm s m as below meth c Z y bytes ml ret n0 T h 0 0 → Go p e below E m T 0 Ls []) :
    MetFree l y (head1 (Cond.code y bytes ml ret :: ws) rm) (fun a U => a = as ∧ Z.Warmed39 U.vm ∧ U.heap = h) (fun _ _ _ _ _ => True) (fun _ U o U' => ∃ v L, o = .returned v ∧ Q v U'.heap L ∧ FrameEnd U o U' L k n) := by
  refine MetFree.of_bodySF hn hisR ?_
  intro p e s m args below meth c s₁ Bd hml0 hP hK
  obtain ⟨rfl, hZ, hh⟩ := hP
  obtain ⟨u, h1, o, h2, h3, h4⟩ := body p e s m below meth c s₁ _ rfl ⟨⟨[], Stand.of_body Bd, Fr.nil n0⟩, by rw [← hh, Bd.state]; rfl, Bd.exec, hZ, findClass_of_methodNamed Bd.named, Bd.bytes, hml0, Bd.returns, Bd.notSynchronized, (name_of_methodNamed Bd.named Bd.method).1⟩
  exact ⟨u, o, castTop (hef m) h1, h2, h3, h4⟩
/-! ### returns -/
theorem go_end {Q : Option Value → Heap → List Loc → Prop} {kc ks : Nat} {v : Option Value} (X : SD p l e R s m args below meth c Z y bytes ml ret n0 T h cells slots) (hE : E = EndQ s below Q kc ks) (hv : meth.sig.returnType = none → v = none)
    (hstep : ∀ fs, (∀ (f : JFrame) (acts : List Action), f.method = m → f.locked = none → f.entered = [] → (doReturn e (T.setTop f) acts v).1 = T.setFrames fs) → Steps p.tables e below (T.setTop (mkF m pc Ls st)) (T.setFrames fs))
    (hQ : ∀ L, Fr n0 L → Q v h L) (hc : cells ≤ kc) (hs : slots ≤ ks) : Go p e below E m T pc Ls st := by
  subst hE
  obtain ⟨⟨locs, X, N⟩, hh, hx, hZ, hown, hby, hml, hret, hlk, hnm⟩ := X
  obtain ⟨fs, hr, hrun, hended, hW, hsame⟩ := X.leave (v := v) hv hlk
  refine ⟨_, hstep fs hr, _, hrun, hended, _, _, rfl, ?_, ⟨_, rfl⟩, hW, hsame.mono hc hs⟩
  show Q v T.heap _
  rw [hh]
  exact hQ _ N
theorem go_retI {Q : Option Value → Heap → List Loc → Prop} {kc ks : Nat} {z : Int32} (X : SD p l e R s m args below meth c Z y bytes ml (some .int) n0 T h cells slots) (hE : E = EndQ s below Q kc ks) (hd : decode bytes pc = .ok (.ireturn, 1))
    (hQ : ∀ L, Fr n0 L → Q (some (.int z)) h L) (hc : cells ≤ kc) (hs : slots ≤ ks) : Go p e below E m T pc Ls (.int z :: st) := by
  have X' := X
  obtain ⟨⟨locs, X, N⟩, hh, hx, hZ, hown, hby, hml, hret, hlk, hnm⟩ := X
  refine go_end X' hE (fun q => by rw [hret] at q; cases q) (fun fs hl => ?_) hQ hc hs
  have hm' : T.vm.method? m = some meth := X.method'
  have hn : narrow .int (.int z) = .int z := rfl
  have hd' := hb hby hd
  show Steps p.tables e below (T.setTop { method := m, pc := pc, locals := Ls, stack := _ :: st, locked := none }) _
  jvm_step X.here [X.here.top, hx, hd', hm', hret, hn]
  first | (intro acts; rw [hl _ acts rfl rfl rfl]) | rw [hl _ _ rfl rfl rfl]
  exact Steps.refl _
theorem go_retN {Q : Option Value → Heap → List Loc → Prop} {kc ks : Nat} {z : Int32} {t : FieldType} (X : SD p l e R s m args below meth c Z y bytes ml (some t) n0 T h cells slots) (hE : E = EndQ s below Q kc ks) (ht : t = .boolean ∨ t = .byte ∨ t = .char ∨ t = .short) (hd : decode bytes pc = .ok (.ireturn, 1))
    (hQ : ∀ L, Fr n0 L → Q (some (.int (nar t z))) h L) (hc : cells ≤ kc) (hs : slots ≤ ks) : Go p e below E m T pc Ls (.int z :: st) := by
  have X' := X
  obtain ⟨⟨locs, X, N⟩, hh, hx, hZ, hown, hby, hml, hret, hlk, hnm⟩ := X
  exact go_end X' hE (fun q => by rw [hret] at q; cases q) (fun fs hl => retN X hx hret ht (hb hby hd) hl) hQ hc hs
theorem go_retL {Q : Option Value → Heap → List Loc → Prop} {kc ks : Nat} {z : Int64} (X : SD p l e R s m args below meth c Z y bytes ml (some .long) n0 T h cells slots) (hE : E = EndQ s below Q kc ks) (hd : decode bytes pc = .ok (.lreturn, 1))
    (hQ : ∀ L, Fr n0 L → Q (some (.long z)) h L) (hc : cells ≤ kc) (hs : slots ≤ ks) : Go p e below E m T pc Ls (.long z :: st) := by
  have X' := X
  obtain ⟨⟨locs, X, N⟩, hh, hx, hZ, hown, hby, hml, hret, hlk, hnm⟩ := X
  exact go_end X' hE (fun q => by rw [hret] at q; cases q) (fun fs hl => retOut X hx hret rfl (Or.inr (Or.inl ⟨rfl, rfl, _, rfl⟩)) (hb hby hd) hl) hQ hc hs
theorem go_retA {Q : Option Value → Heap → List Loc → Prop} {kc ks : Nat} {w : Value} {t : FieldType} (X : SD p l e R s m args below meth c Z y bytes ml (some t) n0 T h cells slots) (hE : E = EndQ s below Q kc ks) (ht : t.isReference = true) (hw : w.isRef = true) (hd : decode bytes pc = .ok (.areturn, 1))
    (hQ : ∀ L, Fr n0 L → Q (some w) h L) (hc : cells ≤ kc) (hs : slots ≤ ks) : Go p e below E m T pc Ls (w :: st) := by
  have X' := X
  obtain ⟨⟨locs, X, N⟩, hh, hx, hZ, hown, hby, hml, hret, hlk, hnm⟩ := X
  refine go_end X' hE (fun q => by rw [hret] at q; cases q) (fun fs hl => retOut X hx hret ?_ (Or.inr (Or.inr (Or.inr (Or.inr ⟨rfl, ht, hw⟩)))) (hb hby hd) hl) hQ hc hs
  rcases ref_cases hw with rfl | ⟨a, rfl⟩ <;> (cases t <;> first | rfl | (simp [FieldType.isReference] at ht))
theorem go_retV {Q : Option Value → Heap → List Loc → Prop} {kc ks : Nat} (X : SD p l e R s m args below meth c Z y bytes ml none n0 T h cells slots) (hE : E = EndQ s below Q kc ks) (hd : decode bytes pc = .ok (.return_, 1))
    (hQ : ∀ L, Fr n0 L → Q none h L) (hc : cells ≤ kc) (hs : slots ≤ ks) : Go p e below E m T pc Ls [] := by
  have X' := X
  obtain ⟨⟨locs, X, N⟩, hh, hx, hZ, hown, hby, hml, hret, hlk, hnm⟩ := X
  exact go_end X' hE (fun _ => rfl) (fun fs hl => X.returnOut hx hret (hb hby hd) hl) hQ hc hs
/-! ### plain steps -/
theorem go_nmI {t : Int32} (k : ∀ z, z = t → Go p e below E m T pc Ls (.int z :: st)) : Go p e below E m T pc Ls (.int t :: st) := k t rfl
theorem go_nmL {t : Int64} (k : ∀ z, z = t → Go p e below E m T pc Ls (.long z :: st)) : Go p e below E m T pc Ls (.long t :: st) := k t rfl
theorem go_nmR {t : Addr} (k : ∀ z, z = t → Go p e below E m T pc Ls (.ref z :: st)) : Go p e below E m T pc Ls (.ref t :: st) := k t rfl
theorem go_eqI {t t' : Int32} (q : t = t') (k : Go p e below E m T pc Ls (.int t' :: st)) : Go p e below E m T pc Ls (.int t :: st) := q ▸ k
theorem go_eqL {t t' : Int64} (q : t = t') (k : Go p e below E m T pc Ls (.long t' :: st)) : Go p e below E m T pc Ls (.long t :: st) := q ▸ k
theorem go_iconst (X : SD p l e R s m args below meth c Z y bytes ml ret n0 T h cells slots) {i : Int} (z : Int32) (hd : decode bytes pc = .ok (.iconst i, 1)) (hz : Int32.ofInt i = z) (q : Nat) (hq : pc + 1 = q) (k : Go p e below E m T q Ls (.int z :: st)) : Go p e below E m T pc Ls st := by
  obtain ⟨⟨locs, X, N⟩, hh, hx, hZ, hown, hby, -⟩ := X
  subst hz hq
  exact go_by (fun _ r => XS.iconst X.here hx rfl (hb hby hd) r) k
theorem go_bipush (X : SD p l e R s m args below meth c Z y bytes ml ret n0 T h cells slots) {i : Int} (z : Int32) (hd : decode bytes pc = .ok (.bipush i, 2)) (hz : (Int8.ofInt i).toInt32 = z) (q : Nat) (hq : pc + 2 = q) (k : Go p e below E m T q Ls (.int z :: st)) : Go p e below E m T pc Ls st := by
  obtain ⟨⟨locs, X, N⟩, hh, hx, hZ, hown, hby, -⟩ := X
  subst hz hq
  exact go_by (fun _ r => XS.bipush X.here hx rfl (hb hby hd) r) k
theorem go_lconst (X : SD p l e R s m args below meth c Z y bytes ml ret n0 T h cells slots) {i : Fin 2} (z : Int64) (hd : decode bytes pc = .ok (.lconst i, 1)) (hz : Int64.ofNat i = z) (q : Nat) (hq : pc + 1 = q) (k : Go p e below E m T q Ls (.long z :: st)) : Go p e below E m T pc Ls st := by
  obtain ⟨⟨locs, X, N⟩, hh, hx, hZ, hown, hby, -⟩ := X
  subst hz hq
  exact go_by (fun _ r => XS.lconst X.here hx rfl (hb hby hd) r) k
theorem go_null (X : SD p l e R s m args below meth c Z y bytes ml ret n0 T h cells slots) (hd : decode bytes pc = .ok (.aconst_null, 1)) (q : Nat) (hq : pc + 1 = q) (k : Go p e below E m T q Ls (.null :: st)) : Go p e below E m T pc Ls st := by
  obtain ⟨⟨locs, X, N⟩, hh, hx, hZ, hown, hby, -⟩ := X
  subst hq
  exact go_by (fun _ r => XS.aconstNull X.here hx rfl (hb hby hd) r) k
theorem go_ldc (X : SD p l e R s m args below meth c Z y bytes ml ret n0 T h cells slots) {i : Nat} {z : Int32} (w : (Cond.constant y.cls i z).before a0 Z = true) (hd : decode bytes pc = .ok (.ldc i, 2)) (q : Nat) (hq : pc + 2 = q) (k : Go p e below E m T q Ls (.int z :: st)) : Go p e below E m T pc Ls st := by
  obtain ⟨⟨locs, X, N⟩, hh, hx, hZ, hown, hby, -⟩ := X
  subst hq
  exact go_by (fun _ r => X.ldcInt hx hown (mvT hZ w) (g := mkF m pc Ls st) rfl (hb hby hd) _ r) k
theorem go_ldc2 (X : SD p l e R s m args below meth c Z y bytes ml ret n0 T h cells slots) {i : Nat} {z : Int64} (w : (Cond.constantLong y.cls i z).before a0 Z = true) (hd : decode bytes pc = .ok (.ldc2_w i, 3)) (q : Nat) (hq : pc + 3 = q) (k : Go p e below E m T q Ls (.long z :: st)) : Go p e below E m T pc Ls st := by
  obtain ⟨⟨locs, X, N⟩, hh, hx, hZ, hown, hby, -⟩ := X
  subst hq
  exact go_by (fun _ r => X.ldc2Long hx hown (mvT hZ w) (g := mkF m pc Ls st) rfl (hb hby hd) _ r) k
theorem go_iloadN (X : SD p l e R s m args below meth c Z y bytes ml ret n0 T h cells slots) {i : Fin 4} {v : Int32} (hd : decode bytes pc = .ok (.iload_n i, 1)) (hl : Ls[i.val]? = some (.val (.int v))) (q : Nat) (hq : pc + 1 = q) (k : Go p e below E m T q Ls (.int v :: st)) : Go p e below E m T pc Ls st := by
  obtain ⟨⟨locs, X, N⟩, hh, hx, hZ, hown, hby, -⟩ := X
  subst hq
  exact go_by (fun _ r => XS.iloadN X.here hx rfl (hb hby hd) hl r) k
theorem go_iload (X : SD p l e R s m args below meth c Z y bytes ml ret n0 T h cells slots) {i : Nat} {v : Int32} (hd : decode bytes pc = .ok (.iload i, 2)) (hl : Ls[i]? = some (.val (.int v))) (q : Nat) (hq : pc + 2 = q) (k : Go p e below E m T q Ls (.int v :: st)) : Go p e below E m T pc Ls st := by
  obtain ⟨⟨locs, X, N⟩, hh, hx, hZ, hown, hby, -⟩ := X
  subst hq
  exact go_by (fun _ r => XS.iload X.here hx rfl (hb hby hd) hl r) k
theorem go_lloadN (X : SD p l e R s m args below meth c Z y bytes ml ret n0 T h cells slots) {i : Fin 4} {v : Int64} (hd : decode bytes pc = .ok (.lload_n i, 1)) (hl : Ls[i.val]? = some (.val (.long v))) (q : Nat) (hq : pc + 1 = q) (k : Go p e below E m T q Ls (.long v :: st)) : Go p e below E m T pc Ls st := by
  obtain ⟨⟨locs, X, N⟩, hh, hx, hZ, hown, hby, -⟩ := X
  subst hq
  exact go_by (fun _ r => XS.lloadN X.here hx rfl (hb hby hd) hl r) k
theorem go_lload (X : SD p l e R s m args below meth c Z y bytes ml ret n0 T h cells slots) {i : Nat} {v : Int64} (hd : decode bytes pc = .ok (.lload i, 2)) (hl : Ls[i]? = some (.val (.long v))) (q : Nat) (hq : pc + 2 = q) (k : Go p e below E m T q Ls (.long v :: st)) : Go p e below E m T pc Ls st := by
  obtain ⟨⟨locs, X, N⟩, hh, hx, hZ, hown, hby, -⟩ := X
  subst hq
  exact go_by (fun _ r => XS.lload X.here hx rfl (hb hby hd) hl r) k
theorem go_aloadN (X : SD p l e R s m args below meth c Z y bytes ml ret n0 T h cells slots) {i : Fin 4} {v : Value} (hd : decode bytes pc = .ok (.aload_n i, 1)) (hl : Ls[i.val]? = some (.val v)) (hv : v.isRef = true) (q : Nat) (hq : pc + 1 = q) (k : Go p e below E m T q Ls (v :: st)) : Go p e below E m T pc Ls st := by
  obtain ⟨⟨locs, X, N⟩, hh, hx, hZ, hown, hby, -⟩ := X
  subst hq
  exact go_by (fun _ r => XS.aloadN X.here hx rfl (hb hby hd) hl hv r) k
theorem go_aload (X : SD p l e R s m args below meth c Z y bytes ml ret n0 T h cells slots) {i : Nat} {v : Value} (hd : decode bytes pc = .ok (.aload i, 2)) (hl : Ls[i]? = some (.val v)) (hv : v.isRef = true) (q : Nat) (hq : pc + 2 = q) (k : Go p e below E m T q Ls (v :: st)) : Go p e below E m T pc Ls st := by
  obtain ⟨⟨locs, X, N⟩, hh, hx, hZ, hown, hby, -⟩ := X
  subst hq
  exact go_by (fun _ r => XS.aload X.here hx rfl (hb hby hd) hl hv r) k
theorem go_istoreN (X : SD p l e R s m args below meth c Z y bytes ml ret n0 T h cells slots) {i : Fin 4} {v : Int32} (l' : Array Slot) (hd : decode bytes pc = .ok (.istore_n i, 1)) (hl : storeLocals Ls i.val (.int v) = some l') (q : Nat) (hq : pc + 1 = q) (k : Go p e below E m T q l' st) : Go p e below E m T pc Ls (.int v :: st) := by
  obtain ⟨⟨locs, X, N⟩, hh, hx, hZ, hown, hby, -⟩ := X
  subst hq
  exact go_by (fun _ r => XS.istoreN X.here hx rfl (hb hby hd) rfl hl r) k
theorem go_istore (X : SD p l e R s m args below meth c Z y bytes ml ret n0 T h cells slots) {i : Nat} {v : Int32} (l' : Array Slot) (hd : decode bytes pc = .ok (.istore i, 2)) (hl : storeLocals Ls i (.int v) = some l') (q : Nat) (hq : pc + 2 = q) (k : Go p e below E m T q l' st) : Go p e below E m T pc Ls (.int v :: st) := by
  obtain ⟨⟨locs, X, N⟩, hh, hx, hZ, hown, hby, -⟩ := X
  subst hq
  exact go_by (fun _ r => XS.istore X.here hx rfl (hb hby hd) rfl hl r) k
theorem go_lstoreN (X : SD p l e R s m args below meth c Z y bytes ml ret n0 T h cells slots) {i : Fin 4} {v : Int64} (l' : Array Slot) (hd : decode bytes pc = .ok (.lstore_n i, 1)) (hl : storeLocals Ls i.val (.long v) = some l') (q : Nat) (hq : pc + 1 = q) (k : Go p e below E m T q l' st) : Go p e below E m T pc Ls (.long v :: st) := by
  obtain ⟨⟨locs, X, N⟩, hh, hx, hZ, hown, hby, -⟩ := X
  subst hq
  exact go_by (fun _ r => XS.lstoreN X.here hx rfl (hb hby hd) rfl hl r) k
theorem go_lstore (X : SD p l e R s m args below meth c Z y bytes ml ret n0 T h cells slots) {i : Nat} {v : Int64} (l' : Array Slot) (hd : decode bytes pc = .ok (.lstore i, 2)) (hl : storeLocals Ls i (.long v) = some l') (q : Nat) (hq : pc + 2 = q) (k : Go p e below E m T q l' st) : Go p e below E m T pc Ls (.long v :: st) := by
  obtain ⟨⟨locs, X, N⟩, hh, hx, hZ, hown, hby, -⟩ := X
  subst hq
  exact go_by (fun _ r => XS.lstore X.here hx rfl (hb hby hd) rfl hl r) k
theorem go_astoreN (X : SD p l e R s m args below meth c Z y bytes ml ret n0 T h cells slots) {i : Fin 4} {v : Value} (l' : Array Slot) (hd : decode bytes pc = .ok (.astore_n i, 1)) (hv : v.isRef = true) (hl : storeLocals Ls i.val v = some l') (q : Nat) (hq : pc + 1 = q) (k : Go p e below E m T q l' st) : Go p e below E m T pc Ls (v :: st) := by
  obtain ⟨⟨locs, X, N⟩, hh, hx, hZ, hown, hby, -⟩ := X
  subst hq
  exact go_by (fun _ r => XS.astoreN X.here hx rfl (hb hby hd) rfl hv hl r) k
theorem go_astore (X : SD p l e R s m args below meth c Z y bytes ml ret n0 T h cells slots) {i : Nat} {v : Value} (l' : Array Slot) (hd : decode bytes pc = .ok (.astore i, 2)) (hv : v.isRef = true) (hl : storeLocals Ls i v = some l') (q : Nat) (hq : pc + 2 = q) (k : Go p e below E m T q l' st) : Go p e below E m T pc Ls (v :: st) := by
  obtain ⟨⟨locs, X, N⟩, hh, hx, hZ, hown, hby, -⟩ := X
  subst hq
  exact go_by (fun _ r => XS.astore X.here hx rfl (hb hby hd) rfl hv hl r) k
theorem go_iadd (X : SD p l e R s m args below meth c Z y bytes ml ret n0 T h cells slots) {a : Int32} {b : Int32} (hd : decode bytes pc = .ok (.iadd, 1)) (q : Nat) (hq : pc + 1 = q) (k : Go p e below E m T q Ls (.int (a + b) :: st)) : Go p e below E m T pc Ls (.int b :: .int a :: st) := by
  obtain ⟨⟨locs, X, N⟩, hh, hx, hZ, hown, hby, -⟩ := X
  subst hq
  exact go_by (fun _ r => XS.iadd X.here hx rfl (hb hby hd) rfl r) k
theorem go_isub (X : SD p l e R s m args below meth c Z y bytes ml ret n0 T h cells slots) {a : Int32} {b : Int32} (hd : decode bytes pc = .ok (.isub, 1)) (q : Nat) (hq : pc + 1 = q) (k : Go p e below E m T q Ls (.int (a - b) :: st)) : Go p e below E m T pc Ls (.int b :: .int a :: st) := by
  obtain ⟨⟨locs, X, N⟩, hh, hx, hZ, hown, hby, -⟩ := X
  subst hq
  exact go_by (fun _ r => XS.isub X.here hx rfl (hb hby hd) rfl r) k
theorem go_imul (X : SD p l e R s m args below meth c Z y bytes ml ret n0 T h cells slots) {a : Int32} {b : Int32} (hd : decode bytes pc = .ok (.imul, 1)) (q : Nat) (hq : pc + 1 = q) (k : Go p e below E m T q Ls (.int (a * b) :: st)) : Go p e below E m T pc Ls (.int b :: .int a :: st) := by
  obtain ⟨⟨locs, X, N⟩, hh, hx, hZ, hown, hby, -⟩ := X
  subst hq
  exact go_by (fun _ r => XS.imul X.here hx rfl (hb hby hd) rfl r) k
theorem go_iand (X : SD p l e R s m args below meth c Z y bytes ml ret n0 T h cells slots) {a : Int32} {b : Int32} (hd : decode bytes pc = .ok (.iand, 1)) (q : Nat) (hq : pc + 1 = q) (k : Go p e below E m T q Ls (.int (a &&& b) :: st)) : Go p e below E m T pc Ls (.int b :: .int a :: st) := by
  obtain ⟨⟨locs, X, N⟩, hh, hx, hZ, hown, hby, -⟩ := X
  subst hq
  exact go_by (fun _ r => XS.iand X.here hx rfl (hb hby hd) rfl r) k
theorem go_ior (X : SD p l e R s m args below meth c Z y bytes ml ret n0 T h cells slots) {a : Int32} {b : Int32} (hd : decode bytes pc = .ok (.ior, 1)) (q : Nat) (hq : pc + 1 = q) (k : Go p e below E m T q Ls (.int (a ||| b) :: st)) : Go p e below E m T pc Ls (.int b :: .int a :: st) := by
  obtain ⟨⟨locs, X, N⟩, hh, hx, hZ, hown, hby, -⟩ := X
  subst hq
  exact go_by (fun _ r => XS.ior X.here hx rfl (hb hby hd) rfl r) k
theorem go_ixor (X : SD p l e R s m args below meth c Z y bytes ml ret n0 T h cells slots) {a : Int32} {b : Int32} (hd : decode bytes pc = .ok (.ixor, 1)) (q : Nat) (hq : pc + 1 = q) (k : Go p e below E m T q Ls (.int (a ^^^ b) :: st)) : Go p e below E m T pc Ls (.int b :: .int a :: st) := by
  obtain ⟨⟨locs, X, N⟩, hh, hx, hZ, hown, hby, -⟩ := X
  subst hq
  exact go_by (fun _ r => XS.ixor X.here hx rfl (hb hby hd) rfl r) k
theorem go_ishl (X : SD p l e R s m args below meth c Z y bytes ml ret n0 T h cells slots) {a : Int32} {b : Int32} (hd : decode bytes pc = .ok (.ishl, 1)) (q : Nat) (hq : pc + 1 = q) (k : Go p e below E m T q Ls (.int (a <<< (b &&& 31)) :: st)) : Go p e below E m T pc Ls (.int b :: .int a :: st) := by
  obtain ⟨⟨locs, X, N⟩, hh, hx, hZ, hown, hby, -⟩ := X
  subst hq
  exact go_by (fun _ r => XS.ishl X.here hx rfl (hb hby hd) rfl r) k
theorem go_ishr (X : SD p l e R s m args below meth c Z y bytes ml ret n0 T h cells slots) {a : Int32} {b : Int32} (hd : decode bytes pc = .ok (.ishr, 1)) (q : Nat) (hq : pc + 1 = q) (k : Go p e below E m T q Ls (.int (a >>> (b &&& 31)) :: st)) : Go p e below E m T pc Ls (.int b :: .int a :: st) := by
  obtain ⟨⟨locs, X, N⟩, hh, hx, hZ, hown, hby, -⟩ := X
  subst hq
  exact go_by (fun _ r => XS.ishr X.here hx rfl (hb hby hd) rfl r) k
theorem go_iushr (X : SD p l e R s m args below meth c Z y bytes ml ret n0 T h cells slots) {a : Int32} {b : Int32} (hd : decode bytes pc = .ok (.iushr, 1)) (q : Nat) (hq : pc + 1 = q) (k : Go p e below E m T q Ls (.int (XT.ushr a b) :: st)) : Go p e below E m T pc Ls (.int b :: .int a :: st) := by
  obtain ⟨⟨locs, X, N⟩, hh, hx, hZ, hown, hby, -⟩ := X
  subst hq
  exact go_by (fun _ r => XT.iushr X.here hx rfl (hb hby hd) rfl r) k
theorem go_idiv (X : SD p l e R s m args below meth c Z y bytes ml ret n0 T h cells slots) {a : Int32} {b : Int32} (hd : decode bytes pc = .ok (.idiv, 1)) (hy : b ≠ 0) (q : Nat) (hq : pc + 1 = q) (k : Go p e below E m T q Ls (.int (a / b) :: st)) : Go p e below E m T pc Ls (.int b :: .int a :: st) := by
  obtain ⟨⟨locs, X, N⟩, hh, hx, hZ, hown, hby, -⟩ := X
  subst hq
  exact go_by (fun _ r => XS.idiv X.here hx rfl (hb hby hd) rfl hy r) k
theorem go_ladd (X : SD p l e R s m args below meth c Z y bytes ml ret n0 T h cells slots) {a : Int64} {b : Int64} (hd : decode bytes pc = .ok (.ladd, 1)) (q : Nat) (hq : pc + 1 = q) (k : Go p e below E m T q Ls (.long (a + b) :: st)) : Go p e below E m T pc Ls (.long b :: .long a :: st) := by
  obtain ⟨⟨locs, X, N⟩, hh, hx, hZ, hown, hby, -⟩ := X
  subst hq
  exact go_by (fun _ r => XS.ladd X.here hx rfl (hb hby hd) rfl r) k
theorem go_lsub (X : SD p l e R s m args below meth c Z y bytes ml ret n0 T h cells slots) {a : Int64} {b : Int64} (hd : decode bytes pc = .ok (.lsub, 1)) (q : Nat) (hq : pc + 1 = q) (k : Go p e below E m T q Ls (.long (a - b) :: st)) : Go p e below E m T pc Ls (.long b :: .long a :: st) := by
  obtain ⟨⟨locs, X, N⟩, hh, hx, hZ, hown, hby, -⟩ := X
  subst hq
  exact go_by (fun _ r => XS.lsub X.here hx rfl (hb hby hd) rfl r) k
theorem go_lmul (X : SD p l e R s m args below meth c Z y bytes ml ret n0 T h cells slots) {a : Int64} {b : Int64} (hd : decode bytes pc = .ok (.lmul, 1)) (q : Nat) (hq : pc + 1 = q) (k : Go p e below E m T q Ls (.long (a * b) :: st)) : Go p e below E m T pc Ls (.long b :: .long a :: st) := by
  obtain ⟨⟨locs, X, N⟩, hh, hx, hZ, hown, hby, -⟩ := X
  subst hq
  exact go_by (fun _ r => XS.lmul X.here hx rfl (hb hby hd) rfl r) k
theorem go_land (X : SD p l e R s m args below meth c Z y bytes ml ret n0 T h cells slots) {a : Int64} {b : Int64} (hd : decode bytes pc = .ok (.land, 1)) (q : Nat) (hq : pc + 1 = q) (k : Go p e below E m T q Ls (.long (a &&& b) :: st)) : Go p e below E m T pc Ls (.long b :: .long a :: st) := by
  obtain ⟨⟨locs, X, N⟩, hh, hx, hZ, hown, hby, -⟩ := X
  subst hq
  exact go_by (fun _ r => XS.land X.here hx rfl (hb hby hd) rfl r) k
theorem go_lor (X : SD p l e R s m args below meth c Z y bytes ml ret n0 T h cells slots) {a : Int64} {b : Int64} (hd : decode bytes pc = .ok (.lor, 1)) (q : Nat) (hq : pc + 1 = q) (k : Go p e below E m T q Ls (.long (a ||| b) :: st)) : Go p e below E m T pc Ls (.long b :: .long a :: st) := by
  obtain ⟨⟨locs, X, N⟩, hh, hx, hZ, hown, hby, -⟩ := X
  subst hq
  exact go_by (fun _ r => XS.lor X.here hx rfl (hb hby hd) rfl r) k
theorem go_lxor (X : SD p l e R s m args below meth c Z y bytes ml ret n0 T h cells slots) {a : Int64} {b : Int64} (hd : decode bytes pc = .ok (.lxor, 1)) (q : Nat) (hq : pc + 1 = q) (k : Go p e below E m T q Ls (.long (a ^^^ b) :: st)) : Go p e below E m T pc Ls (.long b :: .long a :: st) := by
  obtain ⟨⟨locs, X, N⟩, hh, hx, hZ, hown, hby, -⟩ := X
  subst hq
  exact go_by (fun _ r => XS.lxor X.here hx rfl (hb hby hd) rfl r) k
theorem go_lshl (X : SD p l e R s m args below meth c Z y bytes ml ret n0 T h cells slots) {a : Int64} {b : Int32} (hd : decode bytes pc = .ok (.lshl, 1)) (q : Nat) (hq : pc + 1 = q) (k : Go p e below E m T q Ls (.long (a <<< (b.toInt64 &&& 63)) :: st)) : Go p e below E m T pc Ls (.int b :: .long a :: st) := by
  obtain ⟨⟨locs, X, N⟩, hh, hx, hZ, hown, hby, -⟩ := X
  subst hq
  exact go_by (fun _ r => XT.lshl X.here hx rfl (hb hby hd) rfl r) k
theorem go_lshr (X : SD p l e R s m args below meth c Z y bytes ml ret n0 T h cells slots) {a : Int64} {b : Int32} (hd : decode bytes pc = .ok (.lshr, 1)) (q : Nat) (hq : pc + 1 = q) (k : Go p e below E m T q Ls (.long (a >>> (b.toInt64 &&& 63)) :: st)) : Go p e below E m T pc Ls (.int b :: .long a :: st) := by
  obtain ⟨⟨locs, X, N⟩, hh, hx, hZ, hown, hby, -⟩ := X
  subst hq
  exact go_by (fun _ r => XT.lshr X.here hx rfl (hb hby hd) rfl r) k
theorem go_lushr (X : SD p l e R s m args below meth c Z y bytes ml ret n0 T h cells slots) {a : Int64} {b : Int32} (hd : decode bytes pc = .ok (.lushr, 1)) (q : Nat) (hq : pc + 1 = q) (k : Go p e below E m T q Ls (.long (XT.ushrL a b) :: st)) : Go p e below E m T pc Ls (.int b :: .long a :: st) := by
  obtain ⟨⟨locs, X, N⟩, hh, hx, hZ, hown, hby, -⟩ := X
  subst hq
  exact go_by (fun _ r => XT.lushr X.here hx rfl (hb hby hd) rfl r) k
theorem go_ldiv (X : SD p l e R s m args below meth c Z y bytes ml ret n0 T h cells slots) {a : Int64} {b : Int64} (hd : decode bytes pc = .ok (.ldiv, 1)) (hy : b ≠ 0) (q : Nat) (hq : pc + 1 = q) (k : Go p e below E m T q Ls (.long (a / b) :: st)) : Go p e below E m T pc Ls (.long b :: .long a :: st) := by
  obtain ⟨⟨locs, X, N⟩, hh, hx, hZ, hown, hby, -⟩ := X
  subst hq
  exact go_by (fun _ r => XS.ldiv X.here hx rfl (hb hby hd) rfl hy r) k
theorem go_irem (X : SD p l e R s m args below meth c Z y bytes ml ret n0 T h cells slots) {a b : Int32} (hd : decode bytes pc = .ok (.irem, 1)) (hy : b ≠ 0) (q : Nat) (hq : pc + 1 = q) (k : Go p e below E m T q Ls (.int (a % b) :: st)) : Go p e below E m T pc Ls (.int b :: .int a :: st) := by
  obtain ⟨⟨locs, X, N⟩, hh, hx, hZ, hown, hby, -⟩ := X
  subst hq
  exact go_by (fun _ r => iremM X hx rfl (hb hby hd) rfl hy r) k
theorem go_lrem (X : SD p l e R s m args below meth c Z y bytes ml ret n0 T h cells slots) {a b : Int64} (hd : decode bytes pc = .ok (.lrem, 1)) (hy : b ≠ 0) (q : Nat) (hq : pc + 1 = q) (k : Go p e below E m T q Ls (.long (a - (a / b) * b) :: st)) : Go p e below E m T pc Ls (.long b :: .long a :: st) := by
  obtain ⟨⟨locs, X, N⟩, hh, hx, hZ, hown, hby, -⟩ := X
  subst hq
  exact go_by (fun _ r => XS.lrem X.here hx rfl (hb hby hd) rfl hy r) k
theorem go_ineg (X : SD p l e R s m args below meth c Z y bytes ml ret n0 T h cells slots) {a : Int32} (hd : decode bytes pc = .ok (.ineg, 1)) (q : Nat) (hq : pc + 1 = q) (k : Go p e below E m T q Ls (.int (-a) :: st)) : Go p e below E m T pc Ls (.int a :: st) := by
  obtain ⟨⟨locs, X, N⟩, hh, hx, hZ, hown, hby, -⟩ := X
  subst hq
  exact go_by (fun _ r => XS.ineg X.here hx rfl (hb hby hd) rfl r) k
theorem go_lneg (X : SD p l e R s m args below meth c Z y bytes ml ret n0 T h cells slots) {a : Int64} (hd : decode bytes pc = .ok (.lneg, 1)) (q : Nat) (hq : pc + 1 = q) (k : Go p e below E m T q Ls (.long (-a) :: st)) : Go p e below E m T pc Ls (.long a :: st) := by
  obtain ⟨⟨locs, X, N⟩, hh, hx, hZ, hown, hby, -⟩ := X
  subst hq
  exact go_by (fun _ r => XS.lneg X.here hx rfl (hb hby hd) rfl r) k
theorem go_i2l (X : SD p l e R s m args below meth c Z y bytes ml ret n0 T h cells slots) {a : Int32} (hd : decode bytes pc = .ok (.i2l, 1)) (q : Nat) (hq : pc + 1 = q) (k : Go p e below E m T q Ls (.long (a.toInt64) :: st)) : Go p e below E m T pc Ls (.int a :: st) := by
  obtain ⟨⟨locs, X, N⟩, hh, hx, hZ, hown, hby, -⟩ := X
  subst hq
  exact go_by (fun _ r => XS.i2l X.here hx rfl (hb hby hd) rfl r) k
theorem go_l2i (X : SD p l e R s m args below meth c Z y bytes ml ret n0 T h cells slots) {a : Int64} (hd : decode bytes pc = .ok (.l2i, 1)) (q : Nat) (hq : pc + 1 = q) (k : Go p e below E m T q Ls (.int (a.toInt32) :: st)) : Go p e below E m T pc Ls (.long a :: st) := by
  obtain ⟨⟨locs, X, N⟩, hh, hx, hZ, hown, hby, -⟩ := X
  subst hq
  exact go_by (fun _ r => XS.l2i X.here hx rfl (hb hby hd) rfl r) k
theorem go_i2b (X : SD p l e R s m args below meth c Z y bytes ml ret n0 T h cells slots) {a : Int32} (hd : decode bytes pc = .ok (.i2b, 1)) (q : Nat) (hq : pc + 1 = q) (k : Go p e below E m T q Ls (.int (a.toInt8.toInt32) :: st)) : Go p e below E m T pc Ls (.int a :: st) := by
  obtain ⟨⟨locs, X, N⟩, hh, hx, hZ, hown, hby, -⟩ := X
  subst hq
  exact go_by (fun _ r => XS.i2b X.here hx rfl (hb hby hd) rfl r) k
theorem go_i2c (X : SD p l e R s m args below meth c Z y bytes ml ret n0 T h cells slots) {a : Int32} (hd : decode bytes pc = .ok (.i2c, 1)) (q : Nat) (hq : pc + 1 = q) (k : Go p e below E m T q Ls (.int (a.toUInt32.toUInt16.toUInt32.toInt32) :: st)) : Go p e below E m T pc Ls (.int a :: st) := by
  obtain ⟨⟨locs, X, N⟩, hh, hx, hZ, hown, hby, -⟩ := X
  subst hq
  exact go_by (fun _ r => XS.i2c X.here hx rfl (hb hby hd) rfl r) k
theorem go_i2s (X : SD p l e R s m args below meth c Z y bytes ml ret n0 T h cells slots) {a : Int32} (hd : decode bytes pc = .ok (.i2s, 1)) (q : Nat) (hq : pc + 1 = q) (k : Go p e below E m T q Ls (.int (a.toInt16.toInt32) :: st)) : Go p e below E m T pc Ls (.int a :: st) := by
  obtain ⟨⟨locs, X, N⟩, hh, hx, hZ, hown, hby, -⟩ := X
  subst hq
  exact go_by (fun _ r => XS.i2s X.here hx rfl (hb hby hd) rfl r) k
theorem go_sipush (X : SD p l e R s m args below meth c Z y bytes ml ret n0 T h cells slots) {i : Int} (z : Int32) (hd : decode bytes pc = .ok (.sipush i, 3)) (hz : (Int16.ofInt i).toInt32 = z) (q : Nat) (hq : pc + 3 = q) (k : Go p e below E m T q Ls (.int z :: st)) : Go p e below E m T pc Ls st := by
  obtain ⟨⟨locs, X, N⟩, hh, hx, hZ, hown, hby, -⟩ := X
  subst hz hq
  exact go_by (fun _ r => XS.sipush X.here hx rfl (hb hby hd) r) k
theorem go_iinc (X : SD p l e R s m args below meth c Z y bytes ml ret n0 T h cells slots) {i : Nat} {j : Int} {v : Int32} (z : Int32) (l' : Array Slot) (hd : decode bytes pc = .ok (.iinc i j, 3)) (hl : Ls[i]? = some (.val (.int v))) (hz : v + Int32.ofInt j = z) (hl' : storeLocals Ls i (.int z) = some l') (q : Nat) (hq : pc + 3 = q) (k : Go p e below E m T q l' st) : Go p e below E m T pc Ls st := by
  obtain ⟨⟨locs, X, N⟩, hh, hx, hZ, hown, hby, -⟩ := X
  subst hz hq
  exact go_by (fun _ r => XS.iinc X.here hx rfl (hb hby hd) hl hl' r) k
theorem go_dup (X : SD p l e R s m args below meth c Z y bytes ml ret n0 T h cells slots) {v : Value} (hd : decode bytes pc = .ok (.dup, 1)) (hv : v.category = 1) (q : Nat) (hq : pc + 1 = q) (k : Go p e below E m T q Ls (v :: v :: st)) : Go p e below E m T pc Ls (v :: st) := by
  obtain ⟨⟨locs, X, N⟩, hh, hx, hZ, hown, hby, -⟩ := X
  subst hq
  exact go_by (fun _ r => XS.dup X.here hx rfl (hb hby hd) rfl hv r) k
theorem go_pop (X : SD p l e R s m args below meth c Z y bytes ml ret n0 T h cells slots) {v : Value} (hd : decode bytes pc = .ok (.pop, 1)) (hv : v.category = 1) (q : Nat) (hq : pc + 1 = q) (k : Go p e below E m T q Ls st) : Go p e below E m T pc Ls (v :: st) := by
  obtain ⟨⟨locs, X, N⟩, hh, hx, hZ, hown, hby, -⟩ := X
  subst hq
  exact go_by (fun _ r => XS.pop X.here hx rfl (hb hby hd) rfl hv r) k
theorem go_goto (X : SD p l e R s m args below meth c Z y bytes ml ret n0 T h cells slots) {o : Int} (q : Nat) (hd : decode bytes pc = .ok (.goto o, 3)) (ho : 0 ≤ (pc : Int) + o) (hp : ((pc : Int) + o).toNat = q) (k : Go p e below E m T q Ls st) : Go p e below E m T pc Ls st := by
  obtain ⟨⟨locs, X, N⟩, hh, hx, hZ, hown, hby, -⟩ := X
  exact go_by (fun _ r => XS.goto X.here hx rfl (pc0 := pc) (pc' := q) rfl (hb hby hd) ho hp r) k
/-! ### forks -/
def icP : ClassFile.Cond → Int32 → Int32 → Prop
  | .eq, a, b => a = b
  | .ne, a, b => ¬ a = b
  | .lt, a, b => a < b
  | .ge, a, b => ¬ a < b
  | .gt, a, b => b < a
  | .le, a, b => ¬ b < a
def lcP : ClassFile.Cond → Int64 → Int64 → Prop
  | .eq, a, b => a = b
  | .ne, a, b => ¬ a = b
  | .lt, a, b => a < b
  | .ge, a, b => ¬ a < b
  | .gt, a, b => b < a
  | .le, a, b => ¬ b < a
theorem ic_holds (cd : ClassFile.Cond) (a b : Int32) : (if_icmp.holds cd a b = true → icP cd a b) ∧ (if_icmp.holds cd a b = false → ¬ icP cd a b) := by
  cases cd <;> simp [if_icmp.holds, icP, Int32.not_lt, Int32.not_le]
theorem lc_holds (cd : ClassFile.Cond) (a b : Int64) : (if_icmp.holds cd (XT.cmpL a b) 0 = true → lcP cd a b) ∧ (if_icmp.holds cd (XT.cmpL a b) 0 = false → ¬ lcP cd a b) := by
  have e : XT.cmpL a b = lcmpW a b := rfl
  rw [e]
  have h1 := lw_lt a b
  have h2 := lw_gt a b
  have h3 := lw_eq a b
  cases cd <;> simp [if_icmp.holds, lcP, Int32.not_lt, Int32.not_le, ← h1, ← h2, ← h3]
theorem go_icmp (X : SD p l e R s m args below meth c Z y bytes ml ret n0 T h cells slots) {cd : ClassFile.Cond} {o : Int} {a b : Int32} (q q' : Nat) (hd : decode bytes pc = .ok (.if_icmp cd o, 3)) (hq : pc + 3 = q) (ho : 0 ≤ (pc : Int) + o) (hp : ((pc : Int) + o).toNat = q') (k1 : icP cd a b → Go p e below E m T q' Ls st) (k2 : ¬ icP cd a b → Go p e below E m T q Ls st) : Go p e below E m T pc Ls (.int b :: .int a :: st) := by
  obtain ⟨⟨locs, X, N⟩, hh, hx, hZ, hown, hby, -⟩ := X
  subst hq
  cases hc : if_icmp.holds cd a b
  · exact go_by (fun _ r => XS.icmpNo X.here hx rfl (hb hby hd) rfl hc r) (k2 ((ic_holds cd a b).2 hc))
  · exact go_by (fun _ r => XS.icmpYes X.here hx rfl (pc0 := pc) (pc' := q') rfl (hb hby hd) rfl hc ho hp r) (k1 ((ic_holds cd a b).1 hc))
theorem go_if (X : SD p l e R s m args below meth c Z y bytes ml ret n0 T h cells slots) {cd : ClassFile.Cond} {o : Int} {a : Int32} (q q' : Nat) (hd : decode bytes pc = .ok (.ifCond cd o, 3)) (hq : pc + 3 = q) (ho : 0 ≤ (pc : Int) + o) (hp : ((pc : Int) + o).toNat = q') (k1 : icP cd a 0 → Go p e below E m T q' Ls st) (k2 : ¬ icP cd a 0 → Go p e below E m T q Ls st) : Go p e below E m T pc Ls (.int a :: st) := by
  obtain ⟨⟨locs, X, N⟩, hh, hx, hZ, hown, hby, -⟩ := X
  subst hq
  cases hc : ifCond.holds cd a
  · exact go_by (fun _ r => XS.ifNo X.here hx rfl (hb hby hd) rfl hc r) (k2 ((ic_holds cd a 0).2 ((if0 cd a).symm.trans hc)))
  · exact go_by (fun _ r => XS.ifYes X.here hx rfl (pc0 := pc) (pc' := q') rfl (hb hby hd) rfl hc ho hp r) (k1 ((ic_holds cd a 0).1 ((if0 cd a).symm.trans hc)))
theorem go_lif (X : SD p l e R s m args below meth c Z y bytes ml ret n0 T h cells slots) {cd : ClassFile.Cond} {o : Int} {a b : Int64} (pc1 q q' : Nat) (hd0 : decode bytes pc = .ok (.lcmp, 1)) (hq0 : pc + 1 = pc1) (hd : decode bytes pc1 = .ok (.ifCond cd o, 3)) (hq : pc1 + 3 = q) (ho : 0 ≤ (pc1 : Int) + o) (hp : ((pc1 : Int) + o).toNat = q') (k1 : lcP cd a b → Go p e below E m T q' Ls st) (k2 : ¬ lcP cd a b → Go p e below E m T q Ls st) : Go p e below E m T pc Ls (.long b :: .long a :: st) := by
  have X' := X
  obtain ⟨⟨locs, X, N⟩, hh, hx, hZ, hown, hby, -⟩ := X
  subst hq0
  refine go_by (fun _ r => XT.lcmp X.here hx rfl (hb hby hd0) rfl r) ?_
  refine go_if X' q q' hd hq ho hp (fun hc => k1 ?_) (fun hc => k2 ?_)
  · have := lc_holds cd a b
    revert hc this
    cases hh : if_icmp.holds cd (XT.cmpL a b) 0
    · exact fun hc _ => absurd hc ((ic_holds cd _ 0).2 hh)
    · exact fun _ t => t.1 rfl
  · have := lc_holds cd a b
    revert hc this
    cases hh : if_icmp.holds cd (XT.cmpL a b) 0
    · exact fun _ t => t.2 rfl
    · exact fun hc _ => absurd ((ic_holds cd _ 0).1 hh) hc
def acP : ACond → Value → Value → Prop
  | .eq, a, b => a = b
  | .ne, a, b => ¬ a = b
theorem go_acmp (X : SD p l e R s m args below meth c Z y bytes ml ret n0 T h cells slots) {cd : ACond} {o : Int} {a b : Value} (q q' : Nat) (hd : decode bytes pc = .ok (.if_acmp cd o, 3)) (ha : a.isRef = true) (hb' : b.isRef = true) (hq : pc + 3 = q) (ho : 0 ≤ (pc : Int) + o) (hp : ((pc : Int) + o).toNat = q') (k1 : acP cd a b → Go p e below E m T q' Ls st) (k2 : ¬ acP cd a b → Go p e below E m T q Ls st) : Go p e below E m T pc Ls (b :: a :: st) := by
  obtain ⟨⟨locs, X, N⟩, hh, hx, hZ, hown, hby, -⟩ := X
  subst hq
  by_cases hc : a = b
  · cases cd
    · exact go_by (fun _ r => Jvm.RoadKit.acmp (g := mkF m pc Ls (b :: a :: st)) X hx rfl ha hb' (pc0 := pc) (pc' := q') (same := true) rfl (hb hby hd) rfl (decide_eq_true hc) ho (by simp [acV, hp]) r) (k1 hc)
    · exact go_by (fun _ r => Jvm.RoadKit.acmp (g := mkF m pc Ls (b :: a :: st)) X hx rfl ha hb' (pc0 := pc) (pc' := pc + 3) (same := true) rfl (hb hby hd) rfl (decide_eq_true hc) ho (by simp [acV]) r) (k2 (fun z => z hc))
  · cases cd
    · exact go_by (fun _ r => Jvm.RoadKit.acmp (g := mkF m pc Ls (b :: a :: st)) X hx rfl ha hb' (pc0 := pc) (pc' := pc + 3) (same := false) rfl (hb hby hd) rfl (decide_eq_false hc) ho (by simp [acV]) r) (k2 hc)
    · exact go_by (fun _ r => Jvm.RoadKit.acmp (g := mkF m pc Ls (b :: a :: st)) X hx rfl ha hb' (pc0 := pc) (pc' := q') (same := false) rfl (hb hby hd) rfl (decide_eq_false hc) ho (by simp [acV, hp]) r) (k1 hc)
theorem go_ifnull (X : SD p l e R s m args below meth c Z y bytes ml ret n0 T h cells slots) {o : Int} {a : Value} (q q' : Nat) (hd : decode bytes pc = .ok (.ifnull o, 3)) (ha : a.isRef = true) (hq : pc + 3 = q) (ho : 0 ≤ (pc : Int) + o) (hp : ((pc : Int) + o).toNat = q') (k1 : a = .null → Go p e below E m T q' Ls st) (k2 : ¬ a = .null → Go p e below E m T q Ls st) : Go p e below E m T pc Ls (a :: st) := by
  obtain ⟨⟨locs, X, N⟩, hh, hx, hZ, hown, hby, -⟩ := X
  subst hq
  rcases ref_cases ha with rfl | ⟨a, rfl⟩
  · exact go_by (fun _ r => XS.ifnullYes X.here hx rfl (pc0 := pc) (pc' := q') rfl (hb hby hd) rfl ho hp r) (k1 rfl)
  · exact go_by (fun _ r => XS.ifnullNo X.here hx rfl (hb hby hd) rfl r) (k2 (fun z => by cases z))
theorem go_ifnonnull (X : SD p l e R s m args below meth c Z y bytes ml ret n0 T h cells slots) {o : Int} {a : Value} (q q' : Nat) (hd : decode bytes pc = .ok (.ifnonnull o, 3)) (ha : a.isRef = true) (hq : pc + 3 = q) (ho : 0 ≤ (pc : Int) + o) (hp : ((pc : Int) + o).toNat = q') (k1 : ¬ a = .null → Go p e below E m T q' Ls st) (k2 : a = .null → Go p e below E m T q Ls st) : Go p e below E m T pc Ls (a :: st) := by
  obtain ⟨⟨locs, X, N⟩, hh, hx, hZ, hown, hby, -⟩ := X
  subst hq
  rcases ref_cases ha with rfl | ⟨a, rfl⟩
  · exact go_by (fun _ r => XS.ifnonnullNo X.here hx rfl (hb hby hd) rfl r) (k2 rfl)
  · exact go_by (fun _ r => XS.ifnonnullYes X.here hx rfl (pc0 := pc) (pc' := q') rfl (hb hby hd) rfl ho hp r) (k1 (fun z => by cases z))
theorem go_ifnullR (X : SD p l e R s m args below meth c Z y bytes ml ret n0 T h cells slots) {o : Int} {a : Addr} (hd : decode bytes pc = .ok (.ifnull o, 3)) (q : Nat) (hq : pc + 3 = q) (k : Go p e below E m T q Ls st) : Go p e below E m T pc Ls (.ref a :: st) := by
  obtain ⟨⟨locs, X, N⟩, hh, hx, hZ, hown, hby, -⟩ := X
  subst hq
  exact go_by (fun _ r => XS.ifnullNo X.here hx rfl (hb hby hd) rfl r) k
theorem go_ifnullN (X : SD p l e R s m args below meth c Z y bytes ml ret n0 T h cells slots) {o : Int} (hd : decode bytes pc = .ok (.ifnull o, 3)) (q : Nat) (ho : 0 ≤ (pc : Int) + o) (hp : ((pc : Int) + o).toNat = q) (k : Go p e below E m T q Ls st) : Go p e below E m T pc Ls (.null :: st) := by
  obtain ⟨⟨locs, X, N⟩, hh, hx, hZ, hown, hby, -⟩ := X
  exact go_by (fun _ r => XS.ifnullYes X.here hx rfl (pc0 := pc) (pc' := q) rfl (hb hby hd) rfl ho hp r) k
theorem go_ifnonnullN (X : SD p l e R s m args below meth c Z y bytes ml ret n0 T h cells slots) {o : Int} (hd : decode bytes pc = .ok (.ifnonnull o, 3)) (q : Nat) (hq : pc + 3 = q) (k : Go p e below E m T q Ls st) : Go p e below E m T pc Ls (.null :: st) := by
  obtain ⟨⟨locs, X, N⟩, hh, hx, hZ, hown, hby, -⟩ := X
  subst hq
  exact go_by (fun _ r => XS.ifnonnullNo X.here hx rfl (hb hby hd) rfl r) k
theorem go_ifnonnullR (X : SD p l e R s m args below meth c Z y bytes ml ret n0 T h cells slots) {o : Int} {a : Addr} (hd : decode bytes pc = .ok (.ifnonnull o, 3)) (q : Nat) (ho : 0 ≤ (pc : Int) + o) (hp : ((pc : Int) + o).toNat = q) (k : Go p e below E m T q Ls st) : Go p e below E m T pc Ls (.ref a :: st) := by
  obtain ⟨⟨locs, X, N⟩, hh, hx, hZ, hown, hby, -⟩ := X
  exact go_by (fun _ r => XS.ifnonnullYes X.here hx rfl (pc0 := pc) (pc' := q) rfl (hb hby hd) rfl ho hp r) k
def raP : ACond → Addr → Addr → Prop
  | .eq, a, b => a = b
  | .ne, a, b => ¬ a = b
theorem go_acmpR (X : SD p l e R s m args below meth c Z y bytes ml ret n0 T h cells slots) {cd : ACond} {o : Int} {a b : Addr} (q q' : Nat) (hd : decode bytes pc = .ok (.if_acmp cd o, 3)) (hq : pc + 3 = q) (ho : 0 ≤ (pc : Int) + o) (hp : ((pc : Int) + o).toNat = q') (k1 : raP cd a b → Go p e below E m T q' Ls st) (k2 : ¬ raP cd a b → Go p e below E m T q Ls st) : Go p e below E m T pc Ls (.ref b :: .ref a :: st) := by
  refine go_acmp X q q' hd rfl rfl hq ho hp (fun z => k1 ?_) (fun z => k2 ?_)
  · cases cd
    · exact Value.ref.inj z
    · exact fun w => z (congrArg Value.ref w)
  · cases cd
    · exact fun w => z (congrArg Value.ref w)
    · exact fun w => z (fun u => w (Value.ref.inj u))
theorem own_cat {v : Value} (q : v.isRef = true) : v.category = 1 := by
  rcases ref_cases q with rfl | ⟨a, rfl⟩ <;> rfl
theorem own_iteR {q : Prop} [Decidable q] {a b : Value} (ha : a.isRef = true) (hb : b.isRef = true) : (if q then a else b).isRef = true := by split <;> assumption
theorem own_catI (x : Int32) : (Value.int x).category = 1 := rfl
theorem own_catJ (x : Int64) : (Value.long x).category = 2 := rfl
theorem own_catR (x : Addr) : (Value.ref x).category = 1 := rfl
theorem go_tsw (X : SD p l e R s m args below meth c Z y bytes ml ret n0 T h cells slots) {dflt low high o : Int} {offs : Array Int} {len : Nat} {i : Int32} (q : Nat) (hd : decode bytes pc = .ok (.tableswitch dflt low high offs, len)) (hin : ¬ (i.toInt < low ∨ i.toInt > high)) (hoff : offs[(i.toInt - low).toNat]? = some o) (ho : 0 ≤ (pc : Int) + o) (hp : ((pc : Int) + o).toNat = q) (k : Go p e below E m T q Ls st) : Go p e below E m T pc Ls (.int i :: st) := by
  obtain ⟨⟨locs, X, N⟩, hh, hx, hZ, hown, hby, -⟩ := X
  exact go_by (fun _ r => XS.tswIn X.here hx rfl (pc0 := pc) (pc' := q) rfl (hb hby hd) rfl hin hoff ho hp r) k
/-! ### fields, statics, arrays, new -/
theorem go_getS (X : SD p l e R s m args below meth c Z y bytes ml ret n0 T h cells slots) {O n d : String} {i : Nat} {v : Value} (w : (Cond.fieldLink y.cls i O n d).before a0 Z = true) (F : Sta Z h O n d v) (hd : decode bytes pc = .ok (.getstatic i, 3)) (q : Nat) (hq : pc + 3 = q)
    (k : ∀ T', SD p l e R s m args below meth c Z y bytes ml ret n0 T' h cells slots → Go p e below E m T' q Ls (v :: st)) : Go p e below E m T pc Ls st := by
  obtain ⟨⟨locs, X, N⟩, hh, hx, hZ, hown, hby, r⟩ := X
  subst hq
  obtain ⟨T', X', e', stp⟩ := getS (host := "") X hx hZ hown w Via.refl hh F (g := mkF m pc Ls st) rfl (hb hby hd)
  exact go_by (fun _ r => stp _ r) (k T' ⟨⟨locs, X', N⟩, e', hx, hZ, hown, hby, r⟩)
theorem go_getF (X : SD p l e R s m args below meth c Z y bytes ml ret n0 T h cells slots) {O n d : String} {i : Nat} {a : Addr} {v : Value} (w : (Cond.fieldLink y.cls i O n d).before a0 Z = true) (F : Fld Z h a O n d v) (hd : decode bytes pc = .ok (.getfield i, 3)) (q : Nat) (hq : pc + 3 = q)
    (k : ∀ T', SD p l e R s m args below meth c Z y bytes ml ret n0 T' h cells slots → Go p e below E m T' q Ls (v :: st)) : Go p e below E m T pc Ls (.ref a :: st) := by
  obtain ⟨⟨locs, X, N⟩, hh, hx, hZ, hown, hby, r⟩ := X
  subst hq
  obtain ⟨T', X', e', stp⟩ := getF (host := "") X hx hZ hown (Or.inl w) Via.refl hh F (g := mkF m pc Ls (.ref a :: st)) rfl rfl (hb hby hd)
  exact go_by (fun _ r => stp _ r) (k T' ⟨⟨locs, X', N⟩, e', hx, hZ, hown, hby, r⟩)
theorem go_putF (X : SD p l e R s m args below meth c Z y bytes ml ret n0 T h cells slots) {O n d C : String} {i kk : Nat} {a : Addr} {v old : Value} {ty : FieldType} (w : (Cond.fieldLink y.cls i O n d).before a0 Z = true) (F : Fld Z h a O n d old) (Ex : Exa Z h a C) (wl : (Cond.lays C O n d).before a0 Z = true ∨ ((Cond.laysFinal C O n d).before a0 Z = true ∧ y.cls = O ∧ y.name = "<init>")) (wi : (Cond.instantiable C kk).before a0 Z = true)
    (hty : parseFieldDescriptor d = some ty) (hn : narrow ty v = v) (hf : fits ty v = true) (ha : n0 ≤ a) (hd : decode bytes pc = .ok (.putfield i, 3)) (q : Nat) (hq : pc + 3 = q)
    (k : ∀ T' h', SD p l e R s m args below meth c Z y bytes ml ret n0 T' h' cells slots → Wr h h' a (slotOf Z O n d) v → Go p e below E m T' q Ls st) : Go p e below E m T pc Ls (v :: .ref a :: st) := by
  obtain ⟨⟨locs, X, N⟩, hh, hx, hZ, hown, hby, hml, hret, hlk, hnm⟩ := X
  subst hq
  obtain ⟨T', h', X', e', W, stp⟩ := putF (host := "") X hx hZ hown (Or.inl w) Via.refl hh F Ex (wl.imp id fun q => ⟨q.1, q.2.1, hnm.trans q.2.2⟩) wi hty hn hf (g := mkF m pc Ls (v :: .ref a :: st)) rfl rfl (hb hby hd)
  exact go_by (fun _ r => stp _ r) (k T' h' ⟨⟨_, X', Fr.snoc X' N ha⟩, e', hx, hZ, hown, hby, hml, hret, hlk, hnm⟩ W)
theorem go_new (X : SD p l e R s m args below meth c Z y bytes ml ret n0 T h cells slots) {C : String} {i nf : Nat} (w : (Cond.classLink y.cls i C).before a0 Z = true) (wi : (Cond.instantiable C nf).before a0 Z = true) (wz : (Cond.initialized C).before a0 Z = true) (hd : decode bytes pc = .ok (.new i, 3)) (hc : cells + 1 ≤ R.cells) (hs : slots + nf ≤ R.slots) (q : Nat) (hq : pc + 3 = q)
    (k : ∀ T' h' a, a = h.size → SD p l e R s m args below meth c Z y bytes ml ret n0 T' h' (cells + 1) (slots + nf) → Ext h h' → Exa Z h' a C → (∀ {O nm d : String} {ty : FieldType}, Laid Z a0 C O nm d → parseFieldDescriptor d = some ty → Fld Z h' a O nm d (defaultValue ty)) → Go p e below E m T' q Ls (.ref a :: st)) : Go p e below E m T pc Ls st := by
  obtain ⟨⟨locs, X, N⟩, hh, hx, hZ, hown, hby, r⟩ := X
  subst hq
  obtain ⟨T', h', X', e', E', A', D', -, stp⟩ := newO X hx hZ hown w wi wz hh (g := mkF m pc Ls st) rfl (hb hby hd) hc hs
  exact go_by (fun _ r => stp _ r) (k T' h' _ rfl ⟨⟨locs, X', N⟩, e', hx, hZ, hown, hby, r⟩ E' A' D')
theorem go_newA (X : SD p l e R s m args below meth c Z y bytes ml ret n0 T h cells slots) {aty : ArrayType} {z : Int32} (cap : Nat) (w : (Cond.arrayClass (newarray.typeOf aty)).before a0 Z = true) (hd : decode bytes pc = .ok (.newarray aty, 2)) (hn : ¬ z < 0) (hcap : z.toNatClampNeg ≤ cap) (hb8 : cap * 8 ≤ 536870912) (hc : cells + 1 ≤ R.cells) (hs : slots + cap ≤ R.slots) (q : Nat) (hq : pc + 2 = q)
    (k : ∀ T' h' a cA, a = h.size → SD p l e R s m args below meth c Z y bytes ml ret n0 T' h' (cells + 1) (slots + cap) → Ext h h' → Arr Z h' a (newA cA (newarray.typeOf aty) z) (newarray.typeOf aty) → Go p e below E m T' q Ls (.ref a :: st)) : Go p e below E m T pc Ls (.int z :: st) := by
  obtain ⟨⟨locs, X, N⟩, hh, hx, hZ, hown, hby, r⟩ := X
  subst hq
  obtain ⟨T', h', cA, X', e', E', A', stp⟩ := newP X hx hZ w hh (g := mkF m pc Ls (.int z :: st)) rfl (hb hby hd) rfl hn hcap hb8 hc hs
  exact go_by (fun _ r => stp _ r) (k T' h' _ cA rfl ⟨⟨locs, X', N⟩, e', hx, hZ, hown, hby, r⟩ E' A')
theorem go_stJ (X : SD p l e R s m args below meth c Z y bytes ml ret n0 T h cells slots) {a : Addr} {cl : Cell} {j : Int32} {x : Int64} (A : Arr Z h a cl .long) (hj : ¬ (j < 0 ∨ cl.slots.size ≤ j.toNatClampNeg)) (ha : n0 ≤ a) (hd : decode bytes pc = .ok (.lastore, 1)) (q : Nat) (hq : pc + 1 = q)
    (k : ∀ T' h', SD p l e R s m args below meth c Z y bytes ml ret n0 T' h' cells slots → Wr h h' a j.toNatClampNeg (.long x) → Go p e below E m T' q Ls st) : Go p e below E m T pc Ls (.long x :: .int j :: .ref a :: st) := by
  obtain ⟨⟨locs, X, N⟩, hh, hx, hZ, hown, hby, r⟩ := X
  subst hq
  obtain ⟨T', h', X', e', W, stp⟩ := stJ X hx hZ hh A hj (g := mkF m pc Ls (.long x :: .int j :: .ref a :: st)) rfl rfl (hb hby hd)
  exact go_by (fun _ r => stp _ r) (k T' h' ⟨⟨_, X', Fr.snoc X' N ha⟩, e', hx, hZ, hown, hby, r⟩ W)
theorem go_stB (X : SD p l e R s m args below meth c Z y bytes ml ret n0 T h cells slots) {a : Addr} {cl : Cell} {j : Int32} {x : Int32} (A : Arr Z h a cl .byte) (hj : ¬ (j < 0 ∨ cl.slots.size ≤ j.toNatClampNeg)) (ha : n0 ≤ a) (hd : decode bytes pc = .ok (.bastore, 1)) (q : Nat) (hq : pc + 1 = q)
    (k : ∀ T' h', SD p l e R s m args below meth c Z y bytes ml ret n0 T' h' cells slots → Wr h h' a j.toNatClampNeg (.int (nar .byte x)) → Go p e below E m T' q Ls st) : Go p e below E m T pc Ls (.int x :: .int j :: .ref a :: st) := by
  obtain ⟨⟨locs, X, N⟩, hh, hx, hZ, hown, hby, r⟩ := X
  subst hq
  obtain ⟨T', h', X', e', W, stp⟩ := stB X hx hZ hh A hj (g := mkF m pc Ls (.int x :: .int j :: .ref a :: st)) rfl rfl (hb hby hd)
  exact go_by (fun _ r => stp _ r) (k T' h' ⟨⟨_, X', Fr.snoc X' N ha⟩, e', hx, hZ, hown, hby, r⟩ W)
theorem go_stC (X : SD p l e R s m args below meth c Z y bytes ml ret n0 T h cells slots) {a : Addr} {cl : Cell} {j : Int32} {x : Int32} (A : Arr Z h a cl .char) (hj : ¬ (j < 0 ∨ cl.slots.size ≤ j.toNatClampNeg)) (ha : n0 ≤ a) (hd : decode bytes pc = .ok (.castore, 1)) (q : Nat) (hq : pc + 1 = q)
    (k : ∀ T' h', SD p l e R s m args below meth c Z y bytes ml ret n0 T' h' cells slots → Wr h h' a j.toNatClampNeg (.int (nar .char x)) → Go p e below E m T' q Ls st) : Go p e below E m T pc Ls (.int x :: .int j :: .ref a :: st) := by
  obtain ⟨⟨locs, X, N⟩, hh, hx, hZ, hown, hby, r⟩ := X
  subst hq
  obtain ⟨T', h', X', e', W, stp⟩ := stC X hx hZ hh A hj (g := mkF m pc Ls (.int x :: .int j :: .ref a :: st)) rfl rfl (hb hby hd)
  exact go_by (fun _ r => stp _ r) (k T' h' ⟨⟨_, X', Fr.snoc X' N ha⟩, e', hx, hZ, hown, hby, r⟩ W)
theorem go_laload (X : SD p l e R s m args below meth c Z y bytes ml ret n0 T h cells slots) {a : Addr} {cl : Cell} {j : Int32} {v : Value} (A : Arr Z h a cl .long) (hj : ¬ (j < 0 ∨ cl.slots.size ≤ j.toNatClampNeg)) (hv : cl.slots[j.toNatClampNeg]? = some v) (hd : decode bytes pc = .ok (.laload, 1)) (q : Nat) (hq : pc + 1 = q)
    (k : Go p e below E m T q Ls (v :: st)) : Go p e below E m T pc Ls (.int j :: .ref a :: st) := by
  obtain ⟨⟨locs, X, N⟩, hh, hx, hZ, hown, hby, -⟩ := X
  subst hq
  exact go_by (fun _ r => X.laload hx (by rw [hh]; exact A.1) (State.isArrayOf_alike hZ.alike A.2.1) A.2.2 hj hv (g := mkF m pc Ls (.int j :: .ref a :: st)) rfl rfl (hb hby hd) _ r) k
theorem go_baload (X : SD p l e R s m args below meth c Z y bytes ml ret n0 T h cells slots) {a : Addr} {cl : Cell} {j : Int32} {v : Value} (A : Arr Z h a cl .byte) (hj : ¬ (j < 0 ∨ cl.slots.size ≤ j.toNatClampNeg)) (hv : cl.slots[j.toNatClampNeg]? = some v) (hd : decode bytes pc = .ok (.baload, 1)) (q : Nat) (hq : pc + 1 = q)
    (k : Go p e below E m T q Ls (v :: st)) : Go p e below E m T pc Ls (.int j :: .ref a :: st) := by
  obtain ⟨⟨locs, X, N⟩, hh, hx, hZ, hown, hby, -⟩ := X
  subst hq
  exact go_by (fun _ r => X.baloadBytes hx (by rw [hh]; exact A.1) (State.isArrayOf_alike hZ.alike A.2.1) A.2.2 hj hv (g := mkF m pc Ls (.int j :: .ref a :: st)) rfl rfl (hb hby hd) _ r) k
theorem go_caload (X : SD p l e R s m args below meth c Z y bytes ml ret n0 T h cells slots) {a : Addr} {cl : Cell} {j : Int32} {v : Value} (A : Arr Z h a cl .char) (hj : ¬ (j < 0 ∨ cl.slots.size ≤ j.toNatClampNeg)) (hv : cl.slots[j.toNatClampNeg]? = some v) (hd : decode bytes pc = .ok (.caload, 1)) (q : Nat) (hq : pc + 1 = q)
    (k : Go p e below E m T q Ls (v :: st)) : Go p e below E m T pc Ls (.int j :: .ref a :: st) := by
  obtain ⟨⟨locs, X, N⟩, hh, hx, hZ, hown, hby, -⟩ := X
  subst hq
  exact go_by (fun _ r => X.caload hx (by rw [hh]; exact A.1) (State.isArrayOf_alike hZ.alike A.2.1) A.2.2 hj hv (g := mkF m pc Ls (.int j :: .ref a :: st)) rfl rfl (hb hby hd) _ r) k
theorem go_aaload (X : SD p l e R s m args below meth c Z y bytes ml ret n0 T h cells slots) {a : Addr} {cl : Cell} {j : Int32} {v : Value} {ty : FieldType} (A : Arr Z h a cl ty) (hty : ty.isReference = true) (hj : ¬ (j < 0 ∨ cl.slots.size ≤ j.toNatClampNeg)) (hv : cl.slots[j.toNatClampNeg]? = some v) (hd : decode bytes pc = .ok (.aaload, 1)) (q : Nat) (hq : pc + 1 = q)
    (k : Go p e below E m T q Ls (v :: st)) : Go p e below E m T pc Ls (.int j :: .ref a :: st) := by
  obtain ⟨⟨locs, X, N⟩, hh, hx, hZ, hown, hby, -⟩ := X
  subst hq
  exact go_by (fun _ r => X.aaload hx (by rw [hh]; exact A.1) (State.isArrayOf_alike hZ.alike A.2.1) hty A.2.2 hj hv (g := mkF m pc Ls (.int j :: .ref a :: st)) rfl rfl (hb hby hd) _ r) k
theorem go_arrlen (X : SD p l e R s m args below meth c Z y bytes ml ret n0 T h cells slots) {a : Addr} {cl : Cell} {ty : FieldType} (z : Int32) (A : Arr Z h a cl ty) (hz : cl.slots.size.toInt32 = z) (hd : decode bytes pc = .ok (.arraylength, 1)) (q : Nat) (hq : pc + 1 = q)
    (k : Go p e below E m T q Ls (.int z :: st)) : Go p e below E m T pc Ls (.ref a :: st) := by
  obtain ⟨⟨locs, X, N⟩, hh, hx, hZ, hown, hby, -⟩ := X
  subst hq hz
  exact go_by (fun _ r => X.arraylength hx (by rw [hh]; exact A.1) (State.isArrayOf_alike hZ.alike A.2.1) (g := mkF m pc Ls (.ref a :: st)) rfl rfl (hb hby hd) _ r) k
/-! ### calls -/
theorem go_callS (X : SD p l e R s m args below meth c Z y bytes ml ret n0 T h cells slots) {y' : MethodName} {bytes' : ByteArray} {ml' i : Nat} {ret' : Option FieldType} {rm : Room} {as' : Array Value} {Q : Option Value → Heap → List Loc → Prop} (W : Nat) (argsL rest : List Value)
    (w1 : (Cond.methodLink y.cls i y').before a0 Z = true) (w2 : (Cond.static y').before a0 Z = true) (w3 : (Cond.initialized y'.cls).before a0 Z = true) (w4 : (Cond.code y' bytes' ml' ret').before a0 Z = true) (hy : y'.cls ≠ "java/lang/invoke/MethodHandle" ∧ y'.cls ≠ "java/lang/invoke/VarHandle")
    (hM : MetFree l y' (head1 [Cond.code y' bytes' ml' ret'] rm) (fun a U => a = as' ∧ Z.Warmed39 U.vm ∧ U.heap = h) (fun _ _ _ _ _ => True) (fun _ U o U' => ∃ v L, o = .returned v ∧ Q v U'.heap L ∧ FrameEnd U o U' L rm.cells rm.slots))
    (hf : rm.frames + 1 ≤ R.frames) (hl : W + (ml' + 11) + rm.locals ≤ R.locals) (hsz : Ls.size = ml) (hlen : ∀ sig, parseMethodDescriptor y'.desc = some sig → argsL.length = sig.parameters.length) (has : argsL.toArray = as') (hst : st = argsL.reverse ++ rest) (hW : (rest.map fun v => v.category).sum ≤ W) (hd : decode bytes pc = .ok (.invokestatic i, 3)) (hc : cells + rm.cells ≤ R.cells) (hs : slots + rm.slots ≤ R.slots) (q : Nat) (hq : pc + 3 = q)
    (hQ : ∀ v h' L, Q v h' L → Fr n0 L)
    (k : ∀ v T' L h', SD p l e R s m args below meth c Z y bytes ml ret n0 T' h' (cells + rm.cells) (slots + rm.slots) → Q v h' L → Go p e below E m T' q Ls (v.toList ++ rest)) : Go p e below E m T pc Ls st := by
  obtain ⟨⟨locs, X, N⟩, hh, hx, hZ, hown, hby, hml, r⟩ := X
  subst hq has
  obtain ⟨v, _, ⟨T', L', k', n'⟩, -, X', ⟨Lc, hq, l1, y1, z1⟩, stp⟩ := Jvm.LawKit.callS X hx (y := y') hown (mvT hZ w1) (mvT hZ w2) (mvT hZ w3) (mvT hZ w4) hy (backOf (W := W) hM hZ w4 w3 hf hl) (g := mkF m pc Ls st) rfl (hsz.trans hml.symm) (argsL := argsL) (rest := rest) hlen hst (by show 2 * 0 + _ ≤ _; omega) (hb hby hd) (fun _ _ => ⟨rfl, hh, hc, hs⟩)
  dsimp only [Pt.U, Pt.locs, Pt.cells, Pt.slots] at X' l1 y1 z1 stp hq
  subst l1 y1 z1
  exact go_by (fun _ r => stp _ r) (k v T' Lc _ ⟨⟨_, X', Fr.app N (hQ _ _ _ hq)⟩, rfl, hx, hZ, hown, hby, hml, r⟩ hq)
theorem go_callV (X : SD p l e R s m args below meth c Z y bytes ml ret n0 T h cells slots) {C : String} {y' z' : MethodName} {bytes' : ByteArray} {ml' i : Nat} {ret' : Option FieldType} {rm : Room} {as' : Array Value} {Q : Option Value → Heap → List Loc → Prop} {a : Addr} (W : Nat) (argsL rest : List Value)
    (w1 : (Cond.methodLink y.cls i y').before a0 Z = true) (w2 : (Cond.declares y').before a0 Z = true) (w3 : (Cond.selects C y' z').before a0 Z = true) (hyz : y'.cls = C) (w4 : (Cond.instanceMethod z').before a0 Z = true) (w5 : (Cond.initialized z'.cls).before a0 Z = true) (w6 : (Cond.code z' bytes' ml' ret').before a0 Z = true) (hy : y'.cls ≠ "java/lang/invoke/MethodHandle" ∧ y'.cls ≠ "java/lang/invoke/VarHandle")
    (Ex : Exa Z h a C) (hnf : NotFace s y')
    (hM : MetFree l z' (head1 [Cond.code z' bytes' ml' ret'] rm) (fun a U => a = as' ∧ Z.Warmed39 U.vm ∧ U.heap = h) (fun _ _ _ _ _ => True) (fun _ U o U' => ∃ v L, o = .returned v ∧ Q v U'.heap L ∧ FrameEnd U o U' L rm.cells rm.slots))
    (hf : rm.frames + 1 ≤ R.frames) (hl : W + (ml' + 11) + rm.locals ≤ R.locals) (hsz : Ls.size = ml) (hlen : ∀ sig, parseMethodDescriptor y'.desc = some sig → argsL.length = sig.parameters.length) (has : (Value.ref a :: argsL).toArray = as') (hst : st = argsL.reverse ++ .ref a :: rest) (hW : (rest.map fun v => v.category).sum ≤ W) (hd : decode bytes pc = .ok (.invokevirtual i, 3)) (hc : cells + rm.cells ≤ R.cells) (hs : slots + rm.slots ≤ R.slots) (q : Nat) (hq : pc + 3 = q)
    (hQ : ∀ v h' L, Q v h' L → Fr n0 L)
    (k : ∀ v T' L h', SD p l e R s m args below meth c Z y bytes ml ret n0 T' h' (cells + rm.cells) (slots + rm.slots) → Q v h' L → Go p e below E m T' q Ls (v.toList ++ rest)) : Go p e below E m T pc Ls st := by
  obtain ⟨⟨locs, X, N⟩, hh, hx, hZ, hown, hby, hml, r⟩ := X
  subst hq has
  obtain ⟨cq, kq, q1, q2, q3⟩ := isOf hZ hh Ex
  obtain ⟨v, _, ⟨T', L', k', n'⟩, -, X', ⟨Lc, hq, l1, y1, z1⟩, stp⟩ := X.virtualBack hx (y := y') (z := z') hown (mvT hZ w1) (mvT hZ w2) hnf (mvT hZ w3) (mvT hZ w4) hy (backOf (W := W) hM hZ w6 w5 hf hl) q1 q3 (g := mkF m pc Ls st) rfl (hsz.trans hml.symm) (Steps.refl _) (argsL := argsL) (rest := rest) hlen hst (by show 2 * 0 + _ ≤ _; omega) (hb hby hd) (fun _ _ => ⟨rfl, hh, hc, hs⟩)
  dsimp only [Pt.U, Pt.locs, Pt.cells, Pt.slots] at X' l1 y1 z1 stp hq
  subst l1 y1 z1
  exact go_by (fun _ r => stp.trans r) (k v T' Lc _ ⟨⟨_, X', Fr.app N (hQ _ _ _ hq)⟩, rfl, hx, hZ, hown, hby, hml, r⟩ hq)
/-- where the class itself declares what is selected: it is no interface -/
theorem go_callVs (X : SD p l e R s m args below meth c Z y bytes ml ret n0 T h cells slots) {y' : MethodName} {bytes' : ByteArray} {ml' i : Nat} {ret' : Option FieldType} {rm : Room} {as' : Array Value} {Q : Option Value → Heap → List Loc → Prop} {a : Addr} (W : Nat) (argsL rest : List Value)
    (w1 : (Cond.methodLink y.cls i y').before a0 Z = true) (w2 : (Cond.declares y').before a0 Z = true) (w3 : (Cond.selects y'.cls y' y').before a0 Z = true) (w4 : (Cond.instanceMethod y').before a0 Z = true) (w5 : (Cond.initialized y'.cls).before a0 Z = true) (w6 : (Cond.code y' bytes' ml' ret').before a0 Z = true) (hy : y'.cls ≠ "java/lang/invoke/MethodHandle" ∧ y'.cls ≠ "java/lang/invoke/VarHandle")
    (Ex : Exa Z h a y'.cls)
    (hM : MetFree l y' (head1 [Cond.code y' bytes' ml' ret'] rm) (fun a U => a = as' ∧ Z.Warmed39 U.vm ∧ U.heap = h) (fun _ _ _ _ _ => True) (fun _ U o U' => ∃ v L, o = .returned v ∧ Q v U'.heap L ∧ FrameEnd U o U' L rm.cells rm.slots))
    (hf : rm.frames + 1 ≤ R.frames) (hl : W + (ml' + 11) + rm.locals ≤ R.locals) (hsz : Ls.size = ml) (hlen : ∀ sig, parseMethodDescriptor y'.desc = some sig → argsL.length = sig.parameters.length) (has : (Value.ref a :: argsL).toArray = as') (hst : st = argsL.reverse ++ .ref a :: rest) (hW : (rest.map fun v => v.category).sum ≤ W) (hd : decode bytes pc = .ok (.invokevirtual i, 3)) (hc : cells + rm.cells ≤ R.cells) (hs : slots + rm.slots ≤ R.slots) (q : Nat) (hq : pc + 3 = q)
    (hQ : ∀ v h' L, Q v h' L → Fr n0 L)
    (k : ∀ v T' L h', SD p l e R s m args below meth c Z y bytes ml ret n0 T' h' (cells + rm.cells) (slots + rm.slots) → Q v h' L → Go p e below E m T' q Ls (v.toList ++ rest)) : Go p e below E m T pc Ls st :=
  go_callV X W argsL rest w1 w2 w3 rfl w4 w5 w6 hy Ex (notFace_of_selects (args := #[]) (mvT X.2.2.2.1 w3)) hM hf hl hsz hlen has hst hW hd hc hs q hq hQ k
theorem go_callUp (X : SD p l e R s m args below meth c Z y bytes ml ret n0 T h cells slots) {C owner : String} {x' y' : MethodName} {bytes' : ByteArray} {ml' i : Nat} {ret' : Option FieldType} {rm : Room} {as' : Array Value} {Q : Option Value → Heap → List Loc → Prop} {a : Addr} (W : Nat) (argsL rest : List Value)
    (w1 : (Cond.methodLink y.cls i x').before a0 Z = true) (w2 : (Cond.sameMethod x'.cls owner x'.name x'.desc).before a0 Z = true) (w2b : (Cond.declares ⟨owner, x'.name, x'.desc⟩).before a0 Z = true) (w3 : (Cond.selects C x' y').before a0 Z = true) (w4 : (Cond.instanceMethod y').before a0 Z = true) (w5 : (Cond.initialized y'.cls).before a0 Z = true) (w6 : (Cond.code y' bytes' ml' ret').before a0 Z = true) (hy : owner ≠ "java/lang/invoke/MethodHandle" ∧ owner ≠ "java/lang/invoke/VarHandle")
    (Ex : Exa Z h a C)
    (hM : MetFree l y' (head1 [Cond.code y' bytes' ml' ret'] rm) (fun a U => a = as' ∧ Z.Warmed39 U.vm ∧ U.heap = h) (fun _ _ _ _ _ => True) (fun _ U o U' => ∃ v L, o = .returned v ∧ Q v U'.heap L ∧ FrameEnd U o U' L rm.cells rm.slots))
    (hf : rm.frames + 1 ≤ R.frames) (hl : W + (ml' + 11) + rm.locals ≤ R.locals) (hsz : Ls.size = ml) (hlen : ∀ sig, parseMethodDescriptor x'.desc = some sig → argsL.length = sig.parameters.length) (has : (Value.ref a :: argsL).toArray = as') (hst : st = argsL.reverse ++ .ref a :: rest) (hW : (rest.map fun v => v.category).sum ≤ W) (hd : decode bytes pc = .ok (.invokevirtual i, 3)) (hc : cells + rm.cells ≤ R.cells) (hs : slots + rm.slots ≤ R.slots) (q : Nat) (hq : pc + 3 = q)
    (hQ : ∀ v h' L, Q v h' L → Fr n0 L)
    (k : ∀ v T' L h', SD p l e R s m args below meth c Z y bytes ml ret n0 T' h' (cells + rm.cells) (slots + rm.slots) → Q v h' L → Go p e below E m T' q Ls (v.toList ++ rest)) : Go p e below E m T pc Ls st := by
  obtain ⟨⟨locs, X, N⟩, hh, hx, hZ, hown, hby, hml, r⟩ := X
  subst hq has
  obtain ⟨cq, kq, q1, q2, q3⟩ := isOf hZ hh Ex
  obtain ⟨v, _, ⟨T', L', k', n'⟩, -, X', ⟨Lc, hq, l1, y1, z1⟩, stp⟩ := X.virtualBackUp hx (x := x') (y := y') (owner := owner) hown (mvT hZ w1) (mvT hZ w2) (mvT hZ w2b) hy (mvT hZ w3) (mvT hZ w4) (backOf (W := W) hM hZ w6 w5 hf hl) q1 q3 (g := mkF m pc Ls st) rfl (hsz.trans hml.symm) (Steps.refl _) (argsL := argsL) (rest := rest) hlen hst (by show 2 * 0 + _ ≤ _; omega) (hb hby hd) (fun _ _ => ⟨rfl, hh, hc, hs⟩)
  dsimp only [Pt.U, Pt.locs, Pt.cells, Pt.slots] at X' l1 y1 z1 stp hq
  subst l1 y1 z1
  exact go_by (fun _ r => stp.trans r) (k v T' Lc _ ⟨⟨_, X', Fr.app N (hQ _ _ _ hq)⟩, rfl, hx, hZ, hown, hby, hml, r⟩ hq)
theorem go_callI (X : SD p l e R s m args below meth c Z y bytes ml ret n0 T h cells slots) {y' : MethodName} {bytes' : ByteArray} {ml' i : Nat} {rm : Room} {as' : Array Value} {Q : Option Value → Heap → List Loc → Prop} {a : Addr} (W : Nat) (argsL rest : List Value) (hy1 : y'.name = "<init>")
    (w1 : (Cond.methodLink y.cls i y').before a0 Z = true) (w2 : (Cond.instanceMethod y').before a0 Z = true) (w3 : (Cond.initialized y'.cls).before a0 Z = true) (w4 : (Cond.code y' bytes' ml' none).before a0 Z = true) (hy : y'.cls ≠ "java/lang/invoke/MethodHandle" ∧ y'.cls ≠ "java/lang/invoke/VarHandle")
    (hM : MetFree l y' (head1 [Cond.code y' bytes' ml' none] rm) (fun a U => a = as' ∧ Z.Warmed39 U.vm ∧ U.heap = h) (fun _ _ _ _ _ => True) (fun _ U o U' => ∃ v L, o = .returned v ∧ Q v U'.heap L ∧ FrameEnd U o U' L rm.cells rm.slots))
    (hf : rm.frames + 1 ≤ R.frames) (hl : W + (ml' + 11) + rm.locals ≤ R.locals) (hsz : Ls.size = ml) (hlen : ∀ sig, parseMethodDescriptor y'.desc = some sig → argsL.length = sig.parameters.length) (has : (Value.ref a :: argsL).toArray = as') (hst : st = argsL.reverse ++ .ref a :: rest) (hW : (rest.map fun v => v.category).sum ≤ W) (hd : decode bytes pc = .ok (.invokespecial i, 3)) (hc : cells + rm.cells ≤ R.cells) (hs : slots + rm.slots ≤ R.slots) (q : Nat) (hq : pc + 3 = q)
    (hQ : ∀ v h' L, Q v h' L → Fr n0 L)
    (k : ∀ v T' L h', SD p l e R s m args below meth c Z y bytes ml ret n0 T' h' (cells + rm.cells) (slots + rm.slots) → Q v h' L → Go p e below E m T' q Ls (v.toList ++ rest)) : Go p e below E m T pc Ls st := by
  obtain ⟨⟨locs, X, N⟩, hh, hx, hZ, hown, hby, hml, r⟩ := X
  subst hq has
  obtain ⟨v, _, ⟨T', L', k', n'⟩, -, X', ⟨Lc, hq, l1, y1, z1⟩, stp⟩ := X.specialBack hx (y := y') hy1 hown (mvT hZ w1) (mvT hZ w2) (mvT hZ w4) hy (backOf (W := W) hM hZ w4 w3 hf hl) (g := mkF m pc Ls st) rfl (hsz.trans hml.symm) (Steps.refl _) (a := a) (argsL := argsL) (rest := rest) hlen hst (by show 2 * 0 + _ ≤ _; omega) (hb hby hd) (fun _ _ => ⟨rfl, hh, hc, hs⟩)
  dsimp only [Pt.U, Pt.locs, Pt.cells, Pt.slots] at X' l1 y1 z1 stp hq
  subst l1 y1 z1
  exact go_by (fun _ r => stp.trans r) (k v T' Lc _ ⟨⟨_, X', Fr.app N (hQ _ _ _ hq)⟩, rfl, hx, hZ, hown, hby, hml, r⟩ hq)
/-- what a callee leaves that writes nothing -/
def PQ (r : Option Value) (h0 : Heap) (n0 : Nat) (v : Option Value) (h : Heap) (L : List Loc) : Prop := v = r ∧ Fr n0 L ∧ h = h0
theorem PQ.fr {r : Option Value} {h0 : Heap} : ∀ v h' L, PQ r h0 n0 v h' L → Fr n0 L := fun _ _ _ q => q.2.1
theorem PQ.k {r : Option Value} {cells' slots' : Nat} {q : Nat} (k : ∀ T', SD p l e R s m args below meth c Z y bytes ml ret n0 T' h cells' slots' → Go p e below E m T' q Ls (r.toList ++ rest)) : ∀ v T' L h', SD p l e R s m args below meth c Z y bytes ml ret n0 T' h' cells' slots' → PQ r h n0 v h' L → Go p e below E m T' q Ls (v.toList ++ rest) := fun v T' L h' X' hq => by
  obtain ⟨rfl, -, rfl⟩ := hq
  exact k T' X'
/-! ### from the case's words -/
theorem own_exa {t : Term} {C : String} (q : (Cond.exactly t C).value args s none s [] = some true) : ∃ a, t.eval args s none [] s = some (.ref a) ∧ Exa s s.heap a C := by
  obtain ⟨a, ev⟩ := exa_v q
  exact ⟨a, ev, Exa.start ev q⟩
theorem own_sta {C n d : String} {v : Value} (ev : (Term.static C n d).eval args s none [] s = some v) (w1 : (Cond.initialized C).before args s = true) (w2 : (Cond.laysStatic C n d).before args s = true) : Sta s s.heap C n d v := Sta.start ev (Or.inr ⟨w1, w2⟩)
theorem own_eqI {t : Term} {k : Int32} (q : (Cond.eq t (Term.int k)).value args s none s [] = some true) : t.eval args s none [] s = some (.int k) := by
  obtain ⟨x, z, h1, h2, -, h4⟩ := cmp_v (Or.inl q)
  have e2 : z = .int k := (Option.some.inj h2).symm
  subst e2
  obtain ⟨w, rfl⟩ : ∃ w, x = .int w := h4
  have q' := q
  simp only [Cond.value, h1, h2] at q'
  simp at q'
  rw [h1, q']
theorem own_fldI {t : Term} {C n d : String} {a : Addr} {k : Int32} (ev : t.eval args s none [] s = some (.ref a)) (q : (Cond.eq (Term.field t C n d) (Term.int k)).value args s none s [] = some true) : Fld s s.heap a C n d (.int k) := by
  have h1 := own_eqI q
  rw [fld_at ev] at h1
  exact Fld.start h1
theorem own_fldne {C n d : String} {a b : Addr} {j k : Int32} (F : Fld Z h a C n d (.int j)) (G : Fld Z h b C n d (.int k)) (q : j ≠ k) : a ≠ b := Fld.ne F G (fun z => q (Value.int.inj z))
theorem own_mod {x k : Int32} {n : Int} (hk : k.toInt = n) (hn : 0 < n) : 0 ≤ ((x &&& 2147483647) % k).toInt ∧ ((x &&& 2147483647) % k).toInt < n := by
  have h1 : (x &&& 2147483647).toInt = x.toInt % 2 ^ 31 := Jvm.Kit.i32_mask x 2147483647 (by decide) (by decide)
  have h2 : 0 ≤ (x &&& 2147483647).toInt := by rw [h1]; omega
  rw [Jvm.Kit.i32_rem_nonneg h2, hk]
  exact ⟨Int.emod_nonneg _ (by omega), Int.emod_lt_of_pos _ hn⟩
theorem own_lit {z k : Int32} {n : Int} (h : z.toInt = n) (hk : k.toInt = n) : z = k := Int32.toInt_inj.mp (h.trans hk.symm)
theorem own_len {t : Term} {a : Addr} {cl : Cell} {ty : FieldType} {k : Int32} (ev : t.eval args s none [] s = some (.ref a)) (A : Arr s s.heap a cl ty) (q : (Cond.eq (Term.length t) (Term.int k)).value args s none s [] = some true) : cl.slots.size.toInt32 = k := by
  have h1 := own_eqI q
  have h2 := A.fin (Vm.Alike.refl _)
  obtain ⟨a', cell, e1, e2, e3⟩ := Term.length_spec h1
  cases ev.symm.trans e1
  cases h2.symm.trans e2
  exact (Value.int.inj e3).symm
theorem own_elem {t u : Term} {a b : Addr} {cl : Cell} {ty : FieldType} {j : Int32} (ev : t.eval args s none [] s = some (.ref a)) (ev' : u.eval args s none [] s = some (.ref b)) (A : Arr s s.heap a cl ty) (q : (Cond.eq (Term.elem t (Term.int j)) u).value args s none s [] = some true) : ¬ (j < 0 ∨ cl.slots.size ≤ j.toNatClampNeg) ∧ cl.slots[j.toNatClampNeg]? = some (.ref b) := by
  obtain ⟨x, z, h1, h2, h3, h4⟩ := cmp_v (Or.inl q)
  cases h2.symm.trans ev'
  have hr : x.isRef = true := h4.2
  have e := gotT (eq_R h1 ev' hr rfl) q
  subst e
  exact elem_in h1 ev rfl A.1
/-- every place of the cell holds an int -/
def ICell (c : Cell) : Prop := ∀ i, i < c.slots.size → ∃ x, c.slots[i]? = some (.int x)
theorem ICell.new {cA : ClassId} {ty : FieldType} {n : Int32} (ht : ∃ x, defaultValue ty = .int x) : ICell (newA cA ty n) := by
  obtain ⟨x, hx⟩ := ht
  intro i hi
  refine ⟨x, ?_⟩
  rw [sz_new] at hi
  simp [newA, hx, hi]
theorem ICell.set {cl : Cell} {j : Nat} {x : Int32} (I : ICell cl) : ICell (cl.setSlot j (.int x)) := by
  intro i hi
  rw [sz_set] at hi
  obtain ⟨y, hy⟩ := I i hi
  by_cases e : j = i
  · subst e
    exact ⟨x, by simp [Cell.setSlot, hi]⟩
  · exact ⟨y, by simp only [Cell.setSlot]; rw [Array.getElem?_setIfInBounds_ne e]; exact hy⟩
theorem own_extwr {h0 h' : Heap} {a : Addr} {sl : Nat} {v : Value} (Ex : Ext h0 h) (W : Wr h h' a sl v) (q : h0.size ≤ a) : Ext h0 h' := by
  refine ⟨Nat.le_trans Ex.1 (Nat.le_of_eq W.size.symm), fun b c hb => ?_⟩
  obtain ⟨c', e1, -, -, -, e5, -⟩ := wr_at W (Ex.2 b c hb)
  rw [← e5 (fun z => Nat.lt_irrefl _ (Nat.lt_of_lt_of_le (Array.getElem?_eq_some_iff.mp hb).1 (z ▸ q)))]
  exact e1
theorem own_ext0 (h : Heap) : Ext h h := ⟨Nat.le_refl _, fun _ _ q => q⟩
theorem own_exttr {h1 h2 h3 : Heap} (A : Ext h1 h2) (B : Ext h2 h3) : Ext h1 h3 := ⟨Nat.le_trans A.1 B.1, fun a c q => B.2 a c (A.2 a c q)⟩
theorem own_in {cl : Cell} {n : Nat} {j : Int32} (z : cl.slots.size = n) (h1 : ¬ j < 0) (h2 : j.toNatClampNeg < n) : ¬ (j < 0 ∨ cl.slots.size ≤ j.toNatClampNeg) := fun q => q.elim h1 (fun r => by rw [z] at r; omega)
theorem own_in2 {cl : Cell} {n : Nat} {j : Int32} (z : cl.slots.size = n) (h0 : 0 ≤ j.toInt) (h1 : j.toInt < n) : ¬ (j < 0 ∨ cl.slots.size ≤ j.toNatClampNeg) := by
  refine own_in z (fun q => ?_) ?_
  · rw [Int32.lt_iff_toInt_lt] at q
    have e : (0 : Int32).toInt = 0 := rfl
    omega
  · show j.toInt.toNat < n
    omega
/-- what a callee leaves that writes one field of its object -/
def WQ (Z : State) (r : Option Value) (h0 : Heap) (n0 : Nat) (q : Addr) (C n d : String) (w : Value) (v : Option Value) (h : Heap) (L : List Loc) : Prop := v = r ∧ Fr n0 L ∧ Keep h0 h [q] ∧ Fld Z h q C n d w
theorem WQ.fr {r : Option Value} {h0 : Heap} {q : Addr} {C n d : String} {w : Value} : ∀ v h' L, WQ Z r h0 n0 q C n d w v h' L → Fr n0 L := fun _ _ _ z => z.2.1
/-- a private method by invokevirtual -/
theorem go_callP (X : SD p l e R s m args below meth c Z y bytes ml ret n0 T h cells slots) {y' : MethodName} {bytes' : ByteArray} {ml' i kk : Nat} {ret' : Option FieldType} {rm : Room} {as' : Array Value} {Q : Option Value → Heap → List Loc → Prop} {a : Addr} (W : Nat) (argsL rest : List Value)
    (w1 : (Cond.methodLink y.cls i y').before a0 Z = true) (w2 : (Cond.instanceMethod y').before a0 Z = true) (wp : (Cond.privateMethod y').before a0 Z = true) (wi : (Cond.instantiable y'.cls kk).before a0 Z = true) (w3 : (Cond.initialized y'.cls).before a0 Z = true) (w4 : (Cond.code y' bytes' ml' ret').before a0 Z = true) (hy : y'.cls ≠ "java/lang/invoke/MethodHandle" ∧ y'.cls ≠ "java/lang/invoke/VarHandle")
    (Ex : Exa Z h a y'.cls)
    (hM : MetFree l y' (head1 [Cond.code y' bytes' ml' ret'] rm) (fun a U => a = as' ∧ Z.Warmed39 U.vm ∧ U.heap = h) (fun _ _ _ _ _ => True) (fun _ U o U' => ∃ v L, o = .returned v ∧ Q v U'.heap L ∧ FrameEnd U o U' L rm.cells rm.slots))
    (hf : rm.frames + 1 ≤ R.frames) (hl : W + (ml' + 11) + rm.locals ≤ R.locals) (hsz : Ls.size = ml) (hlen : ∀ sig, parseMethodDescriptor y'.desc = some sig → argsL.length = sig.parameters.length) (has : (Value.ref a :: argsL).toArray = as') (hst : st = argsL.reverse ++ .ref a :: rest) (hW : (rest.map fun v => v.category).sum ≤ W) (hd : decode bytes pc = .ok (.invokevirtual i, 3)) (hc : cells + rm.cells ≤ R.cells) (hs : slots + rm.slots ≤ R.slots) (q : Nat) (hq : pc + 3 = q)
    (hQ : ∀ v h' L, Q v h' L → Fr n0 L)
    (k : ∀ v T' L h', SD p l e R s m args below meth c Z y bytes ml ret n0 T' h' (cells + rm.cells) (slots + rm.slots) → Q v h' L → Go p e below E m T' q Ls (v.toList ++ rest)) : Go p e below E m T pc Ls st := by
  obtain ⟨⟨locs, X, N⟩, hh, hx, hZ, hown, hby, hml, r⟩ := X
  subst hq has
  obtain ⟨cell, hcell, hobj⟩ := Ex.cell
  have hpriv : s.PrivateAt y' := Cond.privateMethod_at (mvP hZ wp (args := #[]))
  obtain ⟨cI, kI, i1, i2, -, i4, -⟩ := Cond.instantiable_spec (mvT (args := args) hZ wi)
  have hni : kI.isInterface = false := by
    cases hb2 : kI.isInterface
    · rfl
    · rw [hb2] at i4; cases i4
  have hsel : (Cond.selects y'.cls y' y').before args s = true := selects_self_of_private i1 i2 hni hpriv (mvT hZ w2) hy
  obtain ⟨v, _, ⟨T', L', k', n'⟩, -, X', ⟨Lc, hq, l1, y1, z1⟩, stp⟩ := X.privateBack hx (y := y') hown (mvT hZ w1) (mvT hZ w2) hsel hpriv (mvT hZ w4) hy (backOf (W := W) hM hZ w4 w3 hf hl) (g := mkF m pc Ls st) rfl (hsz.trans hml.symm) (Steps.refl _) (a := a) (cell := cell) (by rw [hh]; exact hcell) hobj (argsL := argsL) (rest := rest) hlen hst (by show 2 * 0 + _ ≤ _; omega) (hb hby hd) (fun _ _ => ⟨rfl, hh, hc, hs⟩)
  dsimp only [Pt.U, Pt.locs, Pt.cells, Pt.slots] at X' l1 y1 z1 stp hq
  subst l1 y1 z1
  exact go_by (fun _ r => stp.trans r) (k v T' Lc _ ⟨⟨_, X', Fr.app N (hQ _ _ _ hq)⟩, rfl, hx, hZ, hown, hby, hml, r⟩ hq)
theorem own_eqL {t : Term} {k : Int64} (q : (Cond.eq t (Term.long k)).value args s none s [] = some true) : t.eval args s none [] s = some (.long k) := by
  obtain ⟨x, z, h1, h2, -, h4⟩ := cmp_v (Or.inl q)
  have e2 : z = .long k := (Option.some.inj h2).symm
  subst e2
  obtain ⟨w, rfl⟩ : ∃ w, x = .long w := h4
  have e := gotT (eq_L h1 h2) q
  rw [h1, e]
/-! ### arrays by a function of the place -/
def AA (Z : State) (h : Heap) (a : Addr) (ty : FieldType) (n : Nat) (f : Nat → Value) : Prop := ∃ cl : Cell, Arr Z h a cl ty ∧ cl.slots.size = n ∧ ∀ i, i < n → cl.slots[i]? = some (f i)
theorem AA.ext {h' : Heap} {a : Addr} {ty : FieldType} {n : Nat} {f : Nat → Value} (A : AA Z h a ty n f) (Ex : Ext h h') : AA Z h' a ty n f := by
  obtain ⟨cl, A, r⟩ := A
  exact ⟨cl, A.ext Ex, r⟩
theorem AA.keep {h' : Heap} {a : Addr} {ty : FieldType} {n : Nat} {f : Nat → Value} {ws : List Addr} (A : AA Z h a ty n f) (K : Keep h h' ws) (q : a ∉ ws) : AA Z h' a ty n f := by
  obtain ⟨cl, A, r⟩ := A
  exact ⟨cl, ⟨K.2.1 a cl A.1 q, A.2⟩, r⟩
theorem AA.other {h' : Heap} {a b : Addr} {ty : FieldType} {n sl : Nat} {f : Nat → Value} {v : Value} (A : AA Z h a ty n f) (W : Wr h h' b sl v) (q : a ≠ b) : AA Z h' a ty n f := by
  obtain ⟨cl, A, r⟩ := A
  exact ⟨cl, A.other W q, r⟩
theorem AA.lt {a : Addr} {ty : FieldType} {n : Nat} {f : Nat → Value} (A : AA Z h a ty n f) : a < h.size := by
  obtain ⟨cl, A, -⟩ := A
  exact A.lt
theorem AA.fn {a : Addr} {ty : FieldType} {n : Nat} {f g : Nat → Value} (A : AA Z h a ty n f) (q : ∀ i, i < n → f i = g i) : AA Z h a ty n g := by
  obtain ⟨cl, A, hs, r⟩ := A
  exact ⟨cl, A, hs, fun i hi => by rw [← q i hi]; exact r i hi⟩
theorem AA.new {a : Addr} {cA : ClassId} {ty : FieldType} {z : Int32} {n : Nat} (A : Arr Z h a (newA cA ty z) ty) (hz : z.toNatClampNeg = n) : AA Z h a ty n (fun _ => defaultValue ty) := by
  refine ⟨_, A, (sz_new _ _ _).trans hz, fun i hi => ?_⟩
  simp [newA, hz, hi]
theorem clamp_of {j : Int32} (h0 : 0 ≤ j.toInt) : ¬ j < 0 ∧ j.toNatClampNeg = j.toInt.toNat := by
  refine ⟨fun q => ?_, rfl⟩
  rw [Int32.lt_iff_toInt_lt] at q
  have e : (0 : Int32).toInt = 0 := rfl
  omega
theorem AA.set {h' : Heap} {a : Addr} {cl : Cell} {ty : FieldType} {n : Nat} {f : Nat → Value} {j : Nat} {v : Value} (A : Arr Z h a cl ty) (hs : cl.slots.size = n) (r : ∀ i, i < n → cl.slots[i]? = some (f i)) (W : Wr h h' a j v) (hj : j < n) : AA Z h' a ty n (fun i => if i = j then v else f i) := by
  refine ⟨_, A.same W, (sz_set _ _ _).trans hs, fun i hi => ?_⟩
  by_cases e : i = j
  · subst e
    simp [Cell.setSlot, hs, hi]
  · simp only [Cell.setSlot]
    rw [Array.getElem?_setIfInBounds_ne (Ne.symm e), r i hi]
    simp [e]
theorem go_setB (X : SD p l e R s m args below meth c Z y bytes ml ret n0 T h cells slots) {a : Addr} {n : Nat} {f : Nat → Value} {j x : Int32} (A : AA Z h a .byte n f) (hj0 : 0 ≤ j.toInt) (hj1 : j.toInt < n) (ha : n0 ≤ a) (hd : decode bytes pc = .ok (.bastore, 1)) (q : Nat) (hq : pc + 1 = q)
    (k : ∀ T' h', SD p l e R s m args below meth c Z y bytes ml ret n0 T' h' cells slots → Keep h h' [a] → AA Z h' a .byte n (fun i => if i = j.toInt.toNat then .int (nar .byte x) else f i) → Go p e below E m T' q Ls st) : Go p e below E m T pc Ls (.int x :: .int j :: .ref a :: st) := by
  obtain ⟨cl, A, hs, r⟩ := A
  exact go_stB X A (own_in2 hs hj0 hj1) ha hd q hq (fun T' h' X' W => k T' h' X' (Keep.of_wr W) (AA.set A hs r W (by show j.toInt.toNat < n; omega)))
theorem go_setJ (X : SD p l e R s m args below meth c Z y bytes ml ret n0 T h cells slots) {a : Addr} {n : Nat} {f : Nat → Value} {j : Int32} {x : Int64} (A : AA Z h a .long n f) (hj0 : 0 ≤ j.toInt) (hj1 : j.toInt < n) (ha : n0 ≤ a) (hd : decode bytes pc = .ok (.lastore, 1)) (q : Nat) (hq : pc + 1 = q)
    (k : ∀ T' h', SD p l e R s m args below meth c Z y bytes ml ret n0 T' h' cells slots → Wr h h' a j.toInt.toNat (.long x) → AA Z h' a .long n (fun i => if i = j.toInt.toNat then .long x else f i) → Go p e below E m T' q Ls st) : Go p e below E m T pc Ls (.long x :: .int j :: .ref a :: st) := by
  obtain ⟨cl, A, hs, r⟩ := A
  exact go_stJ X A (own_in2 hs hj0 hj1) ha hd q hq (fun T' h' X' W => k T' h' X' W (AA.set A hs r W (by show j.toInt.toNat < n; omega)))
theorem go_getJ (X : SD p l e R s m args below meth c Z y bytes ml ret n0 T h cells slots) {a : Addr} {n : Nat} {f : Nat → Value} {j : Int32} {v : Value} (A : AA Z h a .long n f) (hj0 : 0 ≤ j.toInt) (hj1 : j.toInt < n) (hv : f j.toInt.toNat = v) (hd : decode bytes pc = .ok (.laload, 1)) (q : Nat) (hq : pc + 1 = q)
    (k : Go p e below E m T q Ls (v :: st)) : Go p e below E m T pc Ls (.int j :: .ref a :: st) := by
  obtain ⟨cl, A, hs, r⟩ := A
  exact go_laload X A (own_in2 hs hj0 hj1) (by rw [← hv]; exact r _ (by show j.toInt.toNat < n; omega)) hd q hq k
theorem go_getB (X : SD p l e R s m args below meth c Z y bytes ml ret n0 T h cells slots) {a : Addr} {n : Nat} {f : Nat → Value} {j : Int32} {v : Value} (A : AA Z h a .byte n f) (hj0 : 0 ≤ j.toInt) (hj1 : j.toInt < n) (hv : f j.toInt.toNat = v) (hd : decode bytes pc = .ok (.baload, 1)) (q : Nat) (hq : pc + 1 = q)
    (k : Go p e below E m T q Ls (v :: st)) : Go p e below E m T pc Ls (.int j :: .ref a :: st) := by
  obtain ⟨cl, A, hs, r⟩ := A
  exact go_baload X A (own_in2 hs hj0 hj1) (by rw [← hv]; exact r _ (by show j.toInt.toNat < n; omega)) hd q hq k
end OwnKit
end Jvm.RoadKit
namespace Jvm.Pilot.@@N@@
open Jvm Jvm.ClassFile Sem Op Lib Jvm.Free Jvm.Stand Jvm.LawKit Jvm.RoadKit Bundle Jvm.Pilot.@@N@@.Jvm.D
theorem go_initO {p : Program} {l : Launch} {e : Env} {R : Room} {s : State} {m : MethodId} {args : Array Value} {below : List Frame} {meth : Method} {c : Code} {Z : State} {y : MethodName} {bytes : ByteArray} {ml : Nat} {ret : Option FieldType} {n0 : Nat} {T : State} {h : Heap} {cells slots : Nat} {E : State → Prop} {pc : Nat} {Ls : Array Slot} {st : List Value} {a0 : Array Value} (X : SD p l e R s m args below meth c Z y bytes ml ret n0 T h cells slots) {i : Nat} {a : Addr} (W : Nat) (w1 : (Cond.methodLink y.cls i Lib.objectInit).before a0 Z = true) (w2 : (Cond.instanceMethod Lib.objectInit).before a0 Z = true) (w3 : (Cond.code Lib.objectInit object_method_1_code 1 none).before a0 Z = true) (hsz : Ls.size = ml) (hd : decode bytes pc = .ok (.invokespecial i, 3)) (hf : 1 ≤ R.frames) (hW : (st.map fun v => v.category).sum ≤ W) (hl : W + 12 ≤ R.locals) (q : Nat) (hq : pc + 3 = q)
    (k : ∀ T', SD p l e R s m args below meth c Z y bytes ml ret n0 T' h cells slots → Go p e below E m T' q Ls st) : Go p e below E m T pc Ls (.ref a :: st) := by
  obtain ⟨⟨locs, X, N⟩, hh, hx, hZ, hown, hby, hml, r⟩ := X
  subst hq
  obtain ⟨T', X', e', stp⟩ := initO X hx hZ hown w1 w2 w3 hh (g := mkF m pc Ls (.ref a :: st)) rfl (hsz.trans hml.symm) rfl (hb hby hd) hf (W := W) (by show 2 * 0 + _ ≤ _; omega) hl
  exact go_by (fun _ r => stp _ r) (k T' ⟨⟨locs, X', N⟩, e', hx, hZ, hown, hby, hml, r⟩)
theorem d1_0 : decode jdk_30_method_1_code 0 = .ok (.aload_n 0, 1) := by decide +kernel
theorem d1_1 : decode jdk_30_method_1_code 1 = .ok (.invokespecial 1, 3) := by decide +kernel
theorem d1_4 : decode jdk_30_method_1_code 4 = .ok (.return_, 1) := by decide +kernel
theorem d2_0 : decode jdk_29_method_69_code 0 = .ok (.iload_n 0, 1) := by decide +kernel
theorem d2_1 : decode jdk_29_method_69_code 1 = .ok (.iload_n 1, 1) := by decide +kernel
theorem d2_2 : decode jdk_29_method_69_code 2 = .ok (.if_icmp .gt 7, 3) := by decide +kernel
theorem d2_5 : decode jdk_29_method_69_code 5 = .ok (.iload_n 0, 1) := by decide +kernel
theorem d2_6 : decode jdk_29_method_69_code 6 = .ok (.goto 4, 3) := by decide +kernel
theorem d2_9 : decode jdk_29_method_69_code 9 = .ok (.iload_n 1, 1) := by decide +kernel
theorem d2_10 : decode jdk_29_method_69_code 10 = .ok (.ireturn, 1) := by decide +kernel
theorem d3_0 : decode prog_4_method_1_code 0 = .ok (.aload_n 0, 1) := by decide +kernel
theorem d3_1 : decode prog_4_method_1_code 1 = .ok (.invokespecial 1, 3) := by decide +kernel
theorem d3_4 : decode prog_4_method_1_code 4 = .ok (.iload_n 3, 1) := by decide +kernel
theorem d3_5 : decode prog_4_method_1_code 5 = .ok (.i2l, 1) := by decide +kernel
theorem d3_6 : decode prog_4_method_1_code 6 = .ok (.iload 4, 2) := by decide +kernel
theorem d3_8 : decode prog_4_method_1_code 8 = .ok (.i2l, 1) := by decide +kernel
theorem d3_9 : decode prog_4_method_1_code 9 = .ok (.ladd, 1) := by decide +kernel
theorem d3_10 : decode prog_4_method_1_code 10 = .ok (.iload 5, 2) := by decide +kernel
theorem d3_12 : decode prog_4_method_1_code 12 = .ok (.i2l, 1) := by decide +kernel
theorem d3_13 : decode prog_4_method_1_code 13 = .ok (.ladd, 1) := by decide +kernel
theorem d3_14 : decode prog_4_method_1_code 14 = .ok (.iload 6, 2) := by decide +kernel
theorem d3_16 : decode prog_4_method_1_code 16 = .ok (.i2l, 1) := by decide +kernel
theorem d3_17 : decode prog_4_method_1_code 17 = .ok (.ladd, 1) := by decide +kernel
theorem d3_18 : decode prog_4_method_1_code 18 = .ok (.lstore 7, 2) := by decide +kernel
theorem d3_20 : decode prog_4_method_1_code 20 = .ok (.iload_n 3, 1) := by decide +kernel
theorem d3_21 : decode prog_4_method_1_code 21 = .ok (.iconst 1, 1) := by decide +kernel
theorem d3_22 : decode prog_4_method_1_code 22 = .ok (.if_icmp .lt 27, 3) := by decide +kernel
theorem d3_25 : decode prog_4_method_1_code 25 = .ok (.iload 4, 2) := by decide +kernel
theorem d3_27 : decode prog_4_method_1_code 27 = .ok (.iload 5, 2) := by decide +kernel
theorem d3_29 : decode prog_4_method_1_code 29 = .ok (.invokestatic 7, 3) := by decide +kernel
theorem d3_32 : decode prog_4_method_1_code 32 = .ok (.iload 6, 2) := by decide +kernel
theorem d3_34 : decode prog_4_method_1_code 34 = .ok (.invokestatic 7, 3) := by decide +kernel
theorem d3_37 : decode prog_4_method_1_code 37 = .ok (.ifCond .lt 12, 3) := by decide +kernel
theorem d3_40 : decode prog_4_method_1_code 40 = .ok (.lload 7, 2) := by decide +kernel
theorem d3_42 : decode prog_4_method_1_code 42 = .ok (.ldc2_w 13, 3) := by decide +kernel
theorem d3_45 : decode prog_4_method_1_code 45 = .ok (.lcmp, 1) := by decide +kernel
theorem d3_46 : decode prog_4_method_1_code 46 = .ok (.ifCond .eq 25, 3) := by decide +kernel
theorem d3_71 : decode prog_4_method_1_code 71 = .ok (.lload_n 1, 1) := by decide +kernel
theorem d3_72 : decode prog_4_method_1_code 72 = .ok (.getstatic 24, 3) := by decide +kernel
theorem d3_75 : decode prog_4_method_1_code 75 = .ok (.lcmp, 1) := by decide +kernel
theorem d3_76 : decode prog_4_method_1_code 76 = .ok (.ifCond .ge 26, 3) := by decide +kernel
theorem d3_102 : decode prog_4_method_1_code 102 = .ok (.aload_n 0, 1) := by decide +kernel
theorem d3_103 : decode prog_4_method_1_code 103 = .ok (.lload_n 1, 1) := by decide +kernel
theorem d3_104 : decode prog_4_method_1_code 104 = .ok (.putfield 37, 3) := by decide +kernel
theorem d3_107 : decode prog_4_method_1_code 107 = .ok (.aload_n 0, 1) := by decide +kernel
theorem d3_108 : decode prog_4_method_1_code 108 = .ok (.iload_n 3, 1) := by decide +kernel
theorem d3_109 : decode prog_4_method_1_code 109 = .ok (.putfield 40, 3) := by decide +kernel
theorem d3_112 : decode prog_4_method_1_code 112 = .ok (.aload_n 0, 1) := by decide +kernel
theorem d3_113 : decode prog_4_method_1_code 113 = .ok (.iload 4, 2) := by decide +kernel
theorem d3_115 : decode prog_4_method_1_code 115 = .ok (.putfield 44, 3) := by decide +kernel
theorem d3_118 : decode prog_4_method_1_code 118 = .ok (.aload_n 0, 1) := by decide +kernel
theorem d3_119 : decode prog_4_method_1_code 119 = .ok (.iload 5, 2) := by decide +kernel
theorem d3_121 : decode prog_4_method_1_code 121 = .ok (.putfield 47, 3) := by decide +kernel
theorem d3_124 : decode prog_4_method_1_code 124 = .ok (.aload_n 0, 1) := by decide +kernel
theorem d3_125 : decode prog_4_method_1_code 125 = .ok (.iload 6, 2) := by decide +kernel
theorem d3_127 : decode prog_4_method_1_code 127 = .ok (.putfield 50, 3) := by decide +kernel
theorem d3_130 : decode prog_4_method_1_code 130 = .ok (.return_, 1) := by decide +kernel
theorem d4_0 : decode prog_4_method_18_code 0 = .ok (.aload_n 0, 1) := by decide +kernel
theorem d4_1 : decode prog_4_method_18_code 1 = .ok (.getfield 44, 3) := by decide +kernel
theorem d4_4 : decode prog_4_method_18_code 4 = .ok (.aload_n 0, 1) := by decide +kernel
theorem d4_5 : decode prog_4_method_18_code 5 = .ok (.getfield 47, 3) := by decide +kernel
theorem d4_8 : decode prog_4_method_18_code 8 = .ok (.iadd, 1) := by decide +kernel
theorem d4_9 : decode prog_4_method_18_code 9 = .ok (.ireturn, 1) := by decide +kernel
theorem d5_0 : decode prog_4_method_5_code 0 = .ok (.lconst 1, 1) := by decide +kernel
theorem d5_1 : decode prog_4_method_5_code 1 = .ok (.aload_n 0, 1) := by decide +kernel
theorem d5_2 : decode prog_4_method_5_code 2 = .ok (.invokevirtual 64, 3) := by decide +kernel
theorem d5_5 : decode prog_4_method_5_code 5 = .ok (.lshl, 1) := by decide +kernel
theorem d5_6 : decode prog_4_method_5_code 6 = .ok (.lconst 1, 1) := by decide +kernel
theorem d5_7 : decode prog_4_method_5_code 7 = .ok (.lsub, 1) := by decide +kernel
theorem d5_8 : decode prog_4_method_5_code 8 = .ok (.lreturn, 1) := by decide +kernel
theorem d6_0 : decode prog_4_method_11_code 0 = .ok (.lload_n 1, 1) := by decide +kernel
theorem d6_1 : decode prog_4_method_11_code 1 = .ok (.aload_n 0, 1) := by decide +kernel
theorem d6_2 : decode prog_4_method_11_code 2 = .ok (.getfield 50, 3) := by decide +kernel
theorem d6_5 : decode prog_4_method_11_code 5 = .ok (.lushr, 1) := by decide +kernel
theorem d6_6 : decode prog_4_method_11_code 6 = .ok (.aload_n 0, 1) := by decide +kernel
theorem d6_7 : decode prog_4_method_11_code 7 = .ok (.invokevirtual 68, 3) := by decide +kernel
theorem d6_10 : decode prog_4_method_11_code 10 = .ok (.land, 1) := by decide +kernel
theorem d6_11 : decode prog_4_method_11_code 11 = .ok (.lreturn, 1) := by decide +kernel
theorem pd_0 : parseMethodDescriptor "()V" = some ⟨[], none⟩ := by decide +kernel
theorem pd_1 : parseMethodDescriptor "(II)I" = some ⟨[.int, .int], some .int⟩ := by decide +kernel
theorem pd_2 : parseMethodDescriptor "()I" = some ⟨[], some .int⟩ := by decide +kernel
theorem pd_3 : parseMethodDescriptor "()J" = some ⟨[], some .long⟩ := by decide +kernel
theorem pd_4 : parseMethodDescriptor "(JIIII)V" = some ⟨[.long, .int, .int, .int, .int], none⟩ := by decide +kernel
theorem pd_5 : parseMethodDescriptor "(J)J" = some ⟨[.long], some .long⟩ := by decide +kernel
theorem wd0 {a0 : Array Value} {Z : State} (hw : ∀ d ∈ tables_1, d.before a0 Z = true) : (Jvm.Cond.constant "com/example/ordo/ordo/LayoutNodePinLaw" (7 : Nat) (2147483647 : Int32)).before a0 Z = true := hw _ (List.mem_of_getElem? (i := 0) rfl)
theorem wd1 {a0 : Array Value} {Z : State} (hw : ∀ d ∈ tables_1, d.before a0 Z = true) : (Jvm.Cond.classLink "com/example/ordo/ordo/LayoutNodePinLaw" (8 : Nat) "com/example/ordo/ordo/Layout").before a0 Z = true := hw _ (List.mem_of_getElem? (i := 1) rfl)
theorem wd2 {a0 : Array Value} {Z : State} (hw : ∀ d ∈ tables_1, d.before a0 Z = true) : (Jvm.Cond.instantiable "com/example/ordo/ordo/Layout" (5 : Nat)).before a0 Z = true := hw _ (List.mem_of_getElem? (i := 2) rfl)
theorem wd3 {a0 : Array Value} {Z : State} (hw : ∀ d ∈ tables_1, d.before a0 Z = true) : (Jvm.Cond.initialized "com/example/ordo/ordo/Layout").before a0 Z = true := hw _ (List.mem_of_getElem? (i := 3) rfl)
theorem wd4 {a0 : Array Value} {Z : State} (hw : ∀ d ∈ tables_1, d.before a0 Z = true) : (Jvm.Cond.methodLink "com/example/ordo/ordo/LayoutNodePinLaw" (10 : Nat) ({ cls := "com/example/ordo/ordo/Layout", name := "<init>", desc := "(JIIII)V" } : Jvm.MethodName)).before a0 Z = true := hw _ (List.mem_of_getElem? (i := 4) rfl)
theorem wd5 {a0 : Array Value} {Z : State} (hw : ∀ d ∈ tables_1, d.before a0 Z = true) : (Jvm.Cond.instanceMethod ({ cls := "com/example/ordo/ordo/Layout", name := "<init>", desc := "(JIIII)V" } : Jvm.MethodName)).before a0 Z = true := hw _ (List.mem_of_getElem? (i := 5) rfl)
theorem wd6 {a0 : Array Value} {Z : State} (hw : ∀ d ∈ tables_1, d.before a0 Z = true) : (Jvm.Cond.code ({ cls := "com/example/ordo/ordo/Layout", name := "<init>", desc := "(JIIII)V" } : Jvm.MethodName) prog_4_method_1_code (9 : Nat) (Option.none : Option Jvm.ClassFile.FieldType)).before a0 Z = true := hw _ (List.mem_of_getElem? (i := 6) rfl)
theorem wd7 {a0 : Array Value} {Z : State} (hw : ∀ d ∈ tables_1, d.before a0 Z = true) : (Jvm.Cond.methodLink "com/example/ordo/ordo/Layout" (1 : Nat) ({ cls := "java/lang/Record", name := "<init>", desc := "()V" } : Jvm.MethodName)).before a0 Z = true := hw _ (List.mem_of_getElem? (i := 7) rfl)
theorem wd8 {a0 : Array Value} {Z : State} (hw : ∀ d ∈ tables_1, d.before a0 Z = true) : (Jvm.Cond.instanceMethod ({ cls := "java/lang/Record", name := "<init>", desc := "()V" } : Jvm.MethodName)).before a0 Z = true := hw _ (List.mem_of_getElem? (i := 8) rfl)
theorem wd10 {a0 : Array Value} {Z : State} (hw : ∀ d ∈ tables_1, d.before a0 Z = true) : (Jvm.Cond.initialized "java/lang/Record").before a0 Z = true := hw _ (List.mem_of_getElem? (i := 10) rfl)
theorem wd11 {a0 : Array Value} {Z : State} (hw : ∀ d ∈ tables_1, d.before a0 Z = true) : (Jvm.Cond.code ({ cls := "java/lang/Record", name := "<init>", desc := "()V" } : Jvm.MethodName) jdk_30_method_1_code (1 : Nat) (Option.none : Option Jvm.ClassFile.FieldType)).before a0 Z = true := hw _ (List.mem_of_getElem? (i := 11) rfl)
theorem wd12 {a0 : Array Value} {Z : State} (hw : ∀ d ∈ tables_1, d.before a0 Z = true) : (Jvm.Cond.methodLink "java/lang/Record" (1 : Nat) ({ cls := "java/lang/Object", name := "<init>", desc := "()V" } : Jvm.MethodName)).before a0 Z = true := hw _ (List.mem_of_getElem? (i := 12) rfl)
theorem wd13 {a0 : Array Value} {Z : State} (hw : ∀ d ∈ tables_1, d.before a0 Z = true) : (Jvm.Cond.instanceMethod ({ cls := "java/lang/Object", name := "<init>", desc := "()V" } : Jvm.MethodName)).before a0 Z = true := hw _ (List.mem_of_getElem? (i := 13) rfl)
theorem wd14 {a0 : Array Value} {Z : State} (hw : ∀ d ∈ tables_1, d.before a0 Z = true) : (Jvm.Cond.code ({ cls := "java/lang/Object", name := "<init>", desc := "()V" } : Jvm.MethodName) object_method_1_code (1 : Nat) (Option.none : Option Jvm.ClassFile.FieldType)).before a0 Z = true := hw _ (List.mem_of_getElem? (i := 14) rfl)
theorem wd15 {a0 : Array Value} {Z : State} (hw : ∀ d ∈ tables_1, d.before a0 Z = true) : (Jvm.Cond.methodLink "com/example/ordo/ordo/Layout" (7 : Nat) ({ cls := "java/lang/Math", name := "min", desc := "(II)I" } : Jvm.MethodName)).before a0 Z = true := hw _ (List.mem_of_getElem? (i := 15) rfl)
theorem wd16 {a0 : Array Value} {Z : State} (hw : ∀ d ∈ tables_1, d.before a0 Z = true) : (Jvm.Cond.static ({ cls := "java/lang/Math", name := "min", desc := "(II)I" } : Jvm.MethodName)).before a0 Z = true := hw _ (List.mem_of_getElem? (i := 16) rfl)
theorem wd17 {a0 : Array Value} {Z : State} (hw : ∀ d ∈ tables_1, d.before a0 Z = true) : (Jvm.Cond.initialized "java/lang/Math").before a0 Z = true := hw _ (List.mem_of_getElem? (i := 17) rfl)
theorem wd18 {a0 : Array Value} {Z : State} (hw : ∀ d ∈ tables_1, d.before a0 Z = true) : (Jvm.Cond.code ({ cls := "java/lang/Math", name := "min", desc := "(II)I" } : Jvm.MethodName) jdk_29_method_69_code (2 : Nat) (Option.some Jvm.ClassFile.FieldType.int)).before a0 Z = true := hw _ (List.mem_of_getElem? (i := 18) rfl)
theorem wd19 {a0 : Array Value} {Z : State} (hw : ∀ d ∈ tables_1, d.before a0 Z = true) : (Jvm.Cond.constantLong "com/example/ordo/ordo/Layout" (13 : Nat) (63 : Int64)).before a0 Z = true := hw _ (List.mem_of_getElem? (i := 19) rfl)
theorem wd20 {a0 : Array Value} {Z : State} (hw : ∀ d ∈ tables_1, d.before a0 Z = true) : (Jvm.Cond.fieldLink "com/example/ordo/ordo/Layout" (24 : Nat) "com/example/ordo/ordo/Layout" "FIRST_EPOCH" "J").before a0 Z = true := hw _ (List.mem_of_getElem? (i := 20) rfl)
theorem wd21 {a0 : Array Value} {Z : State} (hw : ∀ d ∈ tables_1, d.before a0 Z = true) : (Jvm.Cond.laysStatic "com/example/ordo/ordo/Layout" "FIRST_EPOCH" "J").before a0 Z = true := hw _ (List.mem_of_getElem? (i := 21) rfl)
theorem wd22 {a0 : Array Value} {Z : State} (hw : ∀ d ∈ tables_1, d.before a0 Z = true) : (Jvm.Cond.fieldLink "com/example/ordo/ordo/Layout" (37 : Nat) "com/example/ordo/ordo/Layout" "epochMillis" "J").before a0 Z = true := hw _ (List.mem_of_getElem? (i := 22) rfl)
theorem wd23 {a0 : Array Value} {Z : State} (hw : ∀ d ∈ tables_1, d.before a0 Z = true) : (Jvm.Cond.laysFinal "com/example/ordo/ordo/Layout" "com/example/ordo/ordo/Layout" "epochMillis" "J").before a0 Z = true := hw _ (List.mem_of_getElem? (i := 23) rfl)
theorem wd24 {a0 : Array Value} {Z : State} (hw : ∀ d ∈ tables_1, d.before a0 Z = true) : (Jvm.Cond.fieldLink "com/example/ordo/ordo/Layout" (40 : Nat) "com/example/ordo/ordo/Layout" "timeBits" "I").before a0 Z = true := hw _ (List.mem_of_getElem? (i := 24) rfl)
theorem wd25 {a0 : Array Value} {Z : State} (hw : ∀ d ∈ tables_1, d.before a0 Z = true) : (Jvm.Cond.laysFinal "com/example/ordo/ordo/Layout" "com/example/ordo/ordo/Layout" "timeBits" "I").before a0 Z = true := hw _ (List.mem_of_getElem? (i := 25) rfl)
theorem wd26 {a0 : Array Value} {Z : State} (hw : ∀ d ∈ tables_1, d.before a0 Z = true) : (Jvm.Cond.fieldLink "com/example/ordo/ordo/Layout" (44 : Nat) "com/example/ordo/ordo/Layout" "datacenterBits" "I").before a0 Z = true := hw _ (List.mem_of_getElem? (i := 26) rfl)
theorem wd27 {a0 : Array Value} {Z : State} (hw : ∀ d ∈ tables_1, d.before a0 Z = true) : (Jvm.Cond.laysFinal "com/example/ordo/ordo/Layout" "com/example/ordo/ordo/Layout" "datacenterBits" "I").before a0 Z = true := hw _ (List.mem_of_getElem? (i := 27) rfl)
theorem wd28 {a0 : Array Value} {Z : State} (hw : ∀ d ∈ tables_1, d.before a0 Z = true) : (Jvm.Cond.fieldLink "com/example/ordo/ordo/Layout" (47 : Nat) "com/example/ordo/ordo/Layout" "workerBits" "I").before a0 Z = true := hw _ (List.mem_of_getElem? (i := 28) rfl)
theorem wd29 {a0 : Array Value} {Z : State} (hw : ∀ d ∈ tables_1, d.before a0 Z = true) : (Jvm.Cond.laysFinal "com/example/ordo/ordo/Layout" "com/example/ordo/ordo/Layout" "workerBits" "I").before a0 Z = true := hw _ (List.mem_of_getElem? (i := 29) rfl)
theorem wd30 {a0 : Array Value} {Z : State} (hw : ∀ d ∈ tables_1, d.before a0 Z = true) : (Jvm.Cond.fieldLink "com/example/ordo/ordo/Layout" (50 : Nat) "com/example/ordo/ordo/Layout" "sequenceBits" "I").before a0 Z = true := hw _ (List.mem_of_getElem? (i := 30) rfl)
theorem wd31 {a0 : Array Value} {Z : State} (hw : ∀ d ∈ tables_1, d.before a0 Z = true) : (Jvm.Cond.laysFinal "com/example/ordo/ordo/Layout" "com/example/ordo/ordo/Layout" "sequenceBits" "I").before a0 Z = true := hw _ (List.mem_of_getElem? (i := 31) rfl)
theorem wd32 {a0 : Array Value} {Z : State} (hw : ∀ d ∈ tables_1, d.before a0 Z = true) : (Jvm.Cond.methodLink "com/example/ordo/ordo/LayoutNodePinLaw" (13 : Nat) ({ cls := "com/example/ordo/ordo/Layout", name := "node", desc := "(J)J" } : Jvm.MethodName)).before a0 Z = true := hw _ (List.mem_of_getElem? (i := 32) rfl)
theorem wd33 {a0 : Array Value} {Z : State} (hw : ∀ d ∈ tables_1, d.before a0 Z = true) : (Jvm.Cond.declares ({ cls := "com/example/ordo/ordo/Layout", name := "node", desc := "(J)J" } : Jvm.MethodName)).before a0 Z = true := hw _ (List.mem_of_getElem? (i := 33) rfl)
theorem wd34 {a0 : Array Value} {Z : State} (hw : ∀ d ∈ tables_1, d.before a0 Z = true) : (Jvm.Cond.instanceMethod ({ cls := "com/example/ordo/ordo/Layout", name := "node", desc := "(J)J" } : Jvm.MethodName)).before a0 Z = true := hw _ (List.mem_of_getElem? (i := 34) rfl)
theorem wd35 {a0 : Array Value} {Z : State} (hw : ∀ d ∈ tables_1, d.before a0 Z = true) : (Jvm.Cond.selects "com/example/ordo/ordo/Layout" ({ cls := "com/example/ordo/ordo/Layout", name := "node", desc := "(J)J" } : Jvm.MethodName) ({ cls := "com/example/ordo/ordo/Layout", name := "node", desc := "(J)J" } : Jvm.MethodName)).before a0 Z = true := hw _ (List.mem_of_getElem? (i := 35) rfl)
theorem wd36 {a0 : Array Value} {Z : State} (hw : ∀ d ∈ tables_1, d.before a0 Z = true) : (Jvm.Cond.code ({ cls := "com/example/ordo/ordo/Layout", name := "node", desc := "(J)J" } : Jvm.MethodName) prog_4_method_11_code (3 : Nat) (Option.some Jvm.ClassFile.FieldType.long)).before a0 Z = true := hw _ (List.mem_of_getElem? (i := 36) rfl)
theorem wd37 {a0 : Array Value} {Z : State} (hw : ∀ d ∈ tables_1, d.before a0 Z = true) : (Jvm.Cond.methodLink "com/example/ordo/ordo/Layout" (68 : Nat) ({ cls := "com/example/ordo/ordo/Layout", name := "maxNode", desc := "()J" } : Jvm.MethodName)).before a0 Z = true := hw _ (List.mem_of_getElem? (i := 37) rfl)
theorem wd38 {a0 : Array Value} {Z : State} (hw : ∀ d ∈ tables_1, d.before a0 Z = true) : (Jvm.Cond.declares ({ cls := "com/example/ordo/ordo/Layout", name := "maxNode", desc := "()J" } : Jvm.MethodName)).before a0 Z = true := hw _ (List.mem_of_getElem? (i := 38) rfl)
theorem wd39 {a0 : Array Value} {Z : State} (hw : ∀ d ∈ tables_1, d.before a0 Z = true) : (Jvm.Cond.instanceMethod ({ cls := "com/example/ordo/ordo/Layout", name := "maxNode", desc := "()J" } : Jvm.MethodName)).before a0 Z = true := hw _ (List.mem_of_getElem? (i := 39) rfl)
theorem wd40 {a0 : Array Value} {Z : State} (hw : ∀ d ∈ tables_1, d.before a0 Z = true) : (Jvm.Cond.selects "com/example/ordo/ordo/Layout" ({ cls := "com/example/ordo/ordo/Layout", name := "maxNode", desc := "()J" } : Jvm.MethodName) ({ cls := "com/example/ordo/ordo/Layout", name := "maxNode", desc := "()J" } : Jvm.MethodName)).before a0 Z = true := hw _ (List.mem_of_getElem? (i := 40) rfl)
theorem wd41 {a0 : Array Value} {Z : State} (hw : ∀ d ∈ tables_1, d.before a0 Z = true) : (Jvm.Cond.code ({ cls := "com/example/ordo/ordo/Layout", name := "maxNode", desc := "()J" } : Jvm.MethodName) prog_4_method_5_code (1 : Nat) (Option.some Jvm.ClassFile.FieldType.long)).before a0 Z = true := hw _ (List.mem_of_getElem? (i := 41) rfl)
theorem wd42 {a0 : Array Value} {Z : State} (hw : ∀ d ∈ tables_1, d.before a0 Z = true) : (Jvm.Cond.methodLink "com/example/ordo/ordo/Layout" (64 : Nat) ({ cls := "com/example/ordo/ordo/Layout", name := "nodeBits", desc := "()I" } : Jvm.MethodName)).before a0 Z = true := hw _ (List.mem_of_getElem? (i := 42) rfl)
theorem wd43 {a0 : Array Value} {Z : State} (hw : ∀ d ∈ tables_1, d.before a0 Z = true) : (Jvm.Cond.instanceMethod ({ cls := "com/example/ordo/ordo/Layout", name := "nodeBits", desc := "()I" } : Jvm.MethodName)).before a0 Z = true := hw _ (List.mem_of_getElem? (i := 43) rfl)
theorem wd44 {a0 : Array Value} {Z : State} (hw : ∀ d ∈ tables_1, d.before a0 Z = true) : (Jvm.Cond.privateMethod ({ cls := "com/example/ordo/ordo/Layout", name := "nodeBits", desc := "()I" } : Jvm.MethodName)).before a0 Z = true := hw _ (List.mem_of_getElem? (i := 44) rfl)
theorem wd45 {a0 : Array Value} {Z : State} (hw : ∀ d ∈ tables_1, d.before a0 Z = true) : (Jvm.Cond.code ({ cls := "com/example/ordo/ordo/Layout", name := "nodeBits", desc := "()I" } : Jvm.MethodName) prog_4_method_18_code (1 : Nat) (Option.some Jvm.ClassFile.FieldType.int)).before a0 Z = true := hw _ (List.mem_of_getElem? (i := 45) rfl)
abbrev y1 : MethodName := ⟨"java/lang/Record", "<init>", "()V"⟩
abbrev r1 : Room := { frames := 1, cells := 0, slots := 0, locals := 12 }
set_option maxRecDepth 65536 in
set_option maxHeartbeats 40000000 in
theorem rm1 (l : Launch) (Z : State) (a0 : Array Value) (hw : ∀ d ∈ tables_1, d.before a0 Z = true) (ws : List Jvm.Cond) (h0 : Heap) (n0 : Nat) (q : Addr)   :
    MetFree l y1 (head1 (Jvm.Cond.code y1 jdk_30_method_1_code 1 none :: ws) r1) (fun a U => a = #[(.ref q)] ∧ Z.Warmed39 U.vm ∧ U.heap = h0) (fun _ _ _ _ _ => True) (fun _ U o U' => ∃ v L, o = .returned v ∧ PQ none h0 n0 v U'.heap L ∧ FrameEnd U o U' L r1.cells r1.slots) := by
  refine met_of (Z := Z) (n0 := n0) (Ls := #[.val (.ref q)]) (by decide +kernel) (fun m => by first | (simp [entryFrame, mkF, argsToLocals, Value.category]; done) | rfl) ?_
  intro p e s m below meth c T0 E hE X0
  refine go_aloadN X0 d1_0 rfl rfl 1 rfl ?_
  refine go_initO X0 0 (wd12 hw) (wd13 hw) (wd14 hw) rfl d1_1 (by decide) (Nat.le_of_eq rfl) (by decide) 4 rfl (fun T1 X1 => ?_)
  exact go_retV X1 hE d1_4 (fun L N => ⟨rfl, N, rfl⟩) (by decide) (by decide)
def own_min (x0 x1 : Int32) : Int32 := (if x1 < x0 then x1 else x0)
abbrev y2 : MethodName := ⟨"java/lang/Math", "min", "(II)I"⟩
abbrev r2 : Room := { frames := 0, cells := 0, slots := 0, locals := 0 }
set_option maxRecDepth 65536 in
set_option maxHeartbeats 40000000 in
theorem rm2 (l : Launch) (Z : State) (a0 : Array Value) (hw : ∀ d ∈ tables_1, d.before a0 Z = true) (ws : List Jvm.Cond) (h0 : Heap) (n0 : Nat) (x0 x1 : Int32)   :
    MetFree l y2 (head1 (Jvm.Cond.code y2 jdk_29_method_69_code 2 (some .int) :: ws) r2) (fun a U => a = #[(.int x0), (.int x1)] ∧ Z.Warmed39 U.vm ∧ U.heap = h0) (fun _ _ _ _ _ => True) (fun _ U o U' => ∃ v L, o = .returned v ∧ PQ (some (.int (own_min x0 x1))) h0 n0 v U'.heap L ∧ FrameEnd U o U' L r2.cells r2.slots) := by
  refine met_of (Z := Z) (n0 := n0) (Ls := #[.val (.int x0), .val (.int x1)]) (by decide +kernel) (fun m => by first | (simp [entryFrame, mkF, argsToLocals, Value.category]; done) | rfl) ?_
  intro p e s m below meth c T0 E hE X0
  refine go_iloadN X0 d2_0 rfl 1 rfl ?_
  refine go_iloadN X0 d2_1 rfl 2 rfl ?_
  refine go_icmp X0 5 9 d2_2 rfl (by decide) (by decide) ?_ ?_
  · intro (c1 : x1 < x0)
    refine go_iloadN X0 d2_9 rfl 10 rfl ?_
    exact go_retI X0 hE d2_10 (fun L N => ⟨by rw [own_min, if_pos c1], N, rfl⟩) (by decide) (by decide)
  intro (c1 : ¬ (x1 < x0))
  refine go_iloadN X0 d2_5 rfl 6 rfl ?_
  refine go_goto X0 10 d2_6 (by decide) (by decide) ?_
  exact go_retI X0 hE d2_10 (fun L N => ⟨by rw [own_min, if_neg c1], N, rfl⟩) (by decide) (by decide)
def LQ (Z : State) (h0 : Heap) (n0 : Nat) (q : Addr) (db wb sb : Int32) (v : Option Value) (h : Heap) (L : List Loc) : Prop := v = none ∧ Fr n0 L ∧ Keep h0 h [q] ∧ Fld Z h q "com/example/ordo/ordo/Layout" "datacenterBits" "I" (.int db) ∧ Fld Z h q "com/example/ordo/ordo/Layout" "workerBits" "I" (.int wb) ∧ Fld Z h q "com/example/ordo/ordo/Layout" "sequenceBits" "I" (.int sb)
theorem LQ.fr {Z : State} {h0 : Heap} {n0 : Nat} {q : Addr} {db wb sb : Int32} : ∀ v h' L, LQ Z h0 n0 q db wb sb v h' L → Fr n0 L := fun _ _ _ z => z.2.1
/-- the bounds under which the record is made -/
def own_B (tb db wb sb : Int32) : Prop := 1 ≤ tb.toInt ∧ 0 ≤ db.toInt ∧ 0 ≤ wb.toInt ∧ 0 ≤ sb.toInt ∧ tb.toInt + db.toInt + wb.toInt + sb.toInt = 63
theorem own_B1 {tb db wb sb : Int32} (h : own_B tb db wb sb) : ¬ tb < (1 : Int32) := by
  obtain ⟨h1, -⟩ := h
  rw [Int32.lt_iff_toInt_lt]
  have e : (1 : Int32).toInt = 1 := rfl
  omega
theorem own_B2 {tb db wb sb : Int32} (h : own_B tb db wb sb) : ¬ own_min (own_min db wb) sb < (0 : Int32) := by
  obtain ⟨-, h2, h3, h4, -⟩ := h
  have e : (0 : Int32).toInt = 0 := rfl
  rw [Int32.lt_iff_toInt_lt]
  unfold own_min
  repeat' split
  all_goals omega
theorem own_B3 {tb db wb sb : Int32} (h : own_B tb db wb sb) : ((tb.toInt64 + db.toInt64) + wb.toInt64) + sb.toInt64 = (63 : Int64) := by
  obtain ⟨h1, h2, h3, h4, h5⟩ := h
  have e : (63 : Int64).toInt = 63 := rfl
  apply Int64.toInt_inj.mp
  have a1 := Int32.toInt_toInt64 tb
  have a2 := Int32.toInt_toInt64 db
  have a3 := Int32.toInt_toInt64 wb
  have a4 := Int32.toInt_toInt64 sb
  have b1 : (tb.toInt64 + db.toInt64).toInt = tb.toInt + db.toInt := by rw [Jvm.Kit.i64_add (by omega) (by omega), a1, a2]
  have b2 : ((tb.toInt64 + db.toInt64) + wb.toInt64).toInt = tb.toInt + db.toInt + wb.toInt := by rw [Jvm.Kit.i64_add (by omega) (by omega), b1, a3]
  rw [Jvm.Kit.i64_add (by omega) (by omega), b2, a4, e]
  omega
abbrev y3 : MethodName := ⟨"com/example/ordo/ordo/Layout", "<init>", "(JIIII)V"⟩
abbrev r3 : Room := { frames := 2, cells := 0, slots := 0, locals := 24 }
set_option maxRecDepth 65536 in
set_option maxHeartbeats 40000000 in
theorem rm3 (l : Launch) (Z : State) (a0 : Array Value) (hw : ∀ d ∈ tables_1, d.before a0 Z = true) (ws : List Jvm.Cond) (h0 : Heap) (n0 : Nat) (q : Addr) (e0 : Int64) (tb db wb sb : Int32) (u_epochMillis u_timeBits u_datacenterBits u_workerBits u_sequenceBits : Value)  (S_FE : Sta Z h0 "com/example/ordo/ordo/Layout" "FIRST_EPOCH" "J" (.long (-62167219200000 : Int64))) (E_q : Exa Z h0 q "com/example/ordo/ordo/Layout") (g_q : n0 ≤ q) (F_epochMillis : Fld Z h0 q "com/example/ordo/ordo/Layout" "epochMillis" "J" u_epochMillis) (F_timeBits : Fld Z h0 q "com/example/ordo/ordo/Layout" "timeBits" "I" u_timeBits) (F_datacenterBits : Fld Z h0 q "com/example/ordo/ordo/Layout" "datacenterBits" "I" u_datacenterBits) (F_workerBits : Fld Z h0 q "com/example/ordo/ordo/Layout" "workerBits" "I" u_workerBits) (F_sequenceBits : Fld Z h0 q "com/example/ordo/ordo/Layout" "sequenceBits" "I" u_sequenceBits) (hB : own_B tb db wb sb) (hE0 : e0 = 0) :
    MetFree l y3 (head1 (Jvm.Cond.code y3 prog_4_method_1_code 9 none :: ws) r3) (fun a U => a = #[(.ref q), (.long e0), (.int tb), (.int db), (.int wb), (.int sb)] ∧ Z.Warmed39 U.vm ∧ U.heap = h0) (fun _ _ _ _ _ => True) (fun _ U o U' => ∃ v L, o = .returned v ∧ LQ Z h0 n0 q db wb sb v U'.heap L ∧ FrameEnd U o U' L r3.cells r3.slots) := by
  refine met_of (Z := Z) (n0 := n0) (Ls := #[.val (.ref q), .val (.long e0), .second, .val (.int tb), .val (.int db), .val (.int wb), .val (.int sb), .unset, .unset]) (plainFor_of_name (by first | (simp [plainName, overriddenIn]; done) | decide +kernel)) (fun m => by first | (simp [entryFrame, mkF, argsToLocals, Value.category]; done) | rfl) ?_
  intro p e s m below meth c T0 E hE X0
  refine go_aloadN X0 d3_0 rfl rfl 1 rfl ?_
  refine go_callI X0 0 [] [] rfl (wd7 hw) (wd8 hw) (wd10 hw) (wd11 hw) (by decide) (rm1 l Z a0 hw [] h0 n0 q) (by decide) (by decide) rfl (lenOf pd_0 rfl) rfl rfl (Nat.le_of_eq rfl) d3_1 (by decide) (by decide) 4 rfl PQ.fr (PQ.k (fun T1 X1 => ?_))
  show Go p e below E m T1 4 #[.val (.ref q), .val (.long e0), .second, .val (.int tb), .val (.int db), .val (.int wb), .val (.int sb), .unset, .unset] []
  refine go_iloadN X1 d3_4 rfl 5 rfl ?_
  refine go_i2l X1 d3_5 6 rfl ?_
  refine go_iload X1 d3_6 rfl 8 rfl ?_
  refine go_i2l X1 d3_8 9 rfl ?_
  refine go_ladd X1 d3_9 10 rfl ?_
  refine go_iload X1 d3_10 rfl 12 rfl ?_
  refine go_i2l X1 d3_12 13 rfl ?_
  refine go_ladd X1 d3_13 14 rfl ?_
  refine go_iload X1 d3_14 rfl 16 rfl ?_
  refine go_i2l X1 d3_16 17 rfl ?_
  refine go_ladd X1 d3_17 18 rfl ?_
  refine go_nmL (fun v2 hv2 => ?_)
  refine go_lstore X1 #[.val (.ref q), .val (.long e0), .second, .val (.int tb), .val (.int db), .val (.int wb), .val (.int sb), .val (.long v2), .second] d3_18 rfl 20 rfl ?_
  refine go_iloadN X1 d3_20 rfl 21 rfl ?_
  refine go_iconst X1 (1 : Int32) d3_21 (by decide) 22 rfl ?_
  refine go_icmp X1 25 49 d3_22 rfl (by decide) (by decide) ?_ ?_
  · intro (c3 : tb < (1 : Int32))
    exfalso
    exact own_B1 hB c3
  intro (c3 : ¬ (tb < (1 : Int32)))
  refine go_iload X1 d3_25 rfl 27 rfl ?_
  refine go_iload X1 d3_27 rfl 29 rfl ?_
  refine go_callS X1 0 [(.int db), (.int wb)] [] (wd15 hw) (wd16 hw) (wd17 hw) (wd18 hw) (by decide) (rm2 l Z a0 hw [] h0 n0 db wb  ) (by decide) (by decide) rfl (lenOf pd_1 rfl) rfl rfl (Nat.le_of_eq rfl) d3_29 (by decide) (by decide) 32 rfl PQ.fr (PQ.k (fun T4 X4 => ?_))
  show Go p e below E m T4 32 #[.val (.ref q), .val (.long e0), .second, .val (.int tb), .val (.int db), .val (.int wb), .val (.int sb), .val (.long v2), .second] [(.int (own_min db wb))]
  refine go_iload X4 d3_32 rfl 34 rfl ?_
  refine go_callS X4 0 [(.int (own_min db wb)), (.int sb)] [] (wd15 hw) (wd16 hw) (wd17 hw) (wd18 hw) (by decide) (rm2 l Z a0 hw [] h0 n0 (own_min db wb) sb  ) (by decide) (by decide) rfl (lenOf pd_1 rfl) rfl rfl (Nat.le_of_eq rfl) d3_34 (by decide) (by decide) 37 rfl PQ.fr (PQ.k (fun T5 X5 => ?_))
  show Go p e below E m T5 37 #[.val (.ref q), .val (.long e0), .second, .val (.int tb), .val (.int db), .val (.int wb), .val (.int sb), .val (.long v2), .second] [(.int (own_min (own_min db wb) sb))]
  refine go_if X5 40 49 d3_37 rfl (by decide) (by decide) ?_ ?_
  · intro (c6 : (own_min (own_min db wb) sb) < (0 : Int32))
    exfalso
    exact own_B2 hB c6
  intro (c6 : ¬ ((own_min (own_min db wb) sb) < (0 : Int32)))
  refine go_lload X5 d3_40 rfl 42 rfl ?_
  refine go_ldc2 X5 (wd19 hw) d3_42 45 rfl ?_
  refine go_lif X5 46 49 71 d3_45 rfl d3_46 rfl (by decide) (by decide) ?_ ?_
  rotate_left
  · intro (c7 : ¬ (v2 = (63 : Int64)))
    exfalso
    exact c7 (by rw [hv2]; exact own_B3 hB)
  intro (c7 : v2 = (63 : Int64))
  refine go_lloadN X5 d3_71 rfl 72 rfl ?_
  refine go_getS X5 (wd20 hw) S_FE d3_72 75 rfl (fun T8 X8 => ?_)
  refine go_lif X8 76 79 102 d3_75 rfl d3_76 rfl (by decide) (by decide) ?_ ?_
  rotate_left
  · intro (c9 : ¬ (¬ (e0 < (-62167219200000 : Int64))))
    exfalso
    replace c9 : e0 < (-62167219200000 : Int64) := Decidable.not_not.mp c9
    rw [hE0] at c9; exact absurd c9 (by decide)
  intro (c9 : ¬ (e0 < (-62167219200000 : Int64)))
  refine go_aloadN X8 d3_102 rfl rfl 103 rfl ?_
  refine go_lloadN X8 d3_103 rfl 104 rfl ?_
  refine go_putF X8 (wd22 hw) F_epochMillis E_q (Or.inr ⟨(wd23 hw), rfl, rfl⟩) (wd2 hw) (ty := .long) (by decide) rfl rfl g_q d3_104 107 rfl (fun T10 h10 X10 W10 => ?_)
  have K10 : Keep h0 h10 [q] := Keep.of_wr W10
  replace F_epochMillis := F_epochMillis.same W10
  replace F_timeBits := F_timeBits.other W10 (Or.inr (slot_ne (a0 := a0) (Or.inr (wd25 hw)) (Or.inr (wd23 hw)) (by decide) (t := .int) (t' := .long) (by decide) (by decide)))
  replace F_datacenterBits := F_datacenterBits.other W10 (Or.inr (slot_ne (a0 := a0) (Or.inr (wd27 hw)) (Or.inr (wd23 hw)) (by decide) (t := .int) (t' := .long) (by decide) (by decide)))
  replace F_workerBits := F_workerBits.other W10 (Or.inr (slot_ne (a0 := a0) (Or.inr (wd29 hw)) (Or.inr (wd23 hw)) (by decide) (t := .int) (t' := .long) (by decide) (by decide)))
  replace F_sequenceBits := F_sequenceBits.other W10 (Or.inr (slot_ne (a0 := a0) (Or.inr (wd31 hw)) (Or.inr (wd23 hw)) (by decide) (t := .int) (t' := .long) (by decide) (by decide)))
  replace E_q := E_q.wr W10
  refine go_aloadN X10 d3_107 rfl rfl 108 rfl ?_
  refine go_iloadN X10 d3_108 rfl 109 rfl ?_
  refine go_putF X10 (wd24 hw) F_timeBits E_q (Or.inr ⟨(wd25 hw), rfl, rfl⟩) (wd2 hw) (ty := .int) (by decide) rfl rfl g_q d3_109 112 rfl (fun T11 h11 X11 W11 => ?_)
  have K11 : Keep h0 h11 [q] := K10.wr W11 (Or.inl (List.mem_singleton.mpr rfl))
  replace F_epochMillis := F_epochMillis.other W11 (Or.inr (slot_ne (a0 := a0) (Or.inr (wd23 hw)) (Or.inr (wd25 hw)) (by decide) (t := .long) (t' := .int) (by decide) (by decide)))
  replace F_timeBits := F_timeBits.same W11
  replace F_datacenterBits := F_datacenterBits.other W11 (Or.inr (slot_ne (a0 := a0) (Or.inr (wd27 hw)) (Or.inr (wd25 hw)) (by decide) (t := .int) (t' := .int) (by decide) (by decide)))
  replace F_workerBits := F_workerBits.other W11 (Or.inr (slot_ne (a0 := a0) (Or.inr (wd29 hw)) (Or.inr (wd25 hw)) (by decide) (t := .int) (t' := .int) (by decide) (by decide)))
  replace F_sequenceBits := F_sequenceBits.other W11 (Or.inr (slot_ne (a0 := a0) (Or.inr (wd31 hw)) (Or.inr (wd25 hw)) (by decide) (t := .int) (t' := .int) (by decide) (by decide)))
  replace E_q := E_q.wr W11
  refine go_aloadN X11 d3_112 rfl rfl 113 rfl ?_
  refine go_iload X11 d3_113 rfl 115 rfl ?_
  refine go_putF X11 (wd26 hw) F_datacenterBits E_q (Or.inr ⟨(wd27 hw), rfl, rfl⟩) (wd2 hw) (ty := .int) (by decide) rfl rfl g_q d3_115 118 rfl (fun T12 h12 X12 W12 => ?_)
  have K12 : Keep h0 h12 [q] := K11.wr W12 (Or.inl (List.mem_singleton.mpr rfl))
  replace F_epochMillis := F_epochMillis.other W12 (Or.inr (slot_ne (a0 := a0) (Or.inr (wd23 hw)) (Or.inr (wd27 hw)) (by decide) (t := .long) (t' := .int) (by decide) (by decide)))
  replace F_timeBits := F_timeBits.other W12 (Or.inr (slot_ne (a0 := a0) (Or.inr (wd25 hw)) (Or.inr (wd27 hw)) (by decide) (t := .int) (t' := .int) (by decide) (by decide)))
  replace F_datacenterBits := F_datacenterBits.same W12
  replace F_workerBits := F_workerBits.other W12 (Or.inr (slot_ne (a0 := a0) (Or.inr (wd29 hw)) (Or.inr (wd27 hw)) (by decide) (t := .int) (t' := .int) (by decide) (by decide)))
  replace F_sequenceBits := F_sequenceBits.other W12 (Or.inr (slot_ne (a0 := a0) (Or.inr (wd31 hw)) (Or.inr (wd27 hw)) (by decide) (t := .int) (t' := .int) (by decide) (by decide)))
  replace E_q := E_q.wr W12
  refine go_aloadN X12 d3_118 rfl rfl 119 rfl ?_
  refine go_iload X12 d3_119 rfl 121 rfl ?_
  refine go_putF X12 (wd28 hw) F_workerBits E_q (Or.inr ⟨(wd29 hw), rfl, rfl⟩) (wd2 hw) (ty := .int) (by decide) rfl rfl g_q d3_121 124 rfl (fun T13 h13 X13 W13 => ?_)
  have K13 : Keep h0 h13 [q] := K12.wr W13 (Or.inl (List.mem_singleton.mpr rfl))
  replace F_epochMillis := F_epochMillis.other W13 (Or.inr (slot_ne (a0 := a0) (Or.inr (wd23 hw)) (Or.inr (wd29 hw)) (by decide) (t := .long) (t' := .int) (by decide) (by decide)))
  replace F_timeBits := F_timeBits.other W13 (Or.inr (slot_ne (a0 := a0) (Or.inr (wd25 hw)) (Or.inr (wd29 hw)) (by decide) (t := .int) (t' := .int) (by decide) (by decide)))
  replace F_datacenterBits := F_datacenterBits.other W13 (Or.inr (slot_ne (a0 := a0) (Or.inr (wd27 hw)) (Or.inr (wd29 hw)) (by decide) (t := .int) (t' := .int) (by decide) (by decide)))
  replace F_workerBits := F_workerBits.same W13
  replace F_sequenceBits := F_sequenceBits.other W13 (Or.inr (slot_ne (a0 := a0) (Or.inr (wd31 hw)) (Or.inr (wd29 hw)) (by decide) (t := .int) (t' := .int) (by decide) (by decide)))
  replace E_q := E_q.wr W13
  refine go_aloadN X13 d3_124 rfl rfl 125 rfl ?_
  refine go_iload X13 d3_125 rfl 127 rfl ?_
  refine go_putF X13 (wd30 hw) F_sequenceBits E_q (Or.inr ⟨(wd31 hw), rfl, rfl⟩) (wd2 hw) (ty := .int) (by decide) rfl rfl g_q d3_127 130 rfl (fun T14 h14 X14 W14 => ?_)
  have K14 : Keep h0 h14 [q] := K13.wr W14 (Or.inl (List.mem_singleton.mpr rfl))
  replace F_epochMillis := F_epochMillis.other W14 (Or.inr (slot_ne (a0 := a0) (Or.inr (wd23 hw)) (Or.inr (wd31 hw)) (by decide) (t := .long) (t' := .int) (by decide) (by decide)))
  replace F_timeBits := F_timeBits.other W14 (Or.inr (slot_ne (a0 := a0) (Or.inr (wd25 hw)) (Or.inr (wd31 hw)) (by decide) (t := .int) (t' := .int) (by decide) (by decide)))
  replace F_datacenterBits := F_datacenterBits.other W14 (Or.inr (slot_ne (a0 := a0) (Or.inr (wd27 hw)) (Or.inr (wd31 hw)) (by decide) (t := .int) (t' := .int) (by decide) (by decide)))
  replace F_workerBits := F_workerBits.other W14 (Or.inr (slot_ne (a0 := a0) (Or.inr (wd29 hw)) (Or.inr (wd31 hw)) (by decide) (t := .int) (t' := .int) (by decide) (by decide)))
  replace F_sequenceBits := F_sequenceBits.same W14
  replace E_q := E_q.wr W14
  exact go_retV X14 hE d3_130 (fun L N => ⟨rfl, N, K14, F_datacenterBits, F_workerBits, F_sequenceBits⟩) (by decide) (by decide)
def own_nb (db wb : Int32) : Int32 := (db + wb)
abbrev y4 : MethodName := ⟨"com/example/ordo/ordo/Layout", "nodeBits", "()I"⟩
abbrev r4 : Room := { frames := 0, cells := 0, slots := 0, locals := 0 }
set_option maxRecDepth 65536 in
set_option maxHeartbeats 40000000 in
theorem rm4 (l : Launch) (Z : State) (a0 : Array Value) (hw : ∀ d ∈ tables_1, d.before a0 Z = true) (ws : List Jvm.Cond) (h0 : Heap) (n0 : Nat) (q : Addr) (db wb : Int32)   (F_datacenterBits : Fld Z h0 q "com/example/ordo/ordo/Layout" "datacenterBits" "I" (.int db)) (F_workerBits : Fld Z h0 q "com/example/ordo/ordo/Layout" "workerBits" "I" (.int wb)) :
    MetFree l y4 (head1 (Jvm.Cond.code y4 prog_4_method_18_code 1 (some .int) :: ws) r4) (fun a U => a = #[(.ref q)] ∧ Z.Warmed39 U.vm ∧ U.heap = h0) (fun _ _ _ _ _ => True) (fun _ U o U' => ∃ v L, o = .returned v ∧ PQ (some (.int (own_nb db wb))) h0 n0 v U'.heap L ∧ FrameEnd U o U' L r4.cells r4.slots) := by
  refine met_of (Z := Z) (n0 := n0) (Ls := #[.val (.ref q)]) (plainFor_of_name (by first | (simp [plainName, overriddenIn]; done) | decide +kernel)) (fun m => by first | (simp [entryFrame, mkF, argsToLocals, Value.category]; done) | rfl) ?_
  intro p e s m below meth c T0 E hE X0
  refine go_aloadN X0 d4_0 rfl rfl 1 rfl ?_
  refine go_getF X0 (wd26 hw) F_datacenterBits d4_1 4 rfl (fun T1 X1 => ?_)
  refine go_aloadN X1 d4_4 rfl rfl 5 rfl ?_
  refine go_getF X1 (wd28 hw) F_workerBits d4_5 8 rfl (fun T2 X2 => ?_)
  refine go_iadd X2 d4_8 9 rfl ?_
  exact go_retI X2 hE d4_9 (fun L N => ⟨by rw [own_nb], N, rfl⟩) (by decide) (by decide)
def own_maxn (db wb : Int32) : Int64 := (((1 : Int64) <<< ((db + wb).toInt64 &&& 63)) - (1 : Int64))
abbrev y5 : MethodName := ⟨"com/example/ordo/ordo/Layout", "maxNode", "()J"⟩
abbrev r5 : Room := { frames := 1, cells := 0, slots := 0, locals := 14 }
set_option maxRecDepth 65536 in
set_option maxHeartbeats 40000000 in
theorem rm5 (l : Launch) (Z : State) (a0 : Array Value) (hw : ∀ d ∈ tables_1, d.before a0 Z = true) (ws : List Jvm.Cond) (h0 : Heap) (n0 : Nat) (q : Addr) (db wb : Int32)   (F_datacenterBits : Fld Z h0 q "com/example/ordo/ordo/Layout" "datacenterBits" "I" (.int db)) (F_workerBits : Fld Z h0 q "com/example/ordo/ordo/Layout" "workerBits" "I" (.int wb)) (E_q : Exa Z h0 q "com/example/ordo/ordo/Layout") :
    MetFree l y5 (head1 (Jvm.Cond.code y5 prog_4_method_5_code 1 (some .long) :: ws) r5) (fun a U => a = #[(.ref q)] ∧ Z.Warmed39 U.vm ∧ U.heap = h0) (fun _ _ _ _ _ => True) (fun _ U o U' => ∃ v L, o = .returned v ∧ PQ (some (.long (own_maxn db wb))) h0 n0 v U'.heap L ∧ FrameEnd U o U' L r5.cells r5.slots) := by
  refine met_of (Z := Z) (n0 := n0) (Ls := #[.val (.ref q)]) (plainFor_of_name (by first | (simp [plainName, overriddenIn]; done) | decide +kernel)) (fun m => by first | (simp [entryFrame, mkF, argsToLocals, Value.category]; done) | rfl) ?_
  intro p e s m below meth c T0 E hE X0
  refine go_lconst X0 (1 : Int64) d5_0 (by decide) 1 rfl ?_
  refine go_aloadN X0 d5_1 rfl rfl 2 rfl ?_
  refine go_callP X0 2 [] [(.long (1 : Int64))] (wd42 hw) (wd43 hw) (wd44 hw) (wd2 hw) (wd3 hw) (wd45 hw) (by decide) E_q (rm4 l Z a0 hw [] h0 n0 q db wb  F_datacenterBits F_workerBits) (by decide) (by decide) rfl (lenOf pd_2 rfl) rfl rfl (Nat.le_of_eq rfl) d5_2 (by decide) (by decide) 5 rfl PQ.fr (PQ.k (fun T1 X1 => ?_))
  show Go p e below E m T1 5 #[.val (.ref q)] [(.int (own_nb db wb)), (.long (1 : Int64))]
  rw [(by rw [own_nb] : (own_nb db wb) = (db + wb))]
  refine go_lshl X1 d5_5 6 rfl ?_
  refine go_lconst X1 (1 : Int64) d5_6 (by decide) 7 rfl ?_
  refine go_lsub X1 d5_7 8 rfl ?_
  exact go_retL X1 hE d5_8 (fun L N => ⟨by rw [own_maxn], N, rfl⟩) (by decide) (by decide)
def own_node (id : Int64) (db wb sb : Int32) : Int64 := ((XT.ushrL id sb) &&& (((1 : Int64) <<< ((db + wb).toInt64 &&& 63)) - (1 : Int64)))
abbrev y6 : MethodName := ⟨"com/example/ordo/ordo/Layout", "node", "(J)J"⟩
abbrev r6 : Room := { frames := 2, cells := 0, slots := 0, locals := 28 }
set_option maxRecDepth 65536 in
set_option maxHeartbeats 40000000 in
theorem rm6 (l : Launch) (Z : State) (a0 : Array Value) (hw : ∀ d ∈ tables_1, d.before a0 Z = true) (ws : List Jvm.Cond) (h0 : Heap) (n0 : Nat) (q : Addr) (id : Int64) (db wb sb : Int32)   (F_datacenterBits : Fld Z h0 q "com/example/ordo/ordo/Layout" "datacenterBits" "I" (.int db)) (F_workerBits : Fld Z h0 q "com/example/ordo/ordo/Layout" "workerBits" "I" (.int wb)) (F_sequenceBits : Fld Z h0 q "com/example/ordo/ordo/Layout" "sequenceBits" "I" (.int sb)) (E_q : Exa Z h0 q "com/example/ordo/ordo/Layout") :
    MetFree l y6 (head1 (Jvm.Cond.code y6 prog_4_method_11_code 3 (some .long) :: ws) r6) (fun a U => a = #[(.ref q), (.long id)] ∧ Z.Warmed39 U.vm ∧ U.heap = h0) (fun _ _ _ _ _ => True) (fun _ U o U' => ∃ v L, o = .returned v ∧ PQ (some (.long (own_node id db wb sb))) h0 n0 v U'.heap L ∧ FrameEnd U o U' L r6.cells r6.slots) := by
  refine met_of (Z := Z) (n0 := n0) (Ls := #[.val (.ref q), .val (.long id), .second]) (plainFor_of_name (by first | (simp [plainName, overriddenIn]; done) | decide +kernel)) (fun m => by first | (simp [entryFrame, mkF, argsToLocals, Value.category]; done) | rfl) ?_
  intro p e s m below meth c T0 E hE X0
  refine go_lloadN X0 d6_0 rfl 1 rfl ?_
  refine go_aloadN X0 d6_1 rfl rfl 2 rfl ?_
  refine go_getF X0 (wd30 hw) F_sequenceBits d6_2 5 rfl (fun T1 X1 => ?_)
  refine go_lushr X1 d6_5 6 rfl ?_
  refine go_aloadN X1 d6_6 rfl rfl 7 rfl ?_
  refine go_callVs X1 2 [] [(.long (XT.ushrL id sb))] (wd37 hw) (wd38 hw) (wd40 hw) (wd39 hw) (wd3 hw) (wd41 hw) (by decide) E_q (rm5 l Z a0 hw [] h0 n0 q db wb  F_datacenterBits F_workerBits E_q) (by decide) (by decide) rfl (lenOf pd_3 rfl) rfl rfl (Nat.le_of_eq rfl) d6_7 (by decide) (by decide) 10 rfl PQ.fr (PQ.k (fun T2 X2 => ?_))
  show Go p e below E m T2 10 #[.val (.ref q), .val (.long id), .second] [(.long (own_maxn db wb)), (.long (XT.ushrL id sb))]
  rw [(by rw [own_maxn] : (own_maxn db wb) = (((1 : Int64) <<< ((db + wb).toInt64 &&& 63)) - (1 : Int64)))]
  refine go_land X2 d6_10 11 rfl ?_
  exact go_retL X2 hE d6_11 (fun L N => ⟨by rw [own_node], N, rfl⟩) (by decide) (by decide)
/-! numbers of bits, shifts as shifts of bit vectors -/
theorem own_rem {x k : Int32} (hk : 0 < k.toInt) : 0 ≤ ((x &&& 2147483647) % k).toInt ∧ ((x &&& 2147483647) % k).toInt < k.toInt := own_mod rfl hk
theorem own_cnt (y : Int32) {k : Nat} (h : y.toInt = k) (hk : k < 64) : (y.toInt64 &&& 63).toBitVec = BitVec.ofNat 64 k := by
  have h1 : (y.toInt64 &&& 63).toInt = y.toInt64.toInt % 2 ^ 6 := Jvm.Kit.i64_mask y.toInt64 63 (by decide) (by decide)
  rw [Int32.toInt_toInt64, h] at h1
  have h2 : (y.toInt64 &&& 63) = Int64.ofInt (k : Int) := by
    apply Int64.toInt_inj.mp
    rw [h1, Int64.toInt_ofInt, Jvm.Kit.bmod64 (by omega) (by omega)]
    omega
  rw [h2]
  show BitVec.ofInt 64 (k : Int) = _
  rw [BitVec.ofInt_natCast]
theorem own_shl (x : Int64) (y : Int32) {k : Nat} (h : y.toInt = k) (hk : k < 64) : (x <<< (y.toInt64 &&& 63)).toBitVec = x.toBitVec <<< k := by
  have e : (x <<< (y.toInt64 &&& 63)).toBitVec = x.toBitVec <<< ((y.toInt64 &&& 63).toBitVec.smod 64) := rfl
  rw [e, own_cnt y h hk]
  have e2 : (BitVec.ofNat 64 k).smod 64 = BitVec.ofNat 64 k := by
    have : ∀ j : Fin 64, (BitVec.ofNat 64 j.val).smod 64 = BitVec.ofNat 64 j.val := by decide
    exact this ⟨k, hk⟩
  rw [e2, BitVec.shiftLeft_eq', BitVec.toNat_ofNat, Nat.mod_eq_of_lt (by omega)]
theorem own_ushr (x : Int64) (y : Int32) {k : Nat} (h : y.toInt = k) (hk : k < 64) : (XT.ushrL x y).toBitVec = x.toBitVec >>> k := by
  have h1 := own_cnt y h hk
  have e : (XT.ushrL x y).toBitVec = x.toBitVec >>> ((y.toInt64 &&& 63).toBitVec % 64) := rfl
  rw [e, h1]
  have e2 : (BitVec.ofNat 64 k) % 64 = BitVec.ofNat 64 k := by
    have : ∀ j : Fin 64, (BitVec.ofNat 64 j.val) % 64 = BitVec.ofNat 64 j.val := by decide
    exact this ⟨k, hk⟩
  rw [e2, BitVec.ushiftRight_eq', BitVec.toNat_ofNat, Nat.mod_eq_of_lt (by omega)]
/-- the low k bits -/
def own_low (k : Nat) : BitVec 64 := BitVec.ofNat 64 (2 ^ k - 1)
theorem own_low_get {k i : Nat} (hi : i < 64) : (own_low k).getLsbD i = decide (i < k) := by
  rw [own_low, BitVec.getLsbD_ofNat, Nat.testBit_two_pow_sub_one]
  simp [hi]
theorem own_low_of (y : Int32) {k : Nat} (h : y.toInt = k) (hk : k < 64) : (((1 : Int64) <<< (y.toInt64 &&& 63)) - (1 : Int64)).toBitVec = own_low k := by
  rw [Int64.toBitVec_sub, own_shl _ y h hk]
  have e : (1 : Int64).toBitVec = 1#64 := rfl
  rw [e]
  apply BitVec.eq_of_toNat_eq
  have hp : 2 ^ k < 2 ^ 64 := Nat.pow_lt_pow_right (by decide) hk
  have hp1 : 1 ≤ 2 ^ k := Nat.one_le_two_pow
  simp [own_low, BitVec.toNat_sub, BitVec.toNat_shiftLeft, Nat.shiftLeft_eq, Nat.mod_eq_of_lt hp]
  omega
/-- three fields side by side: the top one -/
theorem own_bv1 (t n s : BitVec 64) {T D S : Nat} (h : T + D + S ≤ 63) : ((((t &&& own_low T) <<< (D + S)) ||| ((n &&& own_low D) <<< S)) ||| (s &&& own_low S)) >>> (D + S) = t &&& own_low T := by
  apply BitVec.eq_of_getLsbD_eq
  intro i hi
  simp only [BitVec.getLsbD_ushiftRight, BitVec.getLsbD_or, BitVec.getLsbD_shiftLeft, BitVec.getLsbD_and]
  by_cases c : D + S + i < 64
  · rw [own_low_get (k := T) hi, own_low_get (k := S) c]
    have e1 : D + S + i - (D + S) = i := by omega
    have e2 : (own_low D).getLsbD (D + S + i - S) = false := by rw [own_low_get (by omega)]; simp; omega
    rw [e1, e2, own_low_get (k := T) hi]
    have c1 : ¬ (D + S + i < D + S) := by omega
    have c2 : ¬ (D + S + i < S) := by omega
    simp [c, c1, c2]
  · rw [BitVec.getLsbD_of_ge s _ (by omega), own_low_get (k := T) hi]
    have c2 : ¬ (i < T) := by omega
    simp [c, c2]
theorem own_bv2 (t n s : BitVec 64) {T D S : Nat} (h : T + D + S ≤ 63) : (((((t &&& own_low T) <<< (D + S)) ||| ((n &&& own_low D) <<< S)) ||| (s &&& own_low S)) >>> S) &&& own_low D = n &&& own_low D := by
  apply BitVec.eq_of_getLsbD_eq
  intro i hi
  simp only [BitVec.getLsbD_ushiftRight, BitVec.getLsbD_or, BitVec.getLsbD_shiftLeft, BitVec.getLsbD_and]
  by_cases d : i < D
  · have c : S + i < 64 := by omega
    have c1 : S + i < D + S := by omega
    have c2 : ¬ (S + i < S) := by omega
    have e1 : S + i - S = i := by omega
    rw [e1, own_low_get (k := D) hi, own_low_get (k := S) c]
    simp [c, c1, c2, d]
  · rw [own_low_get (k := D) hi]
    simp [d]
theorem own_bv3 (t n s : BitVec 64) {T D S : Nat} (h : T + D + S ≤ 63) : ((((t &&& own_low T) <<< (D + S)) ||| ((n &&& own_low D) <<< S)) ||| (s &&& own_low S)) &&& own_low S = s &&& own_low S := by
  apply BitVec.eq_of_getLsbD_eq
  intro i hi
  simp only [BitVec.getLsbD_or, BitVec.getLsbD_shiftLeft, BitVec.getLsbD_and]
  by_cases d : i < S
  · have c1 : i < D + S := by omega
    rw [own_low_get (k := S) hi]
    simp [c1, d]
  · rw [own_low_get (k := S) hi]
    simp [d]
/-- a field cut out by two shifts -/
theorem own_bv4 (x : BitVec 64) {N S : Nat} (hN : 1 ≤ N) (h : N + S ≤ 63) : (x <<< (64 - S - N)) >>> (64 - N) = (x >>> S) &&& own_low N := by
  apply BitVec.eq_of_getLsbD_eq
  intro i hi
  simp only [BitVec.getLsbD_ushiftRight, BitVec.getLsbD_shiftLeft, BitVec.getLsbD_and]
  rw [own_low_get (k := N) hi]
  by_cases d : i < N
  · have c1 : 64 - N + i < 64 := by omega
    have c2 : ¬ (64 - N + i < 64 - S - N) := by omega
    have e : 64 - N + i - (64 - S - N) = S + i := by omega
    simp [c1, c2, e, d]
  · have c1 : ¬ (64 - N + i < 64) := by omega
    simp [c1, d]

theorem own_ne0 {w : Int32} (h : 0 < w.toInt) : w ≠ 0 := fun q => by
  rw [q] at h
  exact absurd h (by decide)
theorem own_s1 {x v : Int32} (h : v = (x &&& 2147483647) % 63) : 0 ≤ v.toInt ∧ v.toInt ≤ 62 := by
  have h1 := own_mod (x := x) (k := 63) (n := 63) rfl (by decide)
  rw [← h] at h1
  omega
theorem own_s2 {v : Int32} (hv : 0 ≤ v.toInt ∧ v.toInt ≤ 62) : ((63 : Int32) - v).toInt = 63 - v.toInt := by
  have e : (63 : Int32).toInt = 63 := rfl
  rw [Jvm.Kit.i32_sub (by omega) (by omega), e]
theorem own_nz1 {x v1 : Int32} (h1 : v1 = (x &&& 2147483647) % 63) : (63 : Int32) - v1 ≠ 0 := by
  have a1 := own_s1 h1
  have a2 := own_s2 a1
  exact own_ne0 (by omega)
theorem own_s3 {x y v1 v2 : Int32} (h1 : v1 = (x &&& 2147483647) % 63) (h2 : v2 = (y &&& 2147483647) % ((63 : Int32) - v1)) : 0 ≤ v2.toInt ∧ v2.toInt + v1.toInt ≤ 62 := by
  have a1 := own_s1 h1
  have a2 := own_s2 a1
  have a3 := own_mod (x := y) (k := (63 : Int32) - v1) a2 (by omega)
  rw [← h2] at a3
  omega
theorem own_s4 {w : Int32} (h0 : 0 ≤ w.toInt) (h1 : w.toInt ≤ 62) : (w + (1 : Int32)).toInt = w.toInt + 1 := by
  have e : (1 : Int32).toInt = 1 := rfl
  rw [Jvm.Kit.i32_add (by omega) (by omega), e]
theorem own_nz2 {x y v1 v2 : Int32} (h1 : v1 = (x &&& 2147483647) % 63) (h2 : v2 = (y &&& 2147483647) % ((63 : Int32) - v1)) : v2 + (1 : Int32) ≠ 0 := by
  have a1 := own_s1 h1
  have a3 := own_s3 h1 h2
  have a4 := own_s4 a3.1 (by omega)
  exact own_ne0 (by omega)
theorem own_bits {x y z v1 v2 v3 v4 v5 : Int32} (h1 : v1 = (x &&& 2147483647) % 63) (h2 : v2 = (y &&& 2147483647) % ((63 : Int32) - v1)) (h3 : v3 = (z &&& 2147483647) % (v2 + (1 : Int32))) (h4 : v4 = v2 - v3) (h5 : v5 = ((63 : Int32) - v1) - v2) : own_B v5 v3 v4 v1 := by
  have a1 := own_s1 h1
  have a2 := own_s2 a1
  have a3 := own_s3 h1 h2
  have a4 := own_s4 a3.1 (by omega)
  have a5 := own_mod (x := z) (k := v2 + (1 : Int32)) a4 (by omega)
  rw [← h3] at a5
  have a6 : v4.toInt = v2.toInt - v3.toInt := by rw [h4, Jvm.Kit.i32_sub (by omega) (by omega)]
  have a7 : v5.toInt = 63 - v1.toInt - v2.toInt := by rw [h5, Jvm.Kit.i32_sub (by omega) (by omega), a2]
  refine ⟨?_, ?_, ?_, ?_, ?_⟩ <;> omega
theorem own_main {id z : Int64} {tb db wb sb n : Int32} (hB : own_B tb db wb sb) (hn : wb = n - db) (hz : z = if n = (0 : Int32) then (0 : Int64) else (XT.ushrL (id <<< ((((64 : Int32) - sb) - n).toInt64 &&& 63)) ((64 : Int32) - n))) :
    ((XT.ushrL id sb) &&& (((1 : Int64) <<< ((db + wb).toInt64 &&& 63)) - (1 : Int64))) = z := by
  obtain ⟨b1, b2, b3, b4, b5⟩ := hB
  have e0 : (0 : Int32).toInt = 0 := rfl
  have e64 : (64 : Int32).toInt = 64 := rfl
  have hdn : db + wb = n := by
    rw [hn]
    apply Int32.toBitVec_inj.mp
    rw [Int32.toBitVec_add, Int32.toBitVec_sub, BitVec.add_comm, BitVec.sub_add_cancel]
  obtain ⟨N, hN⟩ : ∃ N : Nat, n.toInt = N := ⟨n.toInt.toNat, by rw [← hdn, Jvm.Kit.i32_add (by omega) (by omega)]; omega⟩
  obtain ⟨S, hS⟩ : ∃ S : Nat, sb.toInt = S := ⟨sb.toInt.toNat, by omega⟩
  have hN2 : (N : Int) = db.toInt + wb.toInt := by rw [← hN, ← hdn, Jvm.Kit.i32_add (by omega) (by omega)]
  rw [hdn]
  apply Int64.toBitVec_inj.mp
  rw [Int64.toBitVec_and, own_ushr _ _ hS (by omega), own_low_of _ hN (by omega), hz]
  by_cases c : n = 0
  · rw [if_pos c]
    rw [← Int32.toInt_inj, hN, e0] at c
    rw [(by omega : N = 0)]
    apply BitVec.eq_of_getLsbD_eq
    intro i hi
    rw [BitVec.getLsbD_and, own_low_get hi]
    simp
  · rw [if_neg c]
    rw [← Int32.toInt_inj, hN, e0] at c
    have h1 : ((64 : Int32) - n).toInt = ((64 - N : Nat) : Int) := by rw [Jvm.Kit.i32_sub (by omega) (by omega), e64, hN]; omega
    have h2 : ((64 : Int32) - sb).toInt = ((64 - S : Nat) : Int) := by rw [Jvm.Kit.i32_sub (by omega) (by omega), e64, hS]; omega
    have h3 : (((64 : Int32) - sb) - n).toInt = ((64 - S - N : Nat) : Int) := by rw [Jvm.Kit.i32_sub (by omega) (by omega), h2, hN]; omega
    rw [own_ushr _ _ h1 (by omega), own_shl _ _ h3 (by omega)]
    exact (own_bv4 _ (by omega) (by omega)).symm

def Q0 (n0 : Nat) (v : Option Value) (h : Heap) (L : List Loc) : Prop := v = some (.int 1) ∧ Fr n0 L
set_option maxRecDepth 65536 in
set_option maxHeartbeats 40000000 in
theorem rm0 (l : Launch) (Z : State) (a0 : Array Value) (hw : ∀ d ∈ tables_1, d.before a0 Z = true) (ws : List Jvm.Cond) (h0 : Heap) (n0 : Nat) (Z0 : n0 ≤ h0.size) (i0 : Int64) (i1 i2 i3 : Int32)  (S_FE : Sta Z h0 "com/example/ordo/ordo/Layout" "FIRST_EPOCH" "J" (.long (-62167219200000 : Int64))) :
    MetFree l x (head1 (Jvm.Cond.code x code maxLocals ret :: ws) room_1) (fun a U => a = #[(.long i0), (.int i1), (.int i2), (.int i3)] ∧ Z.Warmed39 U.vm ∧ U.heap = h0) (fun _ _ _ _ _ => True) (fun _ U o U' => ∃ v L, o = .returned v ∧ Q0 n0 v U'.heap L ∧ FrameEnd U o U' L room_1.cells room_1.slots) := by
  refine met_of (Z := Z) (n0 := n0) (Ls := #[.val (.long i0), .second, .val (.int i1), .val (.int i2), .val (.int i3), .unset, .unset, .unset, .unset, .unset, .unset, .unset, .unset]) (plainFor_of_name (by first | (simp [plainName, overriddenIn]; done) | decide +kernel)) (fun m => by first | (simp [entryFrame, mkF, argsToLocals, Value.category, maxLocals]; done) | rfl) ?_
  intro p e s m below meth c T0 E hE X0
  refine go_iloadN X0 at_0 rfl 1 rfl ?_
  refine go_ldc X0 (wd0 hw) at_1 3 rfl ?_
  refine go_iand X0 at_3 4 rfl ?_
  refine go_bipush X0 (63 : Int32) at_4 (by decide) 6 rfl ?_
  refine go_irem X0 at_6 (by decide) 7 rfl ?_
  refine go_nmI (fun v1 hv1 => ?_)
  refine go_istore X0 #[.val (.long i0), .second, .val (.int i1), .val (.int i2), .val (.int i3), .val (.int v1), .unset, .unset, .unset, .unset, .unset, .unset, .unset] at_7 rfl 9 rfl ?_
  refine go_iloadN X0 at_9 rfl 10 rfl ?_
  refine go_ldc X0 (wd0 hw) at_10 12 rfl ?_
  refine go_iand X0 at_12 13 rfl ?_
  refine go_bipush X0 (63 : Int32) at_13 (by decide) 15 rfl ?_
  refine go_iload X0 at_15 rfl 17 rfl ?_
  refine go_isub X0 at_17 18 rfl ?_
  refine go_irem X0 at_18 (own_nz1 hv1) 19 rfl ?_
  refine go_nmI (fun v2 hv2 => ?_)
  refine go_istore X0 #[.val (.long i0), .second, .val (.int i1), .val (.int i2), .val (.int i3), .val (.int v1), .val (.int v2), .unset, .unset, .unset, .unset, .unset, .unset] at_19 rfl 21 rfl ?_
  refine go_iload X0 at_21 rfl 23 rfl ?_
  refine go_ldc X0 (wd0 hw) at_23 25 rfl ?_
  refine go_iand X0 at_25 26 rfl ?_
  refine go_iload X0 at_26 rfl 28 rfl ?_
  refine go_iconst X0 (1 : Int32) at_28 (by decide) 29 rfl ?_
  refine go_iadd X0 at_29 30 rfl ?_
  refine go_irem X0 at_30 (own_nz2 hv1 hv2) 31 rfl ?_
  refine go_nmI (fun v3 hv3 => ?_)
  refine go_istore X0 #[.val (.long i0), .second, .val (.int i1), .val (.int i2), .val (.int i3), .val (.int v1), .val (.int v2), .val (.int v3), .unset, .unset, .unset, .unset, .unset] at_31 rfl 33 rfl ?_
  refine go_iload X0 at_33 rfl 35 rfl ?_
  refine go_iload X0 at_35 rfl 37 rfl ?_
  refine go_isub X0 at_37 38 rfl ?_
  refine go_nmI (fun v4 hv4 => ?_)
  refine go_istore X0 #[.val (.long i0), .second, .val (.int i1), .val (.int i2), .val (.int i3), .val (.int v1), .val (.int v2), .val (.int v3), .val (.int v4), .unset, .unset, .unset, .unset] at_38 rfl 40 rfl ?_
  refine go_bipush X0 (63 : Int32) at_40 (by decide) 42 rfl ?_
  refine go_iload X0 at_42 rfl 44 rfl ?_
  refine go_isub X0 at_44 45 rfl ?_
  refine go_iload X0 at_45 rfl 47 rfl ?_
  refine go_isub X0 at_47 48 rfl ?_
  refine go_nmI (fun v5 hv5 => ?_)
  refine go_istore X0 #[.val (.long i0), .second, .val (.int i1), .val (.int i2), .val (.int i3), .val (.int v1), .val (.int v2), .val (.int v3), .val (.int v4), .val (.int v5), .unset, .unset, .unset] at_48 rfl 50 rfl ?_
  have hB : own_B v5 v3 v4 v1 := own_bits hv1 hv2 hv3 hv4 hv5
  refine go_new X0 (wd1 hw) (wd2 hw) (wd3 hw) at_50 (by decide) (by decide) 53 rfl (fun T6 h6 q gA X6 Ex E_q D => ?_)
  have g_q : n0 ≤ q := by rw [gA]; exact Z0
  replace S_FE := S_FE.ext Ex
  have F_epochMillis := D (nm := "epochMillis") (d := "J") (Or.inr (wd23 hw)) (ty := .long) (by decide)
  have F_timeBits := D (nm := "timeBits") (d := "I") (Or.inr (wd25 hw)) (ty := .int) (by decide)
  have F_datacenterBits := D (nm := "datacenterBits") (d := "I") (Or.inr (wd27 hw)) (ty := .int) (by decide)
  have F_workerBits := D (nm := "workerBits") (d := "I") (Or.inr (wd29 hw)) (ty := .int) (by decide)
  have F_sequenceBits := D (nm := "sequenceBits") (d := "I") (Or.inr (wd31 hw)) (ty := .int) (by decide)
  refine go_dup X6 at_53 rfl 54 rfl ?_
  refine go_lconst X6 (0 : Int64) at_54 (by decide) 55 rfl ?_
  refine go_iload X6 at_55 rfl 57 rfl ?_
  refine go_iload X6 at_57 rfl 59 rfl ?_
  refine go_iload X6 at_59 rfl 61 rfl ?_
  refine go_iload X6 at_61 rfl 63 rfl ?_
  refine go_callI X6 1 [(.long (0 : Int64)), (.int v5), (.int v3), (.int v4), (.int v1)] [(.ref q)] rfl (wd4 hw) (wd5 hw) (wd3 hw) (wd6 hw) (by decide) (rm3 l Z a0 hw [] h6 n0 q (0 : Int64) v5 v3 v4 v1 _ _ _ _ _ S_FE E_q g_q F_epochMillis F_timeBits F_datacenterBits F_workerBits F_sequenceBits hB rfl) (by decide) (by decide) rfl (lenOf pd_4 rfl) rfl rfl (Nat.le_of_eq rfl) at_63 (by decide) (by decide) 66 rfl LQ.fr (fun w7 T7 L7 h7 X7 q7 => ?_)
  obtain ⟨rfl, -, K7, F_datacenterBits, F_workerBits, F_sequenceBits⟩ := q7
  replace E_q := E_q.keep K7
  show Go p e below E m T7 66 #[.val (.long i0), .second, .val (.int i1), .val (.int i2), .val (.int i3), .val (.int v1), .val (.int v2), .val (.int v3), .val (.int v4), .val (.int v5), .unset, .unset, .unset] [(.ref q)]
  refine go_astore X7 #[.val (.long i0), .second, .val (.int i1), .val (.int i2), .val (.int i3), .val (.int v1), .val (.int v2), .val (.int v3), .val (.int v4), .val (.int v5), .val (.ref q), .unset, .unset] at_66 rfl rfl 68 rfl ?_
  refine go_iload X7 at_68 rfl 70 rfl ?_
  refine go_cut (A := ∀ z8 : Int64, z8 = (if v2 = (0 : Int32) then (0 : Int64) else (XT.ushrL (i0 <<< ((((64 : Int32) - v1) - v2).toInt64 &&& 63)) ((64 : Int32) - v2))) → Go p e below E m T7 97 #[.val (.long i0), .second, .val (.int i1), .val (.int i2), .val (.int i3), .val (.int v1), .val (.int v2), .val (.int v3), .val (.int v4), .val (.int v5), .val (.ref q), .val (.long z8), .second] []) ?_ ?_
  · intro J9
    refine go_if X7 73 79 at_70 rfl (by decide) (by decide) ?_ ?_
    · intro (c10 : ¬ (v2 = (0 : Int32)))
      refine go_lloadN X7 at_79 rfl 80 rfl ?_
      refine go_bipush X7 (64 : Int32) at_80 (by decide) 82 rfl ?_
      refine go_iload X7 at_82 rfl 84 rfl ?_
      refine go_isub X7 at_84 85 rfl ?_
      refine go_iload X7 at_85 rfl 87 rfl ?_
      refine go_isub X7 at_87 88 rfl ?_
      refine go_lshl X7 at_88 89 rfl ?_
      refine go_bipush X7 (64 : Int32) at_89 (by decide) 91 rfl ?_
      refine go_iload X7 at_91 rfl 93 rfl ?_
      refine go_isub X7 at_93 94 rfl ?_
      refine go_lushr X7 at_94 95 rfl ?_
      refine go_lstore X7 #[.val (.long i0), .second, .val (.int i1), .val (.int i2), .val (.int i3), .val (.int v1), .val (.int v2), .val (.int v3), .val (.int v4), .val (.int v5), .val (.ref q), .val (.long (XT.ushrL (i0 <<< ((((64 : Int32) - v1) - v2).toInt64 &&& 63)) ((64 : Int32) - v2))), .second] at_95 rfl 97 rfl ?_
      exact J9 _ (by first | rw [if_neg c10] | simp only [c10, if_true, if_false, ite_self] | rfl)
    intro c10
    replace c10 : v2 = (0 : Int32) := Decidable.not_not.mp c10
    refine go_lconst X7 (0 : Int64) at_73 (by decide) 74 rfl ?_
    refine go_lstore X7 #[.val (.long i0), .second, .val (.int i1), .val (.int i2), .val (.int i3), .val (.int v1), .val (.int v2), .val (.int v3), .val (.int v4), .val (.int v5), .val (.ref q), .val (.long (0 : Int64)), .second] at_74 rfl 76 rfl ?_
    refine go_goto X7 97 at_76 (by decide) (by decide) ?_
    exact J9 _ (by first | rw [if_pos c10] | simp only [c10, if_true, if_false, ite_self] | rfl)
  intro z8 hz8
  refine go_aload X7 at_97 rfl rfl 99 rfl ?_
  refine go_lloadN X7 at_99 rfl 100 rfl ?_
  refine go_callVs X7 0 [(.long i0)] [] (wd32 hw) (wd33 hw) (wd35 hw) (wd34 hw) (wd3 hw) (wd36 hw) (by decide) E_q (rm6 l Z a0 hw [] h7 n0 q i0 v3 v4 v1  F_datacenterBits F_workerBits F_sequenceBits E_q) (by decide) (by decide) rfl (lenOf pd_5 rfl) rfl rfl (Nat.le_of_eq rfl) at_100 (by decide) (by decide) 103 rfl PQ.fr (PQ.k (fun T11 X11 => ?_))
  show Go p e below E m T11 103 #[.val (.long i0), .second, .val (.int i1), .val (.int i2), .val (.int i3), .val (.int v1), .val (.int v2), .val (.int v3), .val (.int v4), .val (.int v5), .val (.ref q), .val (.long z8), .second] [(.long (own_node i0 v3 v4 v1))]
  rw [(by rw [own_node] : (own_node i0 v3 v4 v1) = ((XT.ushrL i0 v1) &&& (((1 : Int64) <<< ((v3 + v4).toInt64 &&& 63)) - (1 : Int64))))]
  refine go_lload X11 at_103 rfl 105 rfl ?_
  refine go_lif X11 106 109 113 at_105 rfl at_106 rfl (by decide) (by decide) ?_ ?_
  · intro (c12 : ¬ (((XT.ushrL i0 v1) &&& (((1 : Int64) <<< ((v3 + v4).toInt64 &&& 63)) - (1 : Int64))) = z8))
    exfalso
    exact c12 (own_main hB hv4 hz8)
  intro (c12 : ¬ (¬ (((XT.ushrL i0 v1) &&& (((1 : Int64) <<< ((v3 + v4).toInt64 &&& 63)) - (1 : Int64))) = z8)))
  replace c12 : ((XT.ushrL i0 v1) &&& (((1 : Int64) <<< ((v3 + v4).toInt64 &&& 63)) - (1 : Int64))) = z8 := Decidable.not_not.mp c12
  refine go_iconst X11 (1 : Int32) at_109 (by decide) 110 rfl ?_
  refine go_goto X11 114 at_110 (by decide) (by decide) ?_
  exact go_retN X11 hE (by simp) at_114 (fun L N => ⟨rfl, N⟩) (by decide) (by decide)
set_option maxRecDepth 65536 in
set_option maxHeartbeats 40000000 in
theorem comes_1 {Post : Tables → Env → Array Value → State → Outcome → State → Prop} (hpost : ∀ tb e args s v u, (limb_1_1.after args s (.returned v) u = true ∧ limb_1_2.after args s (.returned v) u = true ∧ True) → FrameEnd s (.returned v) u (Jvm.fieldLocs frame_1_writes args s ++ Jvm.arrayLocs frame_1_arrays args s ++ Jvm.staticLocs frame_1_statics s) 16 128 → Post tb e args s (.returned v) u) :
    ArmFor flags0 classFile x code maxLocals ret World_1 tables_1 room_1 Calls_1 rest_1 Pre_1 Post := by
  intro l hfl _ _ p e ha hc hk s m args below hf hA hF happ hP
  obtain ⟨hcalls, hrest, hpre⟩ := hP
  obtain ⟨-, -, -, hnamed, -, -, -, hat⟩ := (Spec.applies_iff hf).mp happ
  obtain ⟨hg, hn⟩ := and_e (Cond.before_iff.mp (show (Jvm.Cond.and given_1 narrow_1).before args s = true from hpre))
  obtain ⟨hcnt, hg⟩ := and_e hg
  obtain ⟨g0, hg⟩ := and_e hg
  obtain ⟨g1, hg⟩ := and_e hg
  obtain ⟨g2, hg⟩ := and_e hg
  have g3 := hg
  obtain ⟨w0, w1, w2, w3, rfl⟩ : ∃ w0 w1 w2 w3 : Value, args = #[w0, w1, w2, w3] := by
    have hs : args.size = 4 := by simpa [Cond.value, given_1] using hcnt
    obtain ⟨L⟩ := args
    match L, hs with
    | [w0, w1, w2, w3], _ => exact ⟨w0, w1, w2, w3, rfl⟩
  have hw := fun d (hd : d ∈ tables_1) => atoms_spec (ws := Jvm.Cond.code x code maxLocals ret :: tables_1) hat d (List.mem_cons_of_mem _ hd)
  obtain ⟨i0, ei0⟩ := isL_v g0
  obtain rfl : w0 = (.long i0) := Option.some.inj ei0
  obtain ⟨i1, ei1⟩ := is_v g1
  obtain rfl : w1 = (.int i1) := Option.some.inj ei1
  obtain ⟨i2, ei2⟩ := is_v g2
  obtain rfl : w2 = (.int i2) := Option.some.inj ei2
  obtain ⟨i3, ei3⟩ := is_v g3
  obtain rfl : w3 = (.int i3) := Option.some.inj ei3
  have S_FE := own_sta (own_eqL hn) (wd3 hw) (wd21 hw)
  obtain ⟨n, o, h1, h2, h3, _, L, rfl, ⟨rfl, N⟩, hq⟩ := rm0 l s _ hw tables_1 s.heap s.heap.size (Nat.le_refl _) i0 i1 i2 i3 S_FE p e ha hc hk s m _ below hf ((Spec.applies_iff_loose hf).mp happ).1 ⟨rfl, State.Warmed39.refl s, rfl⟩ trivial
  refine ⟨n, _, h1, h2, h3, hpost _ _ _ _ _ _ ⟨Cond.after_iff.mpr rfl, Cond.after_iff.mpr (eq_i res_at (Term.int_eval (1)) rfl), trivial⟩ ⟨hq.1, hq.2.1, (hq.2.2.sift fun y hy => Or.inr (N y hy)).mono (by decide) (by decide)⟩⟩
theorem main_1_1 : Claimed_1_1 := comes_1 fun _ _ _ _ _ _ h hF => ⟨h.1, hF⟩
theorem main_1_2 : Claimed_1_2 := comes_1 fun _ _ _ _ _ _ h hF => ⟨h.2.1, hF⟩
end Jvm.Pilot.@@N@@
namespace Jvm.Pilot.@@N@@
open Jvm Jvm.ClassFile Sem Op Lib Jvm.Free Jvm.Stand Jvm.Pilot.@@N@@.Jvm.D
/-! MADE BY PROGRAM (witnessworld.py) out of the Statement's table words and the real class files: 11 classes; the members and pool entries that the words name. The judged class is class 1, her method 1. -/
namespace start1
open Jvm.ClassFile
def u (s : String) : CpInfo := .utf8 (stringToUtf16 s)
/-- a pool by its gaps: so many unusable entries, then the entry; so many at the end -/
def gap : Nat → List CpInfo → List CpInfo
  | 0, r => r
  | n + 1, r => .unusable :: gap n r
def poolList (es : List (Nat × CpInfo)) (last : Nat) : List CpInfo := es.foldr (fun e r => gap e.1 (e.2 :: r)) (gap last [])
def pool (es : List (Nat × CpInfo)) (last : Nat) : Array CpInfo := ⟨poolList es last⟩
def fileOf (pool : Array CpInfo) (this : Nat) (attrs : Array Attribute := #[]) (ms : Array MethodInfo := #[]) (fl : Nat := 33) (sup : Nat := 0) (ifs : Array Nat := #[]) (fds : Array FieldInfo := #[]) : ClassFile where
  minorVersion := 0
  majorVersion := 65
  constantPool := pool
  accessFlags := fl
  thisClass := this
  superClass := sup
  interfaces := ifs
  fields := fds
  methods := ms
  attributes := attrs
def plain (name : String) (sup : Option ClassId) : Class where
  name := name
  kind := .ordinary
  loader := none
  accessFlags := 33
  super := sup
  interfaces := #[]
  cf := none
  fields := #[]
  methods := #[]
  instanceTypes := #[]
  staticTypes := #[]
  resolved := #[]
  callSites := []
  init := .initialized
  statics := none
  mirror := none

def pool0 : Array CpInfo := pool [(5, u "<init>"), (0, u "()V"), (1, .class_ 10), (1, u "java/lang/Object")] 113

def k0c0 : Code := { maxStack := 0, maxLocals := 1, code := object_method_1_code, exceptionTable := #[], attributes := #[] }
def k0m0 : Method := { name := "<init>", desc := "()V", sig := { parameters := [], returnType := none }, accessFlags := 1, code := some k0c0 }
/-- java/lang/Object -/
def k0 : Class := { plain "java/lang/Object" none with
  accessFlags := 33
  interfaces := #[]
  cf := some (fileOf pool0 8 #[] #[{ accessFlags := 1, nameIndex := 5, descriptorIndex := 6, attributes := #[] }] 33 0 #[] #[])
  fields := #[]
  methods := #[k0m0]
  instanceTypes := #[]
  staticTypes := #[]
  resolved := Array.replicate 124 none
  statics := none }

def pool1 : Array CpInfo := pool [(2, .class_ 4), (1, u "java/lang/Object"), (0, u "<init>"), (0, u "()V"), (0, .integer 2147483647), (0, .class_ 9), (0, u "com/example/ordo/ordo/Layout"), (0, .methodref 8 11), (0, .nameAndType 5 12), (0, u "(JIIII)V"), (0, .methodref 8 14), (0, .nameAndType 15 16), (0, u "node"), (0, u "(J)J"), (0, .class_ 18), (0, u "com/example/ordo/ordo/LayoutNodePinLaw"), (2, u "law"), (0, u "(JIII)Z")] 3

def k1m0 : Method := { name := "<init>", desc := "()V", sig := { parameters := [], returnType := none }, accessFlags := 1, code := none }
def k1c1 : Code := { maxStack := 8, maxLocals := 13, code := code, exceptionTable := #[], attributes := #[] }
def k1m1 : Method := { name := "law", desc := "(JIII)Z", sig := { parameters := [.long, .int, .int, .int], returnType := some .boolean }, accessFlags := 9, code := some k1c1 }
/-- com/example/ordo/ordo/LayoutNodePinLaw -/
def k1 : Class := { plain "com/example/ordo/ordo/LayoutNodePinLaw" (some 0) with
  accessFlags := 49
  interfaces := #[]
  cf := some (fileOf pool1 17 #[] #[{ accessFlags := 1, nameIndex := 5, descriptorIndex := 6, attributes := #[] }, { accessFlags := 9, nameIndex := 21, descriptorIndex := 22, attributes := #[] }] 49 2 #[] #[])
  fields := #[]
  methods := #[k1m0, k1m1]
  instanceTypes := #[]
  staticTypes := #[]
  resolved := Array.replicate 26 none
  statics := none }

def pool2 : Array CpInfo := pool [(1, .methodref 2 3), (0, .class_ 4), (0, .nameAndType 5 6), (0, u "java/lang/Object"), (0, u "<init>"), (0, u "()V"), (0, .class_ 8), (0, u "java/lang/Record")] 13

def k2c0 : Code := { maxStack := 1, maxLocals := 1, code := jdk_30_method_1_code, exceptionTable := #[], attributes := #[] }
def k2m0 : Method := { name := "<init>", desc := "()V", sig := { parameters := [], returnType := none }, accessFlags := 4, code := some k2c0 }
/-- java/lang/Record -/
def k2 : Class := { plain "java/lang/Record" (some 0) with
  accessFlags := 1057
  interfaces := #[]
  cf := some (fileOf pool2 7 #[] #[{ accessFlags := 4, nameIndex := 5, descriptorIndex := 6, attributes := #[] }] 1057 2 #[] #[])
  fields := #[]
  methods := #[k2m0]
  instanceTypes := #[]
  staticTypes := #[]
  resolved := Array.replicate 22 none
  statics := none }

def pool3 : Array CpInfo := pool [(1, .methodref 2 3), (0, .class_ 4), (0, .nameAndType 5 6), (0, u "java/lang/Record"), (0, u "<init>"), (0, u "()V"), (0, .methodref 8 9), (0, .class_ 10), (0, .nameAndType 11 12), (0, u "java/lang/Math"), (0, u "min"), (0, u "(II)I"), (0, .long 63), (10, .fieldref 25 26), (0, .class_ 27), (0, .nameAndType 28 29), (0, u "com/example/ordo/ordo/Layout"), (0, u "FIRST_EPOCH"), (0, u "J"), (7, .fieldref 25 38), (0, .nameAndType 39 29), (0, u "epochMillis"), (0, .fieldref 25 41), (0, .nameAndType 42 43), (0, u "timeBits"), (0, u "I"), (0, .fieldref 25 45), (0, .nameAndType 46 43), (0, u "datacenterBits"), (0, .fieldref 25 48), (0, .nameAndType 49 43), (0, u "workerBits"), (0, .fieldref 25 51), (0, .nameAndType 52 43), (0, u "sequenceBits"), (4, u "()J"), (6, .methodref 25 65), (0, .nameAndType 66 67), (0, u "nodeBits"), (0, u "()I"), (0, .methodref 25 69), (0, .nameAndType 70 57), (0, u "maxNode"), (6, u "(J)J"), (6, u "node"), (8, u "UTC"), (0, u "Ljava/time/format/DateTimeFormatter;"), (66, u "(JIIII)V"), (2, u "DEFAULT"), (0, u "Lcom/example/ordo/ordo/Layout;")] 60

def k3c0 : Code := { maxStack := 8, maxLocals := 9, code := prog_4_method_1_code, exceptionTable := #[], attributes := #[] }
def k3m0 : Method := { name := "<init>", desc := "(JIIII)V", sig := { parameters := [.long, .int, .int, .int, .int], returnType := none }, accessFlags := 0, code := some k3c0 }
def k3c1 : Code := { maxStack := 4, maxLocals := 1, code := prog_4_method_5_code, exceptionTable := #[], attributes := #[] }
def k3m1 : Method := { name := "maxNode", desc := "()J", sig := { parameters := [], returnType := some .long }, accessFlags := 0, code := some k3c1 }
def k3c2 : Code := { maxStack := 4, maxLocals := 3, code := prog_4_method_11_code, exceptionTable := #[], attributes := #[] }
def k3m2 : Method := { name := "node", desc := "(J)J", sig := { parameters := [.long], returnType := some .long }, accessFlags := 0, code := some k3c2 }
def k3c3 : Code := { maxStack := 2, maxLocals := 1, code := prog_4_method_18_code, exceptionTable := #[], attributes := #[] }
def k3m3 : Method := { name := "nodeBits", desc := "()I", sig := { parameters := [], returnType := some .int }, accessFlags := 2, code := some k3c3 }
/-- com/example/ordo/ordo/Layout -/
def k3 : Class := { plain "com/example/ordo/ordo/Layout" (some 2) with
  accessFlags := 48
  interfaces := #[]
  cf := some (fileOf pool3 25 #[] #[{ accessFlags := 0, nameIndex := 5, descriptorIndex := 161, attributes := #[] }, { accessFlags := 0, nameIndex := 70, descriptorIndex := 57, attributes := #[] }, { accessFlags := 0, nameIndex := 84, descriptorIndex := 77, attributes := #[] }, { accessFlags := 2, nameIndex := 66, descriptorIndex := 67, attributes := #[] }] 48 2 #[] #[{ accessFlags := 18, nameIndex := 39, descriptorIndex := 29, attributes := #[] }, { accessFlags := 18, nameIndex := 42, descriptorIndex := 43, attributes := #[] }, { accessFlags := 18, nameIndex := 46, descriptorIndex := 43, attributes := #[] }, { accessFlags := 18, nameIndex := 49, descriptorIndex := 43, attributes := #[] }, { accessFlags := 18, nameIndex := 52, descriptorIndex := 43, attributes := #[] }, { accessFlags := 26, nameIndex := 93, descriptorIndex := 94, attributes := #[] }, { accessFlags := 26, nameIndex := 28, descriptorIndex := 29, attributes := #[] }, { accessFlags := 24, nameIndex := 164, descriptorIndex := 165, attributes := #[] }])
  fields := #[{ name := "epochMillis", type := .long, accessFlags := 18, slot := 0, constantValue := 0 }, { name := "timeBits", type := .int, accessFlags := 18, slot := 1, constantValue := 0 }, { name := "datacenterBits", type := .int, accessFlags := 18, slot := 2, constantValue := 0 }, { name := "workerBits", type := .int, accessFlags := 18, slot := 3, constantValue := 0 }, { name := "sequenceBits", type := .int, accessFlags := 18, slot := 4, constantValue := 0 }, { name := "UTC", type := (.object "java/time/format/DateTimeFormatter"), accessFlags := 26, slot := 0, constantValue := 0 }, { name := "FIRST_EPOCH", type := .long, accessFlags := 26, slot := 1, constantValue := 0 }, { name := "DEFAULT", type := (.object "com/example/ordo/ordo/Layout"), accessFlags := 24, slot := 2, constantValue := 0 }]
  methods := #[k3m0, k3m1, k3m2, k3m3]
  instanceTypes := #[.long, .int, .int, .int, .int]
  staticTypes := #[(.object "java/time/format/DateTimeFormatter"), .long, (.object "com/example/ordo/ordo/Layout")]
  resolved := Array.replicate 226 none
  statics := some 0 }

def pool4 : Array CpInfo := pool [(1, .class_ 2), (0, u "java/lang/Math"), (1, .class_ 6), (1, u "java/lang/Object"), (0, u "<init>"), (0, u "()V"), (89, .class_ 100), (1, u "java/lang/Math$RandomNumberGeneratorHolder"), (71, u "negativeZeroFloatBits"), (0, u "J"), (2, u "negativeZeroDoubleBits"), (24, u "min"), (43, u "$assertionsDisabled"), (0, u "Z"), (88, u "(II)I"), (2, u "twoToTheDoubleScaleDown"), (0, u "D"), (4, u "twoToTheDoubleScaleUp"), (9, u "E"), (3, u "PI"), (2, u "TAU"), (2, u "DEGREES_TO_RADIANS"), (0, u "RADIANS_TO_DEGREES")] 94

def k4m0 : Method := { name := "<init>", desc := "()V", sig := { parameters := [], returnType := none }, accessFlags := 2, code := none }
def k4c1 : Code := { maxStack := 2, maxLocals := 2, code := jdk_29_method_69_code, exceptionTable := #[], attributes := #[] }
def k4m1 : Method := { name := "min", desc := "(II)I", sig := { parameters := [.int, .int], returnType := some .int }, accessFlags := 9, code := some k4c1 }
/-- java/lang/Math -/
def k4 : Class := { plain "java/lang/Math" (some 0) with
  accessFlags := 49
  interfaces := #[]
  cf := some (fileOf pool4 1 #[.nestMembers #[98]] #[{ accessFlags := 2, nameIndex := 7, descriptorIndex := 8, attributes := #[] }, { accessFlags := 9, nameIndex := 201, descriptorIndex := 335, attributes := #[] }] 49 4 #[] #[{ accessFlags := 25, nameIndex := 354, descriptorIndex := 339, attributes := #[] }, { accessFlags := 25, nameIndex := 358, descriptorIndex := 339, attributes := #[] }, { accessFlags := 25, nameIndex := 361, descriptorIndex := 339, attributes := #[] }, { accessFlags := 26, nameIndex := 364, descriptorIndex := 339, attributes := #[] }, { accessFlags := 26, nameIndex := 365, descriptorIndex := 339, attributes := #[] }, { accessFlags := 26, nameIndex := 172, descriptorIndex := 173, attributes := #[] }, { accessFlags := 26, nameIndex := 176, descriptorIndex := 173, attributes := #[] }, { accessFlags := 8, nameIndex := 344, descriptorIndex := 339, attributes := #[] }, { accessFlags := 8, nameIndex := 338, descriptorIndex := 339, attributes := #[] }, { accessFlags := 4120, nameIndex := 245, descriptorIndex := 246, attributes := #[] }])
  fields := #[{ name := "E", type := .double, accessFlags := 25, slot := 0, constantValue := 0 }, { name := "PI", type := .double, accessFlags := 25, slot := 1, constantValue := 0 }, { name := "TAU", type := .double, accessFlags := 25, slot := 2, constantValue := 0 }, { name := "DEGREES_TO_RADIANS", type := .double, accessFlags := 26, slot := 3, constantValue := 0 }, { name := "RADIANS_TO_DEGREES", type := .double, accessFlags := 26, slot := 4, constantValue := 0 }, { name := "negativeZeroFloatBits", type := .long, accessFlags := 26, slot := 5, constantValue := 0 }, { name := "negativeZeroDoubleBits", type := .long, accessFlags := 26, slot := 6, constantValue := 0 }, { name := "twoToTheDoubleScaleUp", type := .double, accessFlags := 8, slot := 7, constantValue := 0 }, { name := "twoToTheDoubleScaleDown", type := .double, accessFlags := 8, slot := 8, constantValue := 0 }, { name := "$assertionsDisabled", type := .boolean, accessFlags := 4120, slot := 9, constantValue := 0 }]
  methods := #[k4m0, k4m1]
  instanceTypes := #[]
  staticTypes := #[.double, .double, .double, .double, .double, .long, .long, .double, .double, .boolean]
  resolved := Array.replicate 460 none
  statics := none }

def pool5 : Array CpInfo := pool [(1, u "java/lang/Cloneable"), (0, .class_ 1), (0, u "java/lang/Object"), (0, .class_ 3)] 3

/-- java/lang/Cloneable -/
def k5 : Class := { plain "java/lang/Cloneable" (some 0) with
  accessFlags := 1537
  interfaces := #[]
  cf := some (fileOf pool5 2 #[] #[] 1537 4 #[] #[])
  fields := #[]
  methods := #[]
  instanceTypes := #[]
  staticTypes := #[]
  resolved := Array.replicate 8 none
  statics := none }

def pool6 : Array CpInfo := pool [(1, u "java/io/Serializable"), (0, .class_ 1), (0, u "java/lang/Object"), (0, .class_ 3)] 3

/-- java/io/Serializable -/
def k6 : Class := { plain "java/io/Serializable" (some 0) with
  accessFlags := 1537
  interfaces := #[]
  cf := some (fileOf pool6 2 #[] #[] 1537 4 #[] #[])
  fields := #[]
  methods := #[]
  instanceTypes := #[]
  staticTypes := #[]
  resolved := Array.replicate 8 none
  statics := none }

/-- the primitive byte -/
def k7 : Class := { plain "byte" none with kind := .primitive 'B', accessFlags := 0x411 }
/-- [B -/
def k8 : Class := { plain "[B" (some 0) with kind := .array 7 .byte, interfaces := #[5, 6], accessFlags := 1041 }

/-- the primitive int -/
def k9 : Class := { plain "int" none with kind := .primitive 'I', accessFlags := 0x411 }
/-- [I -/
def k10 : Class := { plain "[I" (some 0) with kind := .array 9 .int, interfaces := #[5, 6], accessFlags := 1041 }

def heap : Heap := #[{ cls := 3, slots := #[.null, .long (-62167219200000), .null], vm := .statics 3 }]
def classes : Array Class := #[k0, k1, k2, k3, k4, k5, k6, k7, k8, k9, k10]
def interned : List (Array UInt16 × Addr) := []
def slotsUsed : Nat := 3
def theMethod : MethodId := ⟨1, 1⟩
def args0 : Array Value := #[.long 5, .int 9, .int 5, .int 6]
def aboutOver (below : List Frame) : State where
  vm := { classes := classes, interned := interned.toArray }
  heap := heap
  slotsUsed := slotsUsed
  threads := #[{ frames := .invoking theMethod args0 :: below }]
def below0 : List Frame := [.native { method := ⟨0, 0⟩, args := #[] }]
def about1 : State := aboutOver below0
def p0 : Program := .bare "" "" ""
def e0 : Env := launch0.env 0 0 0
theorem w_frames : about1.frames = Frame.invoking theMethod args0 :: below0 := rfl
set_option maxRecDepth 65536 in
theorem w_args : argsFit about1.vm theMethod args0 = true := by decide +kernel
set_option maxRecDepth 65536 in
theorem w_heap : heapFits about1 = true := by decide +kernel
set_option maxRecDepth 65536 in
theorem w_runnable : about1.curStatus? = some .runnable := by decide +kernel
set_option maxRecDepth 65536 in
theorem w_alone : about1.alone = true := by decide +kernel
set_option maxRecDepth 65536 in
theorem w_named : about1.methodNamed? x = some theMethod := by decide +kernel
set_option maxRecDepth 65536 in
theorem w_hears : about1.hears theMethod below0 = true := by decide +kernel
set_option maxRecDepth 65536 in
theorem w_ripe : about1.ripe theMethod args0 below0 = true := by decide +kernel
theorem w_running : about1.status = .running := rfl
set_option maxRecDepth 65536 in
theorem w_room : about1.hasRoom e0.platform room_1 = true :=
  launch0.hasRoom_least _ room_1 (by decide +kernel) (by decide +kernel) (by decide +kernel) (by decide +kernel) (by decide +kernel) (by decide +kernel)
theorem allAtoms_all (ts : List Jvm.Cond) (a : Array Jvm.Value) (st : Jvm.State) : (allAtoms ts).before a st = ts.all (fun c => c.before a st) := by
  induction ts with
  | nil => rfl
  | cons c t ih =>
    show (Jvm.Cond.and c (allAtoms t)).before a st = _
    rw [Jvm.Cond.before_and, ih, List.all_cons]
def words1 : List Jvm.Cond := Jvm.Cond.code x code maxLocals ret :: tables_1
/-- a 'code' word, met by the world's own term for the bytes: nothing is compared byte by byte -/
theorem code_word {y : MethodName} {bytes : ByteArray} {mx : Nat} {rt : Option FieldType} {a : Array Value} {s : State} {m : MethodId} {meth : Method} {c : Code} (h1 : s.methodNamed? y = some m) (h2 : s.vm.method? m = some meth) (h3 : meth.code = some c) (h4 : c.code = bytes)
    (h5 : (c.maxLocals == mx && c.exceptionTable.isEmpty && decide (c.maxStack ≤ mostOperands) && decide (meth.sig.returnType = rt) && !meth.locks && decide (parseMethodDescriptor y.desc = some meth.sig)) = true) : (Jvm.Cond.code y bytes mx rt).before a s = true := by
  simp only [Bool.and_eq_true, beq_iff_eq, Bool.not_eq_true', decide_eq_true_eq] at h5
  obtain ⟨⟨⟨⟨⟨g1, g2⟩, g3⟩, g4⟩, g5⟩, g6⟩ := h5
  simp [Cond.before, Cond.holds, Cond.value, h1, h2, h3, h4, g1, g2, g3, g4, g5, g6]
def isCode : Jvm.Cond → Bool
  | .code _ _ _ _ => true
  | _ => false
theorem all_split {L : List Jvm.Cond} {P : Jvm.Cond → Bool} (h1 : L.all (fun c => isCode c || P c) = true) (h2 : ∀ c ∈ L.filter isCode, P c = true) : L.all P = true := by
  refine List.all_eq_true.mpr fun c hc => ?_
  have h := List.all_eq_true.mp h1 c hc
  rcases Bool.eq_false_or_eq_true (isCode c) with hi | hi
  · exact h2 c (List.mem_filter.mpr ⟨hc, hi⟩)
  · simpa [hi] using h
set_option maxRecDepth 65536 in
theorem w_c0 : (Jvm.Cond.code x code maxLocals ret).before args0 about1 = true := code_word (m := ⟨1, 1⟩) (meth := k1m1) (c := k1c1) (by decide +kernel) rfl rfl rfl (by decide +kernel)
set_option maxRecDepth 65536 in
theorem w_c1 : (Jvm.Cond.code ({ cls := "com/example/ordo/ordo/Layout", name := "<init>", desc := "(JIIII)V" } : Jvm.MethodName) prog_4_method_1_code (9 : Nat) (Option.none : Option Jvm.ClassFile.FieldType)).before args0 about1 = true := code_word (m := ⟨3, 0⟩) (meth := k3m0) (c := k3c0) (by decide +kernel) rfl rfl rfl (by decide +kernel)
set_option maxRecDepth 65536 in
theorem w_c2 : (Jvm.Cond.code ({ cls := "java/lang/Record", name := "<init>", desc := "()V" } : Jvm.MethodName) jdk_30_method_1_code (1 : Nat) (Option.none : Option Jvm.ClassFile.FieldType)).before args0 about1 = true := code_word (m := ⟨2, 0⟩) (meth := k2m0) (c := k2c0) (by decide +kernel) rfl rfl rfl (by decide +kernel)
set_option maxRecDepth 65536 in
theorem w_c3 : (Jvm.Cond.code ({ cls := "java/lang/Object", name := "<init>", desc := "()V" } : Jvm.MethodName) object_method_1_code (1 : Nat) (Option.none : Option Jvm.ClassFile.FieldType)).before args0 about1 = true := code_word (m := ⟨0, 0⟩) (meth := k0m0) (c := k0c0) (by decide +kernel) rfl rfl rfl (by decide +kernel)
set_option maxRecDepth 65536 in
theorem w_c4 : (Jvm.Cond.code ({ cls := "java/lang/Math", name := "min", desc := "(II)I" } : Jvm.MethodName) jdk_29_method_69_code (2 : Nat) (Option.some Jvm.ClassFile.FieldType.int)).before args0 about1 = true := code_word (m := ⟨4, 1⟩) (meth := k4m1) (c := k4c1) (by decide +kernel) rfl rfl rfl (by decide +kernel)
set_option maxRecDepth 65536 in
theorem w_c5 : (Jvm.Cond.code ({ cls := "com/example/ordo/ordo/Layout", name := "node", desc := "(J)J" } : Jvm.MethodName) prog_4_method_11_code (3 : Nat) (Option.some Jvm.ClassFile.FieldType.long)).before args0 about1 = true := code_word (m := ⟨3, 2⟩) (meth := k3m2) (c := k3c2) (by decide +kernel) rfl rfl rfl (by decide +kernel)
set_option maxRecDepth 65536 in
theorem w_c6 : (Jvm.Cond.code ({ cls := "com/example/ordo/ordo/Layout", name := "maxNode", desc := "()J" } : Jvm.MethodName) prog_4_method_5_code (1 : Nat) (Option.some Jvm.ClassFile.FieldType.long)).before args0 about1 = true := code_word (m := ⟨3, 1⟩) (meth := k3m1) (c := k3c1) (by decide +kernel) rfl rfl rfl (by decide +kernel)
set_option maxRecDepth 65536 in
theorem w_c7 : (Jvm.Cond.code ({ cls := "com/example/ordo/ordo/Layout", name := "nodeBits", desc := "()I" } : Jvm.MethodName) prog_4_method_18_code (1 : Nat) (Option.some Jvm.ClassFile.FieldType.int)).before args0 about1 = true := code_word (m := ⟨3, 3⟩) (meth := k3m3) (c := k3c3) (by decide +kernel) rfl rfl rfl (by decide +kernel)
def codes1 : List Jvm.Cond := [Jvm.Cond.code x code maxLocals ret, Jvm.Cond.code ({ cls := "com/example/ordo/ordo/Layout", name := "<init>", desc := "(JIIII)V" } : Jvm.MethodName) prog_4_method_1_code (9 : Nat) (Option.none : Option Jvm.ClassFile.FieldType), Jvm.Cond.code ({ cls := "java/lang/Record", name := "<init>", desc := "()V" } : Jvm.MethodName) jdk_30_method_1_code (1 : Nat) (Option.none : Option Jvm.ClassFile.FieldType), Jvm.Cond.code ({ cls := "java/lang/Object", name := "<init>", desc := "()V" } : Jvm.MethodName) object_method_1_code (1 : Nat) (Option.none : Option Jvm.ClassFile.FieldType), Jvm.Cond.code ({ cls := "java/lang/Math", name := "min", desc := "(II)I" } : Jvm.MethodName) jdk_29_method_69_code (2 : Nat) (Option.some Jvm.ClassFile.FieldType.int), Jvm.Cond.code ({ cls := "com/example/ordo/ordo/Layout", name := "node", desc := "(J)J" } : Jvm.MethodName) prog_4_method_11_code (3 : Nat) (Option.some Jvm.ClassFile.FieldType.long), Jvm.Cond.code ({ cls := "com/example/ordo/ordo/Layout", name := "maxNode", desc := "()J" } : Jvm.MethodName) prog_4_method_5_code (1 : Nat) (Option.some Jvm.ClassFile.FieldType.long), Jvm.Cond.code ({ cls := "com/example/ordo/ordo/Layout", name := "nodeBits", desc := "()I" } : Jvm.MethodName) prog_4_method_18_code (1 : Nat) (Option.some Jvm.ClassFile.FieldType.int)]
set_option maxRecDepth 65536 in
theorem codes_eq : words1.filter isCode = codes1 := rfl
theorem w_codes : ∀ c ∈ words1.filter isCode, c.before args0 about1 = true := by
  rw [codes_eq]
  intro c hc
  simp only [codes1, List.mem_cons, List.not_mem_nil, or_false] at hc
  rcases hc with rfl | rfl | rfl | rfl | rfl | rfl | rfl | rfl
  · exact w_c0
  · exact w_c1
  · exact w_c2
  · exact w_c3
  · exact w_c4
  · exact w_c5
  · exact w_c6
  · exact w_c7
set_option maxRecDepth 65536 in
theorem w_t1 : (words1.take 24).all (fun c => isCode c || c.before args0 about1) = true := by decide +kernel
set_option maxRecDepth 65536 in
theorem w_t2 : (words1.drop 24).all (fun c => isCode c || c.before args0 about1) = true := by decide +kernel
theorem w_tables : (allAtoms (Jvm.Cond.code x code maxLocals ret :: tables_1)).before args0 about1 = true := by
  rw [allAtoms_all]
  show words1.all (fun c => c.before args0 about1) = true
  refine all_split ?_ w_codes
  rw [← List.take_append_drop 24 words1, List.all_append, w_t1, w_t2]
  rfl
set_option maxRecDepth 65536 in
theorem w_case : (Jvm.Cond.and given_1 narrow_1).before args0 about1 = true := by decide +kernel
theorem w_applies : (headSpec (Jvm.Cond.code x code maxLocals ret :: tables_1) room_1).applies x e0.platform about1 = true :=
  (Spec.applies_iff w_frames).mpr ⟨w_running, w_runnable, w_alone, w_named, w_hears, w_ripe, w_room, w_tables⟩
theorem atStart : AtStart classFile x code maxLocals ret World_1 tables_1 room_1 Calls_1 rest_1 Pre_1 launch0 p0 e0 about1 theMethod args0 below0 :=
  ⟨lists_1, trivial, launch0.admits_env _ _ _, launch0.least_env, fairChoices_fair.cas, fairChoices_fair.clock, w_frames, w_args, w_heap, w_applies, trivial, trivial, w_case⟩
end start1
theorem witness_1 : WitnessClaimed_1 := ⟨start1.p0, start1.e0, start1.about1, start1.theMethod, start1.args0, start1.below0, start1.atStart⟩
end Jvm.Pilot.@@N@@
