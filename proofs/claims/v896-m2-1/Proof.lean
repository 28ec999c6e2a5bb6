import JvmDerived
import JvmDerived.Pilot.@@N@@Statement
import JvmDerived.Pilot.@@N@@Code
set_option linter.unusedVariables false
set_option linter.unusedSimpArgs false
@@BLOCK:NumsL.lean.txt@@
namespace Jvm.RoadKit
open Sem ClassFile Op Lib Jvm.Stand Jvm.Free Jvm.LawKit
section OwnKit
variable {p : Program} {l : Launch} {e : Env} {R : Room} {s : State} {m : MethodId} {args : Array Value} {below : List Frame} {meth : Method} {c : Code} {Z : State} {y : MethodName} {bytes : ByteArray} {ml : Nat} {ret : Option FieldType} {n0 : Nat} {T : State} {h : Heap} {cells slots : Nat} {E : State → Prop} {pc : Nat} {Ls : Array Slot} {st rest : List Value} {a0 : Array Value}
/-- from here the run comes to an end of which E holds -/
def Go (p : Program) (e : Env) (below : List Frame) (E : State → Prop) (m : MethodId) (T : State) (pc : Nat) (Ls : Array Slot) (st : List Value) : Prop := ∃ u, Steps p.tables e below (T.setTop (mkF m pc Ls st)) u ∧ E u
/-- where a walk stands: the library's Stand, what was written is new, the heap, and what is known of the body -/
def SD (p : Program) (l : Launch) (e : Env) (R : Room) (s : State) (m : MethodId) (args : Array Value) (below : List Frame) (meth : Method) (c : Code) (Z : State) (y : MethodName) (bytes : ByteArray) (ml : Nat) (ret : Option FieldType) (n0 : Nat) (T : State) (h : Heap) (cells slots : Nat) : Prop :=
  (∃ locs, Stand p l e R s m args below meth c T locs cells slots ∧ Fr n0 locs) ∧ T.heap = h ∧ p.tables.exec = Jvm.exec ∧ Z.Warmed39 s.vm ∧ s.vm.findClass y.cls = some m.cls ∧ c.code = bytes ∧ c.maxLocals = ml ∧ meth.sig.returnType = ret ∧ meth.locks = false ∧ meth.name = y.name
/-- the end of a body that returns -/
def EndQ (s : State) (below : List Frame) (Q : Option Value → Heap → List Loc → Prop) (k n : Nat) (u : State) : Prop := ∃ o, u.status = .running ∧ Ended u below o ∧ ∃ v L, o = .returned v ∧ Q v u.heap L ∧ FrameEnd s o u L k n
theorem go_cut {A G : Prop} (h1 : A → G) (h2 : A) : G := h1 h2
theorem go_by {T' : State} {pc' : Nat} {Ls' : Array Slot} {st' : List Value} (k : ∀ u, Steps p.tables e below (T'.setTop (mkF m pc' Ls' st')) u → Steps p.tables e below (T.setTop (mkF m pc Ls st)) u) (g : Go p e below E m T' pc' Ls' st') : Go p e below E m T pc Ls st := by
  obtain ⟨u, h1, h2⟩ := g
  exact ⟨u, k u h1, h2⟩
theorem met_of {ws : List Cond} {rm : Room} {as : Array Value} {Q : Option Value → Heap → List Loc → Prop} {k n : Nat} (hn : plainFor y = true) (hef : ∀ m, entryFrame m as ml = mkF m 0 Ls [])
    (body : ∀ p e s m below meth c T E, E = EndQ s below Q k n → SD p l e rm s m as below meth c Z y bytes ml ret n0 T h 0 0 → Go p e below E m T 0 Ls []) :
    MetFree l y (head1 (Cond.code y bytes ml ret :: ws) rm) (fun a U => a = as ∧ Z.Warmed39 U.vm ∧ U.heap = h) (fun _ _ _ _ _ => True) (fun _ U o U' => ∃ v L, o = .returned v ∧ Q v U'.heap L ∧ FrameEnd U o U' L k n) := by
  refine MetFree.of_bodySF hn hisR ?_
  intro p e s m args below meth c s₁ Bd hml0 hP hK
  obtain ⟨rfl, hZ, hh⟩ := hP
  obtain ⟨u, h1, o, h2, h3, h4⟩ := body p e s m below meth c s₁ _ rfl ⟨⟨[], Stand.of_body Bd, Fr.nil n0⟩, by rw [← hh, Bd.state]; rfl, Bd.exec, hZ, findClass_of_methodNamed Bd.named, Bd.bytes, hml0, Bd.returns, Bd.notSynchronized, (name_of_methodNamed Bd.named Bd.method).1⟩
  exact ⟨u, o, castTop (hef m) h1, h2, h3, h4⟩
/-! ### returns -/
theorem go_end {Q : Option Value → Heap → List Loc → Prop} {kc ks : Nat} {v : Option Value} (X : SD p l e R s m args below meth c Z y bytes ml ret n0 T h cells slots) (hE : E = EndQ s below Q kc ks) (hv : meth.sig.returnType = none → v = none)
    (hstep : ∀ fs, (∀ (f : JFrame) (acts : List Action), f.method = m → f.locked = none → f.entered = [] → (doReturn e (T.setTop f) acts v).1 = T.setFrames fs) → Steps p.tables e below (T.setTop (mkF m pc Ls st)) (T.setFrames fs))
    (hQ : ∀ L, Fr n0 L → Q v h L) (hc : cells ≤ kc) (hs : slots ≤ ks) : Go p e below E m T pc Ls st := by
  subst hE
  obtain ⟨⟨locs, X, N⟩, hh, hx, hZ, hown, hby, hml, hret, hlk, hnm⟩ := X
  obtain ⟨fs, hr, hrun, hended, hW, hsame⟩ := X.leave (v := v) hv hlk
  refine ⟨_, hstep fs hr, _, hrun, hended, _, _, rfl, ?_, ⟨_, rfl⟩, hW, hsame.mono hc hs⟩
  show Q v T.heap _
  rw [hh]
  exact hQ _ N
theorem go_retI {Q : Option Value → Heap → List Loc → Prop} {kc ks : Nat} {z : Int32} (X : SD p l e R s m args below meth c Z y bytes ml (some .int) n0 T h cells slots) (hE : E = EndQ s below Q kc ks) (hd : decode bytes pc = .ok (.ireturn, 1))
    (hQ : ∀ L, Fr n0 L → Q (some (.int z)) h L) (hc : cells ≤ kc) (hs : slots ≤ ks) : Go p e below E m T pc Ls (.int z :: st) := by
  have X' := X
  obtain ⟨⟨locs, X, N⟩, hh, hx, hZ, hown, hby, hml, hret, hlk, hnm⟩ := X
  refine go_end X' hE (fun q => by rw [hret] at q; cases q) (fun fs hl => ?_) hQ hc hs
  have hm' : T.vm.method? m = some meth := X.method'
  have hn : narrow .int (.int z) = .int z := rfl
  have hd' := hb hby hd
  show Steps p.tables e below (T.setTop { method := m, pc := pc, locals := Ls, stack := _ :: st, locked := none }) _
  jvm_step X.here [X.here.top, hx, hd', hm', hret, hn]
  first | (intro acts; rw [hl _ acts rfl rfl rfl]) | rw [hl _ _ rfl rfl rfl]
  exact Steps.refl _
theorem go_retN {Q : Option Value → Heap → List Loc → Prop} {kc ks : Nat} {z : Int32} {t : FieldType} (X : SD p l e R s m args below meth c Z y bytes ml (some t) n0 T h cells slots) (hE : E = EndQ s below Q kc ks) (ht : t = .boolean ∨ t = .byte ∨ t = .char ∨ t = .short) (hd : decode bytes pc = .ok (.ireturn, 1))
    (hQ : ∀ L, Fr n0 L → Q (some (.int (nar t z))) h L) (hc : cells ≤ kc) (hs : slots ≤ ks) : Go p e below E m T pc Ls (.int z :: st) := by
  have X' := X
  obtain ⟨⟨locs, X, N⟩, hh, hx, hZ, hown, hby, hml, hret, hlk, hnm⟩ := X
  exact go_end X' hE (fun q => by rw [hret] at q; cases q) (fun fs hl => retN X hx hret ht (hb hby hd) hl) hQ hc hs
theorem go_retL {Q : Option Value → Heap → List Loc → Prop} {kc ks : Nat} {z : Int64} (X : SD p l e R s m args below meth c Z y bytes ml (some .long) n0 T h cells slots) (hE : E = EndQ s below Q kc ks) (hd : decode bytes pc = .ok (.lreturn, 1))
    (hQ : ∀ L, Fr n0 L → Q (some (.long z)) h L) (hc : cells ≤ kc) (hs : slots ≤ ks) : Go p e below E m T pc Ls (.long z :: st) := by
  have X' := X
  obtain ⟨⟨locs, X, N⟩, hh, hx, hZ, hown, hby, hml, hret, hlk, hnm⟩ := X
  exact go_end X' hE (fun q => by rw [hret] at q; cases q) (fun fs hl => retOut X hx hret rfl (Or.inr (Or.inl ⟨rfl, rfl, _, rfl⟩)) (hb hby hd) hl) hQ hc hs
theorem go_retA {Q : Option Value → Heap → List Loc → Prop} {kc ks : Nat} {w : Value} {t : FieldType} (X : SD p l e R s m args below meth c Z y bytes ml (some t) n0 T h cells slots) (hE : E = EndQ s below Q kc ks) (ht : t.isReference = true) (hw : w.isRef = true) (hd : decode bytes pc = .ok (.areturn, 1))
    (hQ : ∀ L, Fr n0 L → Q (some w) h L) (hc : cells ≤ kc) (hs : slots ≤ ks) : Go p e below E m T pc Ls (w :: st) := by
  have X' := X
  obtain ⟨⟨locs, X, N⟩, hh, hx, hZ, hown, hby, hml, hret, hlk, hnm⟩ := X
  refine go_end X' hE (fun q => by rw [hret] at q; cases q) (fun fs hl => retOut X hx hret ?_ (Or.inr (Or.inr (Or.inr (Or.inr ⟨rfl, ht, hw⟩)))) (hb hby hd) hl) hQ hc hs
  rcases ref_cases hw with rfl | ⟨a, rfl⟩ <;> (cases t <;> first | rfl | (simp [FieldType.isReference] at ht))
theorem go_retV {Q : Option Value → Heap → List Loc → Prop} {kc ks : Nat} (X : SD p l e R s m args below meth c Z y bytes ml none n0 T h cells slots) (hE : E = EndQ s below Q kc ks) (hd : decode bytes pc = .ok (.return_, 1))
    (hQ : ∀ L, Fr n0 L → Q none h L) (hc : cells ≤ kc) (hs : slots ≤ ks) : Go p e below E m T pc Ls [] := by
  have X' := X
  obtain ⟨⟨locs, X, N⟩, hh, hx, hZ, hown, hby, hml, hret, hlk, hnm⟩ := X
  exact go_end X' hE (fun _ => rfl) (fun fs hl => X.returnOut hx hret (hb hby hd) hl) hQ hc hs
/-! ### plain steps -/
theorem go_nmI {t : Int32} (k : ∀ z, z = t → Go p e below E m T pc Ls (.int z :: st)) : Go p e below E m T pc Ls (.int t :: st) := k t rfl
theorem go_nmL {t : Int64} (k : ∀ z, z = t → Go p e below E m T pc Ls (.long z :: st)) : Go p e below E m T pc Ls (.long t :: st) := k t rfl
theorem go_nmR {t : Addr} (k : ∀ z, z = t → Go p e below E m T pc Ls (.ref z :: st)) : Go p e below E m T pc Ls (.ref t :: st) := k t rfl
theorem go_eqI {t t' : Int32} (q : t = t') (k : Go p e below E m T pc Ls (.int t' :: st)) : Go p e below E m T pc Ls (.int t :: st) := q ▸ k
theorem go_eqL {t t' : Int64} (q : t = t') (k : Go p e below E m T pc Ls (.long t' :: st)) : Go p e below E m T pc Ls (.long t :: st) := q ▸ k
theorem go_iconst (X : SD p l e R s m args below meth c Z y bytes ml ret n0 T h cells slots) {i : Int} (z : Int32) (hd : decode bytes pc = .ok (.iconst i, 1)) (hz : Int32.ofInt i = z) (q : Nat) (hq : pc + 1 = q) (k : Go p e below E m T q Ls (.int z :: st)) : Go p e below E m T pc Ls st := by
  obtain ⟨⟨locs, X, N⟩, hh, hx, hZ, hown, hby, -⟩ := X
  subst hz hq
  exact go_by (fun _ r => XS.iconst X.here hx rfl (hb hby hd) r) k
theorem go_bipush (X : SD p l e R s m args below meth c Z y bytes ml ret n0 T h cells slots) {i : Int} (z : Int32) (hd : decode bytes pc = .ok (.bipush i, 2)) (hz : (Int8.ofInt i).toInt32 = z) (q : Nat) (hq : pc + 2 = q) (k : Go p e below E m T q Ls (.int z :: st)) : Go p e below E m T pc Ls st := by
  obtain ⟨⟨locs, X, N⟩, hh, hx, hZ, hown, hby, -⟩ := X
  subst hz hq
  exact go_by (fun _ r => XS.bipush X.here hx rfl (hb hby hd) r) k
theorem go_lconst (X : SD p l e R s m args below meth c Z y bytes ml ret n0 T h cells slots) {i : Fin 2} (z : Int64) (hd : decode bytes pc = .ok (.lconst i, 1)) (hz : Int64.ofNat i = z) (q : Nat) (hq : pc + 1 = q) (k : Go p e below E m T q Ls (.long z :: st)) : Go p e below E m T pc Ls st := by
  obtain ⟨⟨locs, X, N⟩, hh, hx, hZ, hown, hby, -⟩ := X
  subst hz hq
  exact go_by (fun _ r => XS.lconst X.here hx rfl (hb hby hd) r) k
theorem go_null (X : SD p l e R s m args below meth c Z y bytes ml ret n0 T h cells slots) (hd : decode bytes pc = .ok (.aconst_null, 1)) (q : Nat) (hq : pc + 1 = q) (k : Go p e below E m T q Ls (.null :: st)) : Go p e below E m T pc Ls st := by
  obtain ⟨⟨locs, X, N⟩, hh, hx, hZ, hown, hby, -⟩ := X
  subst hq
  exact go_by (fun _ r => XS.aconstNull X.here hx rfl (hb hby hd) r) k
theorem go_ldc (X : SD p l e R s m args below meth c Z y bytes ml ret n0 T h cells slots) {i : Nat} {z : Int32} (w : (Cond.constant y.cls i z).before a0 Z = true) (hd : decode bytes pc = .ok (.ldc i, 2)) (q : Nat) (hq : pc + 2 = q) (k : Go p e below E m T q Ls (.int z :: st)) : Go p e below E m T pc Ls st := by
  obtain ⟨⟨locs, X, N⟩, hh, hx, hZ, hown, hby, -⟩ := X
  subst hq
  exact go_by (fun _ r => X.ldcInt hx hown (mvT hZ w) (g := mkF m pc Ls st) rfl (hb hby hd) _ r) k
theorem go_ldc2 (X : SD p l e R s m args below meth c Z y bytes ml ret n0 T h cells slots) {i : Nat} {z : Int64} (w : (Cond.constantLong y.cls i z).before a0 Z = true) (hd : decode bytes pc = .ok (.ldc2_w i, 3)) (q : Nat) (hq : pc + 3 = q) (k : Go p e below E m T q Ls (.long z :: st)) : Go p e below E m T pc Ls st := by
  obtain ⟨⟨locs, X, N⟩, hh, hx, hZ, hown, hby, -⟩ := X
  subst hq
  exact go_by (fun _ r => X.ldc2Long hx hown (mvT hZ w) (g := mkF m pc Ls st) rfl (hb hby hd) _ r) k
theorem go_iloadN (X : SD p l e R s m args below meth c Z y bytes ml ret n0 T h cells slots) {i : Fin 4} {v : Int32} (hd : decode bytes pc = .ok (.iload_n i, 1)) (hl : Ls[i.val]? = some (.val (.int v))) (q : Nat) (hq : pc + 1 = q) (k : Go p e below E m T q Ls (.int v :: st)) : Go p e below E m T pc Ls st := by
  obtain ⟨⟨locs, X, N⟩, hh, hx, hZ, hown, hby, -⟩ := X
  subst hq
  exact go_by (fun _ r => XS.iloadN X.here hx rfl (hb hby hd) hl r) k
theorem go_iload (X : SD p l e R s m args below meth c Z y bytes ml ret n0 T h cells slots) {i : Nat} {v : Int32} (hd : decode bytes pc = .ok (.iload i, 2)) (hl : Ls[i]? = some (.val (.int v))) (q : Nat) (hq : pc + 2 = q) (k : Go p e below E m T q Ls (.int v :: st)) : Go p e below E m T pc Ls st := by
  obtain ⟨⟨locs, X, N⟩, hh, hx, hZ, hown, hby, -⟩ := X
  subst hq
  exact go_by (fun _ r => XS.iload X.here hx rfl (hb hby hd) hl r) k
theorem go_lloadN (X : SD p l e R s m args below meth c Z y bytes ml ret n0 T h cells slots) {i : Fin 4} {v : Int64} (hd : decode bytes pc = .ok (.lload_n i, 1)) (hl : Ls[i.val]? = some (.val (.long v))) (q : Nat) (hq : pc + 1 = q) (k : Go p e below E m T q Ls (.long v :: st)) : Go p e below E m T pc Ls st := by
  obtain ⟨⟨locs, X, N⟩, hh, hx, hZ, hown, hby, -⟩ := X
  subst hq
  exact go_by (fun _ r => XS.lloadN X.here hx rfl (hb hby hd) hl r) k
theorem go_lload (X : SD p l e R s m args below meth c Z y bytes ml ret n0 T h cells slots) {i : Nat} {v : Int64} (hd : decode bytes pc = .ok (.lload i, 2)) (hl : Ls[i]? = some (.val (.long v))) (q : Nat) (hq : pc + 2 = q) (k : Go p e below E m T q Ls (.long v :: st)) : Go p e below E m T pc Ls st := by
  obtain ⟨⟨locs, X, N⟩, hh, hx, hZ, hown, hby, -⟩ := X
  subst hq
  exact go_by (fun _ r => XS.lload X.here hx rfl (hb hby hd) hl r) k
theorem go_aloadN (X : SD p l e R s m args below meth c Z y bytes ml ret n0 T h cells slots) {i : Fin 4} {v : Value} (hd : decode bytes pc = .ok (.aload_n i, 1)) (hl : Ls[i.val]? = some (.val v)) (hv : v.isRef = true) (q : Nat) (hq : pc + 1 = q) (k : Go p e below E m T q Ls (v :: st)) : Go p e below E m T pc Ls st := by
  obtain ⟨⟨locs, X, N⟩, hh, hx, hZ, hown, hby, -⟩ := X
  subst hq
  exact go_by (fun _ r => XS.aloadN X.here hx rfl (hb hby hd) hl hv r) k
theorem go_aload (X : SD p l e R s m args below meth c Z y bytes ml ret n0 T h cells slots) {i : Nat} {v : Value} (hd : decode bytes pc = .ok (.aload i, 2)) (hl : Ls[i]? = some (.val v)) (hv : v.isRef = true) (q : Nat) (hq : pc + 2 = q) (k : Go p e below E m T q Ls (v :: st)) : Go p e below E m T pc Ls st := by
  obtain ⟨⟨locs, X, N⟩, hh, hx, hZ, hown, hby, -⟩ := X
  subst hq
  exact go_by (fun _ r => XS.aload X.here hx rfl (hb hby hd) hl hv r) k
theorem go_istoreN (X : SD p l e R s m args below meth c Z y bytes ml ret n0 T h cells slots) {i : Fin 4} {v : Int32} (l' : Array Slot) (hd : decode bytes pc = .ok (.istore_n i, 1)) (hl : storeLocals Ls i.val (.int v) = some l') (q : Nat) (hq : pc + 1 = q) (k : Go p e below E m T q l' st) : Go p e below E m T pc Ls (.int v :: st) := by
  obtain ⟨⟨locs, X, N⟩, hh, hx, hZ, hown, hby, -⟩ := X
  subst hq
  exact go_by (fun _ r => XS.istoreN X.here hx rfl (hb hby hd) rfl hl r) k
theorem go_istore (X : SD p l e R s m args below meth c Z y bytes ml ret n0 T h cells slots) {i : Nat} {v : Int32} (l' : Array Slot) (hd : decode bytes pc = .ok (.istore i, 2)) (hl : storeLocals Ls i (.int v) = some l') (q : Nat) (hq : pc + 2 = q) (k : Go p e below E m T q l' st) : Go p e below E m T pc Ls (.int v :: st) := by
  obtain ⟨⟨locs, X, N⟩, hh, hx, hZ, hown, hby, -⟩ := X
  subst hq
  exact go_by (fun _ r => XS.istore X.here hx rfl (hb hby hd) rfl hl r) k
theorem go_lstoreN (X : SD p l e R s m args below meth c Z y bytes ml ret n0 T h cells slots) {i : Fin 4} {v : Int64} (l' : Array Slot) (hd : decode bytes pc = .ok (.lstore_n i, 1)) (hl : storeLocals Ls i.val (.long v) = some l') (q : Nat) (hq : pc + 1 = q) (k : Go p e below E m T q l' st) : Go p e below E m T pc Ls (.long v :: st) := by
  obtain ⟨⟨locs, X, N⟩, hh, hx, hZ, hown, hby, -⟩ := X
  subst hq
  exact go_by (fun _ r => XS.lstoreN X.here hx rfl (hb hby hd) rfl hl r) k
theorem go_lstore (X : SD p l e R s m args below meth c Z y bytes ml ret n0 T h cells slots) {i : Nat} {v : Int64} (l' : Array Slot) (hd : decode bytes pc = .ok (.lstore i, 2)) (hl : storeLocals Ls i (.long v) = some l') (q : Nat) (hq : pc + 2 = q) (k : Go p e below E m T q l' st) : Go p e below E m T pc Ls (.long v :: st) := by
  obtain ⟨⟨locs, X, N⟩, hh, hx, hZ, hown, hby, -⟩ := X
  subst hq
  exact go_by (fun _ r => XS.lstore X.here hx rfl (hb hby hd) rfl hl r) k
theorem go_astoreN (X : SD p l e R s m args below meth c Z y bytes ml ret n0 T h cells slots) {i : Fin 4} {v : Value} (l' : Array Slot) (hd : decode bytes pc = .ok (.astore_n i, 1)) (hv : v.isRef = true) (hl : storeLocals Ls i.val v = some l') (q : Nat) (hq : pc + 1 = q) (k : Go p e below E m T q l' st) : Go p e below E m T pc Ls (v :: st) := by
  obtain ⟨⟨locs, X, N⟩, hh, hx, hZ, hown, hby, -⟩ := X
  subst hq
  exact go_by (fun _ r => XS.astoreN X.here hx rfl (hb hby hd) rfl hv hl r) k
theorem go_astore (X : SD p l e R s m args below meth c Z y bytes ml ret n0 T h cells slots) {i : Nat} {v : Value} (l' : Array Slot) (hd : decode bytes pc = .ok (.astore i, 2)) (hv : v.isRef = true) (hl : storeLocals Ls i v = some l') (q : Nat) (hq : pc + 2 = q) (k : Go p e below E m T q l' st) : Go p e below E m T pc Ls (v :: st) := by
  obtain ⟨⟨locs, X, N⟩, hh, hx, hZ, hown, hby, -⟩ := X
  subst hq
  exact go_by (fun _ r => XS.astore X.here hx rfl (hb hby hd) rfl hv hl r) k
theorem go_iadd (X : SD p l e R s m args below meth c Z y bytes ml ret n0 T h cells slots) {a : Int32} {b : Int32} (hd : decode bytes pc = .ok (.iadd, 1)) (q : Nat) (hq : pc + 1 = q) (k : Go p e below E m T q Ls (.int (a + b) :: st)) : Go p e below E m T pc Ls (.int b :: .int a :: st) := by
  obtain ⟨⟨locs, X, N⟩, hh, hx, hZ, hown, hby, -⟩ := X
  subst hq
  exact go_by (fun _ r => XS.iadd X.here hx rfl (hb hby hd) rfl r) k
theorem go_isub (X : SD p l e R s m args below meth c Z y bytes ml ret n0 T h cells slots) {a : Int32} {b : Int32} (hd : decode bytes pc = .ok (.isub, 1)) (q : Nat) (hq : pc + 1 = q) (k : Go p e below E m T q Ls (.int (a - b) :: st)) : Go p e below E m T pc Ls (.int b :: .int a :: st) := by
  obtain ⟨⟨locs, X, N⟩, hh, hx, hZ, hown, hby, -⟩ := X
  subst hq
  exact go_by (fun _ r => XS.isub X.here hx rfl (hb hby hd) rfl r) k
theorem go_imul (X : SD p l e R s m args below meth c Z y bytes ml ret n0 T h cells slots) {a : Int32} {b : Int32} (hd : decode bytes pc = .ok (.imul, 1)) (q : Nat) (hq : pc + 1 = q) (k : Go p e below E m T q Ls (.int (a * b) :: st)) : Go p e below E m T pc Ls (.int b :: .int a :: st) := by
  obtain ⟨⟨locs, X, N⟩, hh, hx, hZ, hown, hby, -⟩ := X
  subst hq
  exact go_by (fun _ r => XS.imul X.here hx rfl (hb hby hd) rfl r) k
theorem go_iand (X : SD p l e R s m args below meth c Z y bytes ml ret n0 T h cells slots) {a : Int32} {b : Int32} (hd : decode bytes pc = .ok (.iand, 1)) (q : Nat) (hq : pc + 1 = q) (k : Go p e below E m T q Ls (.int (a &&& b) :: st)) : Go p e below E m T pc Ls (.int b :: .int a :: st) := by
  obtain ⟨⟨locs, X, N⟩, hh, hx, hZ, hown, hby, -⟩ := X
  subst hq
  exact go_by (fun _ r => XS.iand X.here hx rfl (hb hby hd) rfl r) k
theorem go_ior (X : SD p l e R s m args below meth c Z y bytes ml ret n0 T h cells slots) {a : Int32} {b : Int32} (hd : decode bytes pc = .ok (.ior, 1)) (q : Nat) (hq : pc + 1 = q) (k : Go p e below E m T q Ls (.int (a ||| b) :: st)) : Go p e below E m T pc Ls (.int b :: .int a :: st) := by
  obtain ⟨⟨locs, X, N⟩, hh, hx, hZ, hown, hby, -⟩ := X
  subst hq
  exact go_by (fun _ r => XS.ior X.here hx rfl (hb hby hd) rfl r) k
theorem go_ixor (X : SD p l e R s m args below meth c Z y bytes ml ret n0 T h cells slots) {a : Int32} {b : Int32} (hd : decode bytes pc = .ok (.ixor, 1)) (q : Nat) (hq : pc + 1 = q) (k : Go p e below E m T q Ls (.int (a ^^^ b) :: st)) : Go p e below E m T pc Ls (.int b :: .int a :: st) := by
  obtain ⟨⟨locs, X, N⟩, hh, hx, hZ, hown, hby, -⟩ := X
  subst hq
  exact go_by (fun _ r => XS.ixor X.here hx rfl (hb hby hd) rfl r) k
theorem go_ishl (X : SD p l e R s m args below meth c Z y bytes ml ret n0 T h cells slots) {a : Int32} {b : Int32} (hd : decode bytes pc = .ok (.ishl, 1)) (q : Nat) (hq : pc + 1 = q) (k : Go p e below E m T q Ls (.int (a <<< (b &&& 31)) :: st)) : Go p e below E m T pc Ls (.int b :: .int a :: st) := by
  obtain ⟨⟨locs, X, N⟩, hh, hx, hZ, hown, hby, -⟩ := X
  subst hq
  exact go_by (fun _ r => XS.ishl X.here hx rfl (hb hby hd) rfl r) k
theorem go_ishr (X : SD p l e R s m args below meth c Z y bytes ml ret n0 T h cells slots) {a : Int32} {b : Int32} (hd : decode bytes pc = .ok (.ishr, 1)) (q : Nat) (hq : pc + 1 = q) (k : Go p e below E m T q Ls (.int (a >>> (b &&& 31)) :: st)) : Go p e below E m T pc Ls (.int b :: .int a :: st) := by
  obtain ⟨⟨locs, X, N⟩, hh, hx, hZ, hown, hby, -⟩ := X
  subst hq
  exact go_by (fun _ r => XS.ishr X.here hx rfl (hb hby hd) rfl r) k
theorem go_iushr (X : SD p l e R s m args below meth c Z y bytes ml ret n0 T h cells slots) {a : Int32} {b : Int32} (hd : decode bytes pc = .ok (.iushr, 1)) (q : Nat) (hq : pc + 1 = q) (k : Go p e below E m T q Ls (.int (XT.ushr a b) :: st)) : Go p e below E m T pc Ls (.int b :: .int a :: st) := by
  obtain ⟨⟨locs, X, N⟩, hh, hx, hZ, hown, hby, -⟩ := X
  subst hq
  exact go_by (fun _ r => XT.iushr X.here hx rfl (hb hby hd) rfl r) k
theorem go_idiv (X : SD p l e R s m args below meth c Z y bytes ml ret n0 T h cells slots) {a : Int32} {b : Int32} (hd : decode bytes pc = .ok (.idiv, 1)) (hy : b ≠ 0) (q : Nat) (hq : pc + 1 = q) (k : Go p e below E m T q Ls (.int (a / b) :: st)) : Go p e below E m T pc Ls (.int b :: .int a :: st) := by
  obtain ⟨⟨locs, X, N⟩, hh, hx, hZ, hown, hby, -⟩ := X
  subst hq
  exact go_by (fun _ r => XS.idiv X.here hx rfl (hb hby hd) rfl hy r) k
theorem go_ladd (X : SD p l e R s m args below meth c Z y bytes ml ret n0 T h cells slots) {a : Int64} {b : Int64} (hd : decode bytes pc = .ok (.ladd, 1)) (q : Nat) (hq : pc + 1 = q) (k : Go p e below E m T q Ls (.long (a + b) :: st)) : Go p e below E m T pc Ls (.long b :: .long a :: st) := by
  obtain ⟨⟨locs, X, N⟩, hh, hx, hZ, hown, hby, -⟩ := X
  subst hq
  exact go_by (fun _ r => XS.ladd X.here hx rfl (hb hby hd) rfl r) k
theorem go_lsub (X : SD p l e R s m args below meth c Z y bytes ml ret n0 T h cells slots) {a : Int64} {b : Int64} (hd : decode bytes pc = .ok (.lsub, 1)) (q : Nat) (hq : pc + 1 = q) (k : Go p e below E m T q Ls (.long (a - b) :: st)) : Go p e below E m T pc Ls (.long b :: .long a :: st) := by
  obtain ⟨⟨locs, X, N⟩, hh, hx, hZ, hown, hby, -⟩ := X
  subst hq
  exact go_by (fun _ r => XS.lsub X.here hx rfl (hb hby hd) rfl r) k
theorem go_lmul (X : SD p l e R s m args below meth c Z y bytes ml ret n0 T h cells slots) {a : Int64} {b : Int64} (hd : decode bytes pc = .ok (.lmul, 1)) (q : Nat) (hq : pc + 1 = q) (k : Go p e below E m T q Ls (.long (a * b) :: st)) : Go p e below E m T pc Ls (.long b :: .long a :: st) := by
  obtain ⟨⟨locs, X, N⟩, hh, hx, hZ, hown, hby, -⟩ := X
  subst hq
  exact go_by (fun _ r => XS.lmul X.here hx rfl (hb hby hd) rfl r) k
theorem go_land (X : SD p l e R s m args below meth c Z y bytes ml ret n0 T h cells slots) {a : Int64} {b : Int64} (hd : decode bytes pc = .ok (.land, 1)) (q : Nat) (hq : pc + 1 = q) (k : Go p e below E m T q Ls (.long (a &&& b) :: st)) : Go p e below E m T pc Ls (.long b :: .long a :: st) := by
  obtain ⟨⟨locs, X, N⟩, hh, hx, hZ, hown, hby, -⟩ := X
  subst hq
  exact go_by (fun _ r => XS.land X.here hx rfl (hb hby hd) rfl r) k
theorem go_lor (X : SD p l e R s m args below meth c Z y bytes ml ret n0 T h cells slots) {a : Int64} {b : Int64} (hd : decode bytes pc = .ok (.lor, 1)) (q : Nat) (hq : pc + 1 = q) (k : Go p e below E m T q Ls (.long (a ||| b) :: st)) : Go p e below E m T pc Ls (.long b :: .long a :: st) := by
  obtain ⟨⟨locs, X, N⟩, hh, hx, hZ, hown, hby, -⟩ := X
  subst hq
  exact go_by (fun _ r => XS.lor X.here hx rfl (hb hby hd) rfl r) k
theorem go_lxor (X : SD p l e R s m args below meth c Z y bytes ml ret n0 T h cells slots) {a : Int64} {b : Int64} (hd : decode bytes pc = .ok (.lxor, 1)) (q : Nat) (hq : pc + 1 = q) (k : Go p e below E m T q Ls (.long (a ^^^ b) :: st)) : Go p e below E m T pc Ls (.long b :: .long a :: st) := by
  obtain ⟨⟨locs, X, N⟩, hh, hx, hZ, hown, hby, -⟩ := X
  subst hq
  exact go_by (fun _ r => XS.lxor X.here hx rfl (hb hby hd) rfl r) k
theorem go_lshl (X : SD p l e R s m args below meth c Z y bytes ml ret n0 T h cells slots) {a : Int64} {b : Int32} (hd : decode bytes pc = .ok (.lshl, 1)) (q : Nat) (hq : pc + 1 = q) (k : Go p e below E m T q Ls (.long (a <<< (b.toInt64 &&& 63)) :: st)) : Go p e below E m T pc Ls (.int b :: .long a :: st) := by
  obtain ⟨⟨locs, X, N⟩, hh, hx, hZ, hown, hby, -⟩ := X
  subst hq
  exact go_by (fun _ r => XT.lshl X.here hx rfl (hb hby hd) rfl r) k
theorem go_lshr (X : SD p l e R s m args below meth c Z y bytes ml ret n0 T h cells slots) {a : Int64} {b : Int32} (hd : decode bytes pc = .ok (.lshr, 1)) (q : Nat) (hq : pc + 1 = q) (k : Go p e below E m T q Ls (.long (a >>> (b.toInt64 &&& 63)) :: st)) : Go p e below E m T pc Ls (.int b :: .long a :: st) := by
  obtain ⟨⟨locs, X, N⟩, hh, hx, hZ, hown, hby, -⟩ := X
  subst hq
  exact go_by (fun _ r => XT.lshr X.here hx rfl (hb hby hd) rfl r) k
theorem go_lushr (X : SD p l e R s m args below meth c Z y bytes ml ret n0 T h cells slots) {a : Int64} {b : Int32} (hd : decode bytes pc = .ok (.lushr, 1)) (q : Nat) (hq : pc + 1 = q) (k : Go p e below E m T q Ls (.long (XT.ushrL a b) :: st)) : Go p e below E m T pc Ls (.int b :: .long a :: st) := by
  obtain ⟨⟨locs, X, N⟩, hh, hx, hZ, hown, hby, -⟩ := X
  subst hq
  exact go_by (fun _ r => XT.lushr X.here hx rfl (hb hby hd) rfl r) k
theorem go_ldiv (X : SD p l e R s m args below meth c Z y bytes ml ret n0 T h cells slots) {a : Int64} {b : Int64} (hd : decode bytes pc = .ok (.ldiv, 1)) (hy : b ≠ 0) (q : Nat) (hq : pc + 1 = q) (k : Go p e below E m T q Ls (.long (a / b) :: st)) : Go p e below E m T pc Ls (.long b :: .long a :: st) := by
  obtain ⟨⟨locs, X, N⟩, hh, hx, hZ, hown, hby, -⟩ := X
  subst hq
  exact go_by (fun _ r => XS.ldiv X.here hx rfl (hb hby hd) rfl hy r) k
theorem go_irem (X : SD p l e R s m args below meth c Z y bytes ml ret n0 T h cells slots) {a b : Int32} (hd : decode bytes pc = .ok (.irem, 1)) (hy : b ≠ 0) (q : Nat) (hq : pc + 1 = q) (k : Go p e below E m T q Ls (.int (a % b) :: st)) : Go p e below E m T pc Ls (.int b :: .int a :: st) := by
  obtain ⟨⟨locs, X, N⟩, hh, hx, hZ, hown, hby, -⟩ := X
  subst hq
  exact go_by (fun _ r => iremM X hx rfl (hb hby hd) rfl hy r) k
theorem go_lrem (X : SD p l e R s m args below meth c Z y bytes ml ret n0 T h cells slots) {a b : Int64} (hd : decode bytes pc = .ok (.lrem, 1)) (hy : b ≠ 0) (q : Nat) (hq : pc + 1 = q) (k : Go p e below E m T q Ls (.long (a - (a / b) * b) :: st)) : Go p e below E m T pc Ls (.long b :: .long a :: st) := by
  obtain ⟨⟨locs, X, N⟩, hh, hx, hZ, hown, hby, -⟩ := X
  subst hq
  exact go_by (fun _ r => XS.lrem X.here hx rfl (hb hby hd) rfl hy r) k
theorem go_ineg (X : SD p l e R s m args below meth c Z y bytes ml ret n0 T h cells slots) {a : Int32} (hd : decode bytes pc = .ok (.ineg, 1)) (q : Nat) (hq : pc + 1 = q) (k : Go p e below E m T q Ls (.int (-a) :: st)) : Go p e below E m T pc Ls (.int a :: st) := by
  obtain ⟨⟨locs, X, N⟩, hh, hx, hZ, hown, hby, -⟩ := X
  subst hq
  exact go_by (fun _ r => XS.ineg X.here hx rfl (hb hby hd) rfl r) k
theorem go_lneg (X : SD p l e R s m args below meth c Z y bytes ml ret n0 T h cells slots) {a : Int64} (hd : decode bytes pc = .ok (.lneg, 1)) (q : Nat) (hq : pc + 1 = q) (k : Go p e below E m T q Ls (.long (-a) :: st)) : Go p e below E m T pc Ls (.long a :: st) := by
  obtain ⟨⟨locs, X, N⟩, hh, hx, hZ, hown, hby, -⟩ := X
  subst hq
  exact go_by (fun _ r => XS.lneg X.here hx rfl (hb hby hd) rfl r) k
theorem go_i2l (X : SD p l e R s m args below meth c Z y bytes ml ret n0 T h cells slots) {a : Int32} (hd : decode bytes pc = .ok (.i2l, 1)) (q : Nat) (hq : pc + 1 = q) (k : Go p e below E m T q Ls (.long (a.toInt64) :: st)) : Go p e below E m T pc Ls (.int a :: st) := by
  obtain ⟨⟨locs, X, N⟩, hh, hx, hZ, hown, hby, -⟩ := X
  subst hq
  exact go_by (fun _ r => XS.i2l X.here hx rfl (hb hby hd) rfl r) k
theorem go_l2i (X : SD p l e R s m args below meth c Z y bytes ml ret n0 T h cells slots) {a : Int64} (hd : decode bytes pc = .ok (.l2i, 1)) (q : Nat) (hq : pc + 1 = q) (k : Go p e below E m T q Ls (.int (a.toInt32) :: st)) : Go p e below E m T pc Ls (.long a :: st) := by
  obtain ⟨⟨locs, X, N⟩, hh, hx, hZ, hown, hby, -⟩ := X
  subst hq
  exact go_by (fun _ r => XS.l2i X.here hx rfl (hb hby hd) rfl r) k
theorem go_i2b (X : SD p l e R s m args below meth c Z y bytes ml ret n0 T h cells slots) {a : Int32} (hd : decode bytes pc = .ok (.i2b, 1)) (q : Nat) (hq : pc + 1 = q) (k : Go p e below E m T q Ls (.int (a.toInt8.toInt32) :: st)) : Go p e below E m T pc Ls (.int a :: st) := by
  obtain ⟨⟨locs, X, N⟩, hh, hx, hZ, hown, hby, -⟩ := X
  subst hq
  exact go_by (fun _ r => XS.i2b X.here hx rfl (hb hby hd) rfl r) k
theorem go_i2c (X : SD p l e R s m args below meth c Z y bytes ml ret n0 T h cells slots) {a : Int32} (hd : decode bytes pc = .ok (.i2c, 1)) (q : Nat) (hq : pc + 1 = q) (k : Go p e below E m T q Ls (.int (a.toUInt32.toUInt16.toUInt32.toInt32) :: st)) : Go p e below E m T pc Ls (.int a :: st) := by
  obtain ⟨⟨locs, X, N⟩, hh, hx, hZ, hown, hby, -⟩ := X
  subst hq
  exact go_by (fun _ r => XS.i2c X.here hx rfl (hb hby hd) rfl r) k
theorem go_i2s (X : SD p l e R s m args below meth c Z y bytes ml ret n0 T h cells slots) {a : Int32} (hd : decode bytes pc = .ok (.i2s, 1)) (q : Nat) (hq : pc + 1 = q) (k : Go p e below E m T q Ls (.int (a.toInt16.toInt32) :: st)) : Go p e below E m T pc Ls (.int a :: st) := by
  obtain ⟨⟨locs, X, N⟩, hh, hx, hZ, hown, hby, -⟩ := X
  subst hq
  exact go_by (fun _ r => XS.i2s X.here hx rfl (hb hby hd) rfl r) k
theorem go_sipush (X : SD p l e R s m args below meth c Z y bytes ml ret n0 T h cells slots) {i : Int} (z : Int32) (hd : decode bytes pc = .ok (.sipush i, 3)) (hz : (Int16.ofInt i).toInt32 = z) (q : Nat) (hq : pc + 3 = q) (k : Go p e below E m T q Ls (.int z :: st)) : Go p e below E m T pc Ls st := by
  obtain ⟨⟨locs, X, N⟩, hh, hx, hZ, hown, hby, -⟩ := X
  subst hz hq
  exact go_by (fun _ r => XS.sipush X.here hx rfl (hb hby hd) r) k
theorem go_iinc (X : SD p l e R s m args below meth c Z y bytes ml ret n0 T h cells slots) {i : Nat} {j : Int} {v : Int32} (z : Int32) (l' : Array Slot) (hd : decode bytes pc = .ok (.iinc i j, 3)) (hl : Ls[i]? = some (.val (.int v))) (hz : v + Int32.ofInt j = z) (hl' : storeLocals Ls i (.int z) = some l') (q : Nat) (hq : pc + 3 = q) (k : Go p e below E m T q l' st) : Go p e below E m T pc Ls st := by
  obtain ⟨⟨locs, X, N⟩, hh, hx, hZ, hown, hby, -⟩ := X
  subst hz hq
  exact go_by (fun _ r => XS.iinc X.here hx rfl (hb hby hd) hl hl' r) k
theorem go_dup (X : SD p l e R s m args below meth c Z y bytes ml ret n0 T h cells slots) {v : Value} (hd : decode bytes pc = .ok (.dup, 1)) (hv : v.category = 1) (q : Nat) (hq : pc + 1 = q) (k : Go p e below E m T q Ls (v :: v :: st)) : Go p e below E m T pc Ls (v :: st) := by
  obtain ⟨⟨locs, X, N⟩, hh, hx, hZ, hown, hby, -⟩ := X
  subst hq
  exact go_by (fun _ r => XS.dup X.here hx rfl (hb hby hd) rfl hv r) k
theorem go_pop (X : SD p l e R s m args below meth c Z y bytes ml ret n0 T h cells slots) {v : Value} (hd : decode bytes pc = .ok (.pop, 1)) (hv : v.category = 1) (q : Nat) (hq : pc + 1 = q) (k : Go p e below E m T q Ls st) : Go p e below E m T pc Ls (v :: st) := by
  obtain ⟨⟨locs, X, N⟩, hh, hx, hZ, hown, hby, -⟩ := X
  subst hq
  exact go_by (fun _ r => XS.pop X.here hx rfl (hb hby hd) rfl hv r) k
theorem go_goto (X : SD p l e R s m args below meth c Z y bytes ml ret n0 T h cells slots) {o : Int} (q : Nat) (hd : decode bytes pc = .ok (.goto o, 3)) (ho : 0 ≤ (pc : Int) + o) (hp : ((pc : Int) + o).toNat = q) (k : Go p e below E m T q Ls st) : Go p e below E m T pc Ls st := by
  obtain ⟨⟨locs, X, N⟩, hh, hx, hZ, hown, hby, -⟩ := X
  exact go_by (fun _ r => XS.goto X.here hx rfl (pc0 := pc) (pc' := q) rfl (hb hby hd) ho hp r) k
/-! ### forks -/
def icP : ClassFile.Cond → Int32 → Int32 → Prop
  | .eq, a, b => a = b
  | .ne, a, b => ¬ a = b
  | .lt, a, b => a < b
  | .ge, a, b => ¬ a < b
  | .gt, a, b => b < a
  | .le, a, b => ¬ b < a
def lcP : ClassFile.Cond → Int64 → Int64 → Prop
  | .eq, a, b => a = b
  | .ne, a, b => ¬ a = b
  | .lt, a, b => a < b
  | .ge, a, b => ¬ a < b
  | .gt, a, b => b < a
  | .le, a, b => ¬ b < a
theorem ic_holds (cd : ClassFile.Cond) (a b : Int32) : (if_icmp.holds cd a b = true → icP cd a b) ∧ (if_icmp.holds cd a b = false → ¬ icP cd a b) := by
  cases cd <;> simp [if_icmp.holds, icP, Int32.not_lt, Int32.not_le]
theorem lc_holds (cd : ClassFile.Cond) (a b : Int64) : (if_icmp.holds cd (XT.cmpL a b) 0 = true → lcP cd a b) ∧ (if_icmp.holds cd (XT.cmpL a b) 0 = false → ¬ lcP cd a b) := by
  have e : XT.cmpL a b = lcmpW a b := rfl
  rw [e]
  have h1 := lw_lt a b
  have h2 := lw_gt a b
  have h3 := lw_eq a b
  cases cd <;> simp [if_icmp.holds, lcP, Int32.not_lt, Int32.not_le, ← h1, ← h2, ← h3]
theorem go_icmp (X : SD p l e R s m args below meth c Z y bytes ml ret n0 T h cells slots) {cd : ClassFile.Cond} {o : Int} {a b : Int32} (q q' : Nat) (hd : decode bytes pc = .ok (.if_icmp cd o, 3)) (hq : pc + 3 = q) (ho : 0 ≤ (pc : Int) + o) (hp : ((pc : Int) + o).toNat = q') (k1 : icP cd a b → Go p e below E m T q' Ls st) (k2 : ¬ icP cd a b → Go p e below E m T q Ls st) : Go p e below E m T pc Ls (.int b :: .int a :: st) := by
  obtain ⟨⟨locs, X, N⟩, hh, hx, hZ, hown, hby, -⟩ := X
  subst hq
  cases hc : if_icmp.holds cd a b
  · exact go_by (fun _ r => XS.icmpNo X.here hx rfl (hb hby hd) rfl hc r) (k2 ((ic_holds cd a b).2 hc))
  · exact go_by (fun _ r => XS.icmpYes X.here hx rfl (pc0 := pc) (pc' := q') rfl (hb hby hd) rfl hc ho hp r) (k1 ((ic_holds cd a b).1 hc))
theorem go_if (X : SD p l e R s m args below meth c Z y bytes ml ret n0 T h cells slots) {cd : ClassFile.Cond} {o : Int} {a : Int32} (q q' : Nat) (hd : decode bytes pc = .ok (.ifCond cd o, 3)) (hq : pc + 3 = q) (ho : 0 ≤ (pc : Int) + o) (hp : ((pc : Int) + o).toNat = q') (k1 : icP cd a 0 → Go p e below E m T q' Ls st) (k2 : ¬ icP cd a 0 → Go p e below E m T q Ls st) : Go p e below E m T pc Ls (.int a :: st) := by
  obtain ⟨⟨locs, X, N⟩, hh, hx, hZ, hown, hby, -⟩ := X
  subst hq
  cases hc : ifCond.holds cd a
  · exact go_by (fun _ r => XS.ifNo X.here hx rfl (hb hby hd) rfl hc r) (k2 ((ic_holds cd a 0).2 ((if0 cd a).symm.trans hc)))
  · exact go_by (fun _ r => XS.ifYes X.here hx rfl (pc0 := pc) (pc' := q') rfl (hb hby hd) rfl hc ho hp r) (k1 ((ic_holds cd a 0).1 ((if0 cd a).symm.trans hc)))
theorem go_lif (X : SD p l e R s m args below meth c Z y bytes ml ret n0 T h cells slots) {cd : ClassFile.Cond} {o : Int} {a b : Int64} (pc1 q q' : Nat) (hd0 : decode bytes pc = .ok (.lcmp, 1)) (hq0 : pc + 1 = pc1) (hd : decode bytes pc1 = .ok (.ifCond cd o, 3)) (hq : pc1 + 3 = q) (ho : 0 ≤ (pc1 : Int) + o) (hp : ((pc1 : Int) + o).toNat = q') (k1 : lcP cd a b → Go p e below E m T q' Ls st) (k2 : ¬ lcP cd a b → Go p e below E m T q Ls st) : Go p e below E m T pc Ls (.long b :: .long a :: st) := by
  have X' := X
  obtain ⟨⟨locs, X, N⟩, hh, hx, hZ, hown, hby, -⟩ := X
  subst hq0
  refine go_by (fun _ r => XT.lcmp X.here hx rfl (hb hby hd0) rfl r) ?_
  refine go_if X' q q' hd hq ho hp (fun hc => k1 ?_) (fun hc => k2 ?_)
  · have := lc_holds cd a b
    revert hc this
    cases hh : if_icmp.holds cd (XT.cmpL a b) 0
    · exact fun hc _ => absurd hc ((ic_holds cd _ 0).2 hh)
    · exact fun _ t => t.1 rfl
  · have := lc_holds cd a b
    revert hc this
    cases hh : if_icmp.holds cd (XT.cmpL a b) 0
    · exact fun _ t => t.2 rfl
    · exact fun hc _ => absurd ((ic_holds cd _ 0).1 hh) hc
def acP : ACond → Value → Value → Prop
  | .eq, a, b => a = b
  | .ne, a, b => ¬ a = b
theorem go_acmp (X : SD p l e R s m args below meth c Z y bytes ml ret n0 T h cells slots) {cd : ACond} {o : Int} {a b : Value} (q q' : Nat) (hd : decode bytes pc = .ok (.if_acmp cd o, 3)) (ha : a.isRef = true) (hb' : b.isRef = true) (hq : pc + 3 = q) (ho : 0 ≤ (pc : Int) + o) (hp : ((pc : Int) + o).toNat = q') (k1 : acP cd a b → Go p e below E m T q' Ls st) (k2 : ¬ acP cd a b → Go p e below E m T q Ls st) : Go p e below E m T pc Ls (b :: a :: st) := by
  obtain ⟨⟨locs, X, N⟩, hh, hx, hZ, hown, hby, -⟩ := X
  subst hq
  by_cases hc : a = b
  · cases cd
    · exact go_by (fun _ r => Jvm.RoadKit.acmp (g := mkF m pc Ls (b :: a :: st)) X hx rfl ha hb' (pc0 := pc) (pc' := q') (same := true) rfl (hb hby hd) rfl (decide_eq_true hc) ho (by simp [acV, hp]) r) (k1 hc)
    · exact go_by (fun _ r => Jvm.RoadKit.acmp (g := mkF m pc Ls (b :: a :: st)) X hx rfl ha hb' (pc0 := pc) (pc' := pc + 3) (same := true) rfl (hb hby hd) rfl (decide_eq_true hc) ho (by simp [acV]) r) (k2 (fun z => z hc))
  · cases cd
    · exact go_by (fun _ r => Jvm.RoadKit.acmp (g := mkF m pc Ls (b :: a :: st)) X hx rfl ha hb' (pc0 := pc) (pc' := pc + 3) (same := false) rfl (hb hby hd) rfl (decide_eq_false hc) ho (by simp [acV]) r) (k2 hc)
    · exact go_by (fun _ r => Jvm.RoadKit.acmp (g := mkF m pc Ls (b :: a :: st)) X hx rfl ha hb' (pc0 := pc) (pc' := q') (same := false) rfl (hb hby hd) rfl (decide_eq_false hc) ho (by simp [acV, hp]) r) (k1 hc)
theorem go_ifnull (X : SD p l e R s m args below meth c Z y bytes ml ret n0 T h cells slots) {o : Int} {a : Value} (q q' : Nat) (hd : decode bytes pc = .ok (.ifnull o, 3)) (ha : a.isRef = true) (hq : pc + 3 = q) (ho : 0 ≤ (pc : Int) + o) (hp : ((pc : Int) + o).toNat = q') (k1 : a = .null → Go p e below E m T q' Ls st) (k2 : ¬ a = .null → Go p e below E m T q Ls st) : Go p e below E m T pc Ls (a :: st) := by
  obtain ⟨⟨locs, X, N⟩, hh, hx, hZ, hown, hby, -⟩ := X
  subst hq
  rcases ref_cases ha with rfl | ⟨a, rfl⟩
  · exact go_by (fun _ r => XS.ifnullYes X.here hx rfl (pc0 := pc) (pc' := q') rfl (hb hby hd) rfl ho hp r) (k1 rfl)
  · exact go_by (fun _ r => XS.ifnullNo X.here hx rfl (hb hby hd) rfl r) (k2 (fun z => by cases z))
theorem go_ifnonnull (X : SD p l e R s m args below meth c Z y bytes ml ret n0 T h cells slots) {o : Int} {a : Value} (q q' : Nat) (hd : decode bytes pc = .ok (.ifnonnull o, 3)) (ha : a.isRef = true) (hq : pc + 3 = q) (ho : 0 ≤ (pc : Int) + o) (hp : ((pc : Int) + o).toNat = q') (k1 : ¬ a = .null → Go p e below E m T q' Ls st) (k2 : a = .null → Go p e below E m T q Ls st) : Go p e below E m T pc Ls (a :: st) := by
  obtain ⟨⟨locs, X, N⟩, hh, hx, hZ, hown, hby, -⟩ := X
  subst hq
  rcases ref_cases ha with rfl | ⟨a, rfl⟩
  · exact go_by (fun _ r => XS.ifnonnullNo X.here hx rfl (hb hby hd) rfl r) (k2 rfl)
  · exact go_by (fun _ r => XS.ifnonnullYes X.here hx rfl (pc0 := pc) (pc' := q') rfl (hb hby hd) rfl ho hp r) (k1 (fun z => by cases z))
theorem go_ifnullR (X : SD p l e R s m args below meth c Z y bytes ml ret n0 T h cells slots) {o : Int} {a : Addr} (hd : decode bytes pc = .ok (.ifnull o, 3)) (q : Nat) (hq : pc + 3 = q) (k : Go p e below E m T q Ls st) : Go p e below E m T pc Ls (.ref a :: st) := by
  obtain ⟨⟨locs, X, N⟩, hh, hx, hZ, hown, hby, -⟩ := X
  subst hq
  exact go_by (fun _ r => XS.ifnullNo X.here hx rfl (hb hby hd) rfl r) k
theorem go_ifnullN (X : SD p l e R s m args below meth c Z y bytes ml ret n0 T h cells slots) {o : Int} (hd : decode bytes pc = .ok (.ifnull o, 3)) (q : Nat) (ho : 0 ≤ (pc : Int) + o) (hp : ((pc : Int) + o).toNat = q) (k : Go p e below E m T q Ls st) : Go p e below E m T pc Ls (.null :: st) := by
  obtain ⟨⟨locs, X, N⟩, hh, hx, hZ, hown, hby, -⟩ := X
  exact go_by (fun _ r => XS.ifnullYes X.here hx rfl (pc0 := pc) (pc' := q) rfl (hb hby hd) rfl ho hp r) k
theorem go_ifnonnullN (X : SD p l e R s m args below meth c Z y bytes ml ret n0 T h cells slots) {o : Int} (hd : decode bytes pc = .ok (.ifnonnull o, 3)) (q : Nat) (hq : pc + 3 = q) (k : Go p e below E m T q Ls st) : Go p e below E m T pc Ls (.null :: st) := by
  obtain ⟨⟨locs, X, N⟩, hh, hx, hZ, hown, hby, -⟩ := X
  subst hq
  exact go_by (fun _ r => XS.ifnonnullNo X.here hx rfl (hb hby hd) rfl r) k
theorem go_ifnonnullR (X : SD p l e R s m args below meth c Z y bytes ml ret n0 T h cells slots) {o : Int} {a : Addr} (hd : decode bytes pc = .ok (.ifnonnull o, 3)) (q : Nat) (ho : 0 ≤ (pc : Int) + o) (hp : ((pc : Int) + o).toNat = q) (k : Go p e below E m T q Ls st) : Go p e below E m T pc Ls (.ref a :: st) := by
  obtain ⟨⟨locs, X, N⟩, hh, hx, hZ, hown, hby, -⟩ := X
  exact go_by (fun _ r => XS.ifnonnullYes X.here hx rfl (pc0 := pc) (pc' := q) rfl (hb hby hd) rfl ho hp r) k
def raP : ACond → Addr → Addr → Prop
  | .eq, a, b => a = b
  | .ne, a, b => ¬ a = b
theorem go_acmpR (X : SD p l e R s m args below meth c Z y bytes ml ret n0 T h cells slots) {cd : ACond} {o : Int} {a b : Addr} (q q' : Nat) (hd : decode bytes pc = .ok (.if_acmp cd o, 3)) (hq : pc + 3 = q) (ho : 0 ≤ (pc : Int) + o) (hp : ((pc : Int) + o).toNat = q') (k1 : raP cd a b → Go p e below E m T q' Ls st) (k2 : ¬ raP cd a b → Go p e below E m T q Ls st) : Go p e below E m T pc Ls (.ref b :: .ref a :: st) := by
  refine go_acmp X q q' hd rfl rfl hq ho hp (fun z => k1 ?_) (fun z => k2 ?_)
  · cases cd
    · exact Value.ref.inj z
    · exact fun w => z (congrArg Value.ref w)
  · cases cd
    · exact fun w => z (congrArg Value.ref w)
    · exact fun w => z (fun u => w (Value.ref.inj u))
theorem own_cat {v : Value} (q : v.isRef = true) : v.category = 1 := by
  rcases ref_cases q with rfl | ⟨a, rfl⟩ <;> rfl
theorem own_iteR {q : Prop} [Decidable q] {a b : Value} (ha : a.isRef = true) (hb : b.isRef = true) : (if q then a else b).isRef = true := by split <;> assumption
theorem own_catI (x : Int32) : (Value.int x).category = 1 := rfl
theorem own_catJ (x : Int64) : (Value.long x).category = 2 := rfl
theorem own_catR (x : Addr) : (Value.ref x).category = 1 := rfl
theorem go_tsw (X : SD p l e R s m args below meth c Z y bytes ml ret n0 T h cells slots) {dflt low high o : Int} {offs : Array Int} {len : Nat} {i : Int32} (q : Nat) (hd : decode bytes pc = .ok (.tableswitch dflt low high offs, len)) (hin : ¬ (i.toInt < low ∨ i.toInt > high)) (hoff : offs[(i.toInt - low).toNat]? = some o) (ho : 0 ≤ (pc : Int) + o) (hp : ((pc : Int) + o).toNat = q) (k : Go p e below E m T q Ls st) : Go p e below E m T pc Ls (.int i :: st) := by
  obtain ⟨⟨locs, X, N⟩, hh, hx, hZ, hown, hby, -⟩ := X
  exact go_by (fun _ r => XS.tswIn X.here hx rfl (pc0 := pc) (pc' := q) rfl (hb hby hd) rfl hin hoff ho hp r) k
/-! ### fields, statics, arrays, new -/
theorem go_getS (X : SD p l e R s m args below meth c Z y bytes ml ret n0 T h cells slots) {O n d : String} {i : Nat} {v : Value} (w : (Cond.fieldLink y.cls i O n d).before a0 Z = true) (F : Sta Z h O n d v) (hd : decode bytes pc = .ok (.getstatic i, 3)) (q : Nat) (hq : pc + 3 = q)
    (k : ∀ T', SD p l e R s m args below meth c Z y bytes ml ret n0 T' h cells slots → Go p e below E m T' q Ls (v :: st)) : Go p e below E m T pc Ls st := by
  obtain ⟨⟨locs, X, N⟩, hh, hx, hZ, hown, hby, r⟩ := X
  subst hq
  obtain ⟨T', X', e', stp⟩ := getS (host := "") X hx hZ hown w Via.refl hh F (g := mkF m pc Ls st) rfl (hb hby hd)
  exact go_by (fun _ r => stp _ r) (k T' ⟨⟨locs, X', N⟩, e', hx, hZ, hown, hby, r⟩)
theorem go_getF (X : SD p l e R s m args below meth c Z y bytes ml ret n0 T h cells slots) {O n d : String} {i : Nat} {a : Addr} {v : Value} (w : (Cond.fieldLink y.cls i O n d).before a0 Z = true) (F : Fld Z h a O n d v) (hd : decode bytes pc = .ok (.getfield i, 3)) (q : Nat) (hq : pc + 3 = q)
    (k : ∀ T', SD p l e R s m args below meth c Z y bytes ml ret n0 T' h cells slots → Go p e below E m T' q Ls (v :: st)) : Go p e below E m T pc Ls (.ref a :: st) := by
  obtain ⟨⟨locs, X, N⟩, hh, hx, hZ, hown, hby, r⟩ := X
  subst hq
  obtain ⟨T', X', e', stp⟩ := getF (host := "") X hx hZ hown (Or.inl w) Via.refl hh F (g := mkF m pc Ls (.ref a :: st)) rfl rfl (hb hby hd)
  exact go_by (fun _ r => stp _ r) (k T' ⟨⟨locs, X', N⟩, e', hx, hZ, hown, hby, r⟩)
theorem go_putF (X : SD p l e R s m args below meth c Z y bytes ml ret n0 T h cells slots) {O n d C : String} {i kk : Nat} {a : Addr} {v old : Value} {ty : FieldType} (w : (Cond.fieldLink y.cls i O n d).before a0 Z = true) (F : Fld Z h a O n d old) (Ex : Exa Z h a C) (wl : (Cond.lays C O n d).before a0 Z = true ∨ ((Cond.laysFinal C O n d).before a0 Z = true ∧ y.cls = O ∧ y.name = "<init>")) (wi : (Cond.instantiable C kk).before a0 Z = true)
    (hty : parseFieldDescriptor d = some ty) (hn : narrow ty v = v) (hf : fits ty v = true) (ha : n0 ≤ a) (hd : decode bytes pc = .ok (.putfield i, 3)) (q : Nat) (hq : pc + 3 = q)
    (k : ∀ T' h', SD p l e R s m args below meth c Z y bytes ml ret n0 T' h' cells slots → Wr h h' a (slotOf Z O n d) v → Go p e below E m T' q Ls st) : Go p e below E m T pc Ls (v :: .ref a :: st) := by
  obtain ⟨⟨locs, X, N⟩, hh, hx, hZ, hown, hby, hml, hret, hlk, hnm⟩ := X
  subst hq
  obtain ⟨T', h', X', e', W, stp⟩ := putF (host := "") X hx hZ hown (Or.inl w) Via.refl hh F Ex (wl.imp id fun q => ⟨q.1, q.2.1, hnm.trans q.2.2⟩) wi hty hn hf (g := mkF m pc Ls (v :: .ref a :: st)) rfl rfl (hb hby hd)
  exact go_by (fun _ r => stp _ r) (k T' h' ⟨⟨_, X', Fr.snoc X' N ha⟩, e', hx, hZ, hown, hby, hml, hret, hlk, hnm⟩ W)
theorem go_new (X : SD p l e R s m args below meth c Z y bytes ml ret n0 T h cells slots) {C : String} {i nf : Nat} (w : (Cond.classLink y.cls i C).before a0 Z = true) (wi : (Cond.instantiable C nf).before a0 Z = true) (wz : (Cond.initialized C).before a0 Z = true) (hd : decode bytes pc = .ok (.new i, 3)) (hc : cells + 1 ≤ R.cells) (hs : slots + nf ≤ R.slots) (q : Nat) (hq : pc + 3 = q)
    (k : ∀ T' h' a, a = h.size → SD p l e R s m args below meth c Z y bytes ml ret n0 T' h' (cells + 1) (slots + nf) → Ext h h' → Exa Z h' a C → (∀ {O nm d : String} {ty : FieldType}, Laid Z a0 C O nm d → parseFieldDescriptor d = some ty → Fld Z h' a O nm d (defaultValue ty)) → Go p e below E m T' q Ls (.ref a :: st)) : Go p e below E m T pc Ls st := by
  obtain ⟨⟨locs, X, N⟩, hh, hx, hZ, hown, hby, r⟩ := X
  subst hq
  obtain ⟨T', h', X', e', E', A', D', -, stp⟩ := newO X hx hZ hown w wi wz hh (g := mkF m pc Ls st) rfl (hb hby hd) hc hs
  exact go_by (fun _ r => stp _ r) (k T' h' _ rfl ⟨⟨locs, X', N⟩, e', hx, hZ, hown, hby, r⟩ E' A' D')
theorem go_newA (X : SD p l e R s m args below meth c Z y bytes ml ret n0 T h cells slots) {aty : ArrayType} {z : Int32} (cap : Nat) (w : (Cond.arrayClass (newarray.typeOf aty)).before a0 Z = true) (hd : decode bytes pc = .ok (.newarray aty, 2)) (hn : ¬ z < 0) (hcap : z.toNatClampNeg ≤ cap) (hb8 : cap * 8 ≤ 536870912) (hc : cells + 1 ≤ R.cells) (hs : slots + cap ≤ R.slots) (q : Nat) (hq : pc + 2 = q)
    (k : ∀ T' h' a cA, a = h.size → SD p l e R s m args below meth c Z y bytes ml ret n0 T' h' (cells + 1) (slots + cap) → Ext h h' → Arr Z h' a (newA cA (newarray.typeOf aty) z) (newarray.typeOf aty) → Go p e below E m T' q Ls (.ref a :: st)) : Go p e below E m T pc Ls (.int z :: st) := by
  obtain ⟨⟨locs, X, N⟩, hh, hx, hZ, hown, hby, r⟩ := X
  subst hq
  obtain ⟨T', h', cA, X', e', E', A', stp⟩ := newP X hx hZ w hh (g := mkF m pc Ls (.int z :: st)) rfl (hb hby hd) rfl hn hcap hb8 hc hs
  exact go_by (fun _ r => stp _ r) (k T' h' _ cA rfl ⟨⟨locs, X', N⟩, e', hx, hZ, hown, hby, r⟩ E' A')
theorem go_stJ (X : SD p l e R s m args below meth c Z y bytes ml ret n0 T h cells slots) {a : Addr} {cl : Cell} {j : Int32} {x : Int64} (A : Arr Z h a cl .long) (hj : ¬ (j < 0 ∨ cl.slots.size ≤ j.toNatClampNeg)) (ha : n0 ≤ a) (hd : decode bytes pc = .ok (.lastore, 1)) (q : Nat) (hq : pc + 1 = q)
    (k : ∀ T' h', SD p l e R s m args below meth c Z y bytes ml ret n0 T' h' cells slots → Wr h h' a j.toNatClampNeg (.long x) → Go p e below E m T' q Ls st) : Go p e below E m T pc Ls (.long x :: .int j :: .ref a :: st) := by
  obtain ⟨⟨locs, X, N⟩, hh, hx, hZ, hown, hby, r⟩ := X
  subst hq
  obtain ⟨T', h', X', e', W, stp⟩ := stJ X hx hZ hh A hj (g := mkF m pc Ls (.long x :: .int j :: .ref a :: st)) rfl rfl (hb hby hd)
  exact go_by (fun _ r => stp _ r) (k T' h' ⟨⟨_, X', Fr.snoc X' N ha⟩, e', hx, hZ, hown, hby, r⟩ W)
theorem go_stB (X : SD p l e R s m args below meth c Z y bytes ml ret n0 T h cells slots) {a : Addr} {cl : Cell} {j : Int32} {x : Int32} (A : Arr Z h a cl .byte) (hj : ¬ (j < 0 ∨ cl.slots.size ≤ j.toNatClampNeg)) (ha : n0 ≤ a) (hd : decode bytes pc = .ok (.bastore, 1)) (q : Nat) (hq : pc + 1 = q)
    (k : ∀ T' h', SD p l e R s m args below meth c Z y bytes ml ret n0 T' h' cells slots → Wr h h' a j.toNatClampNeg (.int (nar .byte x)) → Go p e below E m T' q Ls st) : Go p e below E m T pc Ls (.int x :: .int j :: .ref a :: st) := by
  obtain ⟨⟨locs, X, N⟩, hh, hx, hZ, hown, hby, r⟩ := X
  subst hq
  obtain ⟨T', h', X', e', W, stp⟩ := stB X hx hZ hh A hj (g := mkF m pc Ls (.int x :: .int j :: .ref a :: st)) rfl rfl (hb hby hd)
  exact go_by (fun _ r => stp _ r) (k T' h' ⟨⟨_, X', Fr.snoc X' N ha⟩, e', hx, hZ, hown, hby, r⟩ W)
theorem go_stC (X : SD p l e R s m args below meth c Z y bytes ml ret n0 T h cells slots) {a : Addr} {cl : Cell} {j : Int32} {x : Int32} (A : Arr Z h a cl .char) (hj : ¬ (j < 0 ∨ cl.slots.size ≤ j.toNatClampNeg)) (ha : n0 ≤ a) (hd : decode bytes pc = .ok (.castore, 1)) (q : Nat) (hq : pc + 1 = q)
    (k : ∀ T' h', SD p l e R s m args below meth c Z y bytes ml ret n0 T' h' cells slots → Wr h h' a j.toNatClampNeg (.int (nar .char x)) → Go p e below E m T' q Ls st) : Go p e below E m T pc Ls (.int x :: .int j :: .ref a :: st) := by
  obtain ⟨⟨locs, X, N⟩, hh, hx, hZ, hown, hby, r⟩ := X
  subst hq
  obtain ⟨T', h', X', e', W, stp⟩ := stC X hx hZ hh A hj (g := mkF m pc Ls (.int x :: .int j :: .ref a :: st)) rfl rfl (hb hby hd)
  exact go_by (fun _ r => stp _ r) (k T' h' ⟨⟨_, X', Fr.snoc X' N ha⟩, e', hx, hZ, hown, hby, r⟩ W)
theorem go_laload (X : SD p l e R s m args below meth c Z y bytes ml ret n0 T h cells slots) {a : Addr} {cl : Cell} {j : Int32} {v : Value} (A : Arr Z h a cl .long) (hj : ¬ (j < 0 ∨ cl.slots.size ≤ j.toNatClampNeg)) (hv : cl.slots[j.toNatClampNeg]? = some v) (hd : decode bytes pc = .ok (.laload, 1)) (q : Nat) (hq : pc + 1 = q)
    (k : Go p e below E m T q Ls (v :: st)) : Go p e below E m T pc Ls (.int j :: .ref a :: st) := by
  obtain ⟨⟨locs, X, N⟩, hh, hx, hZ, hown, hby, -⟩ := X
  subst hq
  exact go_by (fun _ r => X.laload hx (by rw [hh]; exact A.1) (State.isArrayOf_alike hZ.alike A.2.1) A.2.2 hj hv (g := mkF m pc Ls (.int j :: .ref a :: st)) rfl rfl (hb hby hd) _ r) k
theorem go_baload (X : SD p l e R s m args below meth c Z y bytes ml ret n0 T h cells slots) {a : Addr} {cl : Cell} {j : Int32} {v : Value} (A : Arr Z h a cl .byte) (hj : ¬ (j < 0 ∨ cl.slots.size ≤ j.toNatClampNeg)) (hv : cl.slots[j.toNatClampNeg]? = some v) (hd : decode bytes pc = .ok (.baload, 1)) (q : Nat) (hq : pc + 1 = q)
    (k : Go p e below E m T q Ls (v :: st)) : Go p e below E m T pc Ls (.int j :: .ref a :: st) := by
  obtain ⟨⟨locs, X, N⟩, hh, hx, hZ, hown, hby, -⟩ := X
  subst hq
  exact go_by (fun _ r => X.baloadBytes hx (by rw [hh]; exact A.1) (State.isArrayOf_alike hZ.alike A.2.1) A.2.2 hj hv (g := mkF m pc Ls (.int j :: .ref a :: st)) rfl rfl (hb hby hd) _ r) k
theorem go_caload (X : SD p l e R s m args below meth c Z y bytes ml ret n0 T h cells slots) {a : Addr} {cl : Cell} {j : Int32} {v : Value} (A : Arr Z h a cl .char) (hj : ¬ (j < 0 ∨ cl.slots.size ≤ j.toNatClampNeg)) (hv : cl.slots[j.toNatClampNeg]? = some v) (hd : decode bytes pc = .ok (.caload, 1)) (q : Nat) (hq : pc + 1 = q)
    (k : Go p e below E m T q Ls (v :: st)) : Go p e below E m T pc Ls (.int j :: .ref a :: st) := by
  obtain ⟨⟨locs, X, N⟩, hh, hx, hZ, hown, hby, -⟩ := X
  subst hq
  exact go_by (fun _ r => X.caload hx (by rw [hh]; exact A.1) (State.isArrayOf_alike hZ.alike A.2.1) A.2.2 hj hv (g := mkF m pc Ls (.int j :: .ref a :: st)) rfl rfl (hb hby hd) _ r) k
theorem go_aaload (X : SD p l e R s m args below meth c Z y bytes ml ret n0 T h cells slots) {a : Addr} {cl : Cell} {j : Int32} {v : Value} {ty : FieldType} (A : Arr Z h a cl ty) (hty : ty.isReference = true) (hj : ¬ (j < 0 ∨ cl.slots.size ≤ j.toNatClampNeg)) (hv : cl.slots[j.toNatClampNeg]? = some v) (hd : decode bytes pc = .ok (.aaload, 1)) (q : Nat) (hq : pc + 1 = q)
    (k : Go p e below E m T q Ls (v :: st)) : Go p e below E m T pc Ls (.int j :: .ref a :: st) := by
  obtain ⟨⟨locs, X, N⟩, hh, hx, hZ, hown, hby, -⟩ := X
  subst hq
  exact go_by (fun _ r => X.aaload hx (by rw [hh]; exact A.1) (State.isArrayOf_alike hZ.alike A.2.1) hty A.2.2 hj hv (g := mkF m pc Ls (.int j :: .ref a :: st)) rfl rfl (hb hby hd) _ r) k
theorem go_arrlen (X : SD p l e R s m args below meth c Z y bytes ml ret n0 T h cells slots) {a : Addr} {cl : Cell} {ty : FieldType} (z : Int32) (A : Arr Z h a cl ty) (hz : cl.slots.size.toInt32 = z) (hd : decode bytes pc = .ok (.arraylength, 1)) (q : Nat) (hq : pc + 1 = q)
    (k : Go p e below E m T q Ls (.int z :: st)) : Go p e below E m T pc Ls (.ref a :: st) := by
  obtain ⟨⟨locs, X, N⟩, hh, hx, hZ, hown, hby, -⟩ := X
  subst hq hz
  exact go_by (fun _ r => X.arraylength hx (by rw [hh]; exact A.1) (State.isArrayOf_alike hZ.alike A.2.1) (g := mkF m pc Ls (.ref a :: st)) rfl rfl (hb hby hd) _ r) k
/-! ### calls -/
theorem go_callS (X : SD p l e R s m args below meth c Z y bytes ml ret n0 T h cells slots) {y' : MethodName} {bytes' : ByteArray} {ml' i : Nat} {ret' : Option FieldType} {rm : Room} {as' : Array Value} {Q : Option Value → Heap → List Loc → Prop} (W : Nat) (argsL rest : List Value)
    (w1 : (Cond.methodLink y.cls i y').before a0 Z = true) (w2 : (Cond.static y').before a0 Z = true) (w3 : (Cond.initialized y'.cls).before a0 Z = true) (w4 : (Cond.code y' bytes' ml' ret').before a0 Z = true) (hy : y'.cls ≠ "java/lang/invoke/MethodHandle" ∧ y'.cls ≠ "java/lang/invoke/VarHandle")
    (hM : MetFree l y' (head1 [Cond.code y' bytes' ml' ret'] rm) (fun a U => a = as' ∧ Z.Warmed39 U.vm ∧ U.heap = h) (fun _ _ _ _ _ => True) (fun _ U o U' => ∃ v L, o = .returned v ∧ Q v U'.heap L ∧ FrameEnd U o U' L rm.cells rm.slots))
    (hf : rm.frames + 1 ≤ R.frames) (hl : W + (ml' + 11) + rm.locals ≤ R.locals) (hsz : Ls.size = ml) (hlen : ∀ sig, parseMethodDescriptor y'.desc = some sig → argsL.length = sig.parameters.length) (has : argsL.toArray = as') (hst : st = argsL.reverse ++ rest) (hW : (rest.map fun v => v.category).sum ≤ W) (hd : decode bytes pc = .ok (.invokestatic i, 3)) (hc : cells + rm.cells ≤ R.cells) (hs : slots + rm.slots ≤ R.slots) (q : Nat) (hq : pc + 3 = q)
    (hQ : ∀ v h' L, Q v h' L → Fr n0 L)
    (k : ∀ v T' L h', SD p l e R s m args below meth c Z y bytes ml ret n0 T' h' (cells + rm.cells) (slots + rm.slots) → Q v h' L → Go p e below E m T' q Ls (v.toList ++ rest)) : Go p e below E m T pc Ls st := by
  obtain ⟨⟨locs, X, N⟩, hh, hx, hZ, hown, hby, hml, r⟩ := X
  subst hq has
  obtain ⟨v, _, ⟨T', L', k', n'⟩, -, X', ⟨Lc, hq, l1, y1, z1⟩, stp⟩ := Jvm.LawKit.callS X hx (y := y') hown (mvT hZ w1) (mvT hZ w2) (mvT hZ w3) (mvT hZ w4) hy (backOf (W := W) hM hZ w4 w3 hf hl) (g := mkF m pc Ls st) rfl (hsz.trans hml.symm) (argsL := argsL) (rest := rest) hlen hst (by show 2 * 0 + _ ≤ _; omega) (hb hby hd) (fun _ _ => ⟨rfl, hh, hc, hs⟩)
  dsimp only [Pt.U, Pt.locs, Pt.cells, Pt.slots] at X' l1 y1 z1 stp hq
  subst l1 y1 z1
  exact go_by (fun _ r => stp _ r) (k v T' Lc _ ⟨⟨_, X', Fr.app N (hQ _ _ _ hq)⟩, rfl, hx, hZ, hown, hby, hml, r⟩ hq)
theorem go_callV (X : SD p l e R s m args below meth c Z y bytes ml ret n0 T h cells slots) {C : String} {y' z' : MethodName} {bytes' : ByteArray} {ml' i : Nat} {ret' : Option FieldType} {rm : Room} {as' : Array Value} {Q : Option Value → Heap → List Loc → Prop} {a : Addr} (W : Nat) (argsL rest : List Value)
    (w1 : (Cond.methodLink y.cls i y').before a0 Z = true) (w2 : (Cond.declares y').before a0 Z = true) (w3 : (Cond.selects C y' z').before a0 Z = true) (hyz : y'.cls = C) (w4 : (Cond.instanceMethod z').before a0 Z = true) (w5 : (Cond.initialized z'.cls).before a0 Z = true) (w6 : (Cond.code z' bytes' ml' ret').before a0 Z = true) (hy : y'.cls ≠ "java/lang/invoke/MethodHandle" ∧ y'.cls ≠ "java/lang/invoke/VarHandle")
    (Ex : Exa Z h a C) (hnf : NotFace s y')
    (hM : MetFree l z' (head1 [Cond.code z' bytes' ml' ret'] rm) (fun a U => a = as' ∧ Z.Warmed39 U.vm ∧ U.heap = h) (fun _ _ _ _ _ => True) (fun _ U o U' => ∃ v L, o = .returned v ∧ Q v U'.heap L ∧ FrameEnd U o U' L rm.cells rm.slots))
    (hf : rm.frames + 1 ≤ R.frames) (hl : W + (ml' + 11) + rm.locals ≤ R.locals) (hsz : Ls.size = ml) (hlen : ∀ sig, parseMethodDescriptor y'.desc = some sig → argsL.length = sig.parameters.length) (has : (Value.ref a :: argsL).toArray = as') (hst : st = argsL.reverse ++ .ref a :: rest) (hW : (rest.map fun v => v.category).sum ≤ W) (hd : decode bytes pc = .ok (.invokevirtual i, 3)) (hc : cells + rm.cells ≤ R.cells) (hs : slots + rm.slots ≤ R.slots) (q : Nat) (hq : pc + 3 = q)
    (hQ : ∀ v h' L, Q v h' L → Fr n0 L)
    (k : ∀ v T' L h', SD p l e R s m args below meth c Z y bytes ml ret n0 T' h' (cells + rm.cells) (slots + rm.slots) → Q v h' L → Go p e below E m T' q Ls (v.toList ++ rest)) : Go p e below E m T pc Ls st := by
  obtain ⟨⟨locs, X, N⟩, hh, hx, hZ, hown, hby, hml, r⟩ := X
  subst hq has
  obtain ⟨cq, kq, q1, q2, q3⟩ := isOf hZ hh Ex
  obtain ⟨v, _, ⟨T', L', k', n'⟩, -, X', ⟨Lc, hq, l1, y1, z1⟩, stp⟩ := X.virtualBack hx (y := y') (z := z') hown (mvT hZ w1) (mvT hZ w2) hnf (mvT hZ w3) (mvT hZ w4) hy (backOf (W := W) hM hZ w6 w5 hf hl) q1 q3 (g := mkF m pc Ls st) rfl (hsz.trans hml.symm) (Steps.refl _) (argsL := argsL) (rest := rest) hlen hst (by show 2 * 0 + _ ≤ _; omega) (hb hby hd) (fun _ _ => ⟨rfl, hh, hc, hs⟩)
  dsimp only [Pt.U, Pt.locs, Pt.cells, Pt.slots] at X' l1 y1 z1 stp hq
  subst l1 y1 z1
  exact go_by (fun _ r => stp.trans r) (k v T' Lc _ ⟨⟨_, X', Fr.app N (hQ _ _ _ hq)⟩, rfl, hx, hZ, hown, hby, hml, r⟩ hq)
/-- where the class itself declares what is selected: it is no interface -/
theorem go_callVs (X : SD p l e R s m args below meth c Z y bytes ml ret n0 T h cells slots) {y' : MethodName} {bytes' : ByteArray} {ml' i : Nat} {ret' : Option FieldType} {rm : Room} {as' : Array Value} {Q : Option Value → Heap → List Loc → Prop} {a : Addr} (W : Nat) (argsL rest : List Value)
    (w1 : (Cond.methodLink y.cls i y').before a0 Z = true) (w2 : (Cond.declares y').before a0 Z = true) (w3 : (Cond.selects y'.cls y' y').before a0 Z = true) (w4 : (Cond.instanceMethod y').before a0 Z = true) (w5 : (Cond.initialized y'.cls).before a0 Z = true) (w6 : (Cond.code y' bytes' ml' ret').before a0 Z = true) (hy : y'.cls ≠ "java/lang/invoke/MethodHandle" ∧ y'.cls ≠ "java/lang/invoke/VarHandle")
    (Ex : Exa Z h a y'.cls)
    (hM : MetFree l y' (head1 [Cond.code y' bytes' ml' ret'] rm) (fun a U => a = as' ∧ Z.Warmed39 U.vm ∧ U.heap = h) (fun _ _ _ _ _ => True) (fun _ U o U' => ∃ v L, o = .returned v ∧ Q v U'.heap L ∧ FrameEnd U o U' L rm.cells rm.slots))
    (hf : rm.frames + 1 ≤ R.frames) (hl : W + (ml' + 11) + rm.locals ≤ R.locals) (hsz : Ls.size = ml) (hlen : ∀ sig, parseMethodDescriptor y'.desc = some sig → argsL.length = sig.parameters.length) (has : (Value.ref a :: argsL).toArray = as') (hst : st = argsL.reverse ++ .ref a :: rest) (hW : (rest.map fun v => v.category).sum ≤ W) (hd : decode bytes pc = .ok (.invokevirtual i, 3)) (hc : cells + rm.cells ≤ R.cells) (hs : slots + rm.slots ≤ R.slots) (q : Nat) (hq : pc + 3 = q)
    (hQ : ∀ v h' L, Q v h' L → Fr n0 L)
    (k : ∀ v T' L h', SD p l e R s m args below meth c Z y bytes ml ret n0 T' h' (cells + rm.cells) (slots + rm.slots) → Q v h' L → Go p e below E m T' q Ls (v.toList ++ rest)) : Go p e below E m T pc Ls st :=
  go_callV X W argsL rest w1 w2 w3 rfl w4 w5 w6 hy Ex (notFace_of_selects (args := #[]) (mvT X.2.2.2.1 w3)) hM hf hl hsz hlen has hst hW hd hc hs q hq hQ k
theorem go_callUp (X : SD p l e R s m args below meth c Z y bytes ml ret n0 T h cells slots) {C owner : String} {x' y' : MethodName} {bytes' : ByteArray} {ml' i : Nat} {ret' : Option FieldType} {rm : Room} {as' : Array Value} {Q : Option Value → Heap → List Loc → Prop} {a : Addr} (W : Nat) (argsL rest : List Value)
    (w1 : (Cond.methodLink y.cls i x').before a0 Z = true) (w2 : (Cond.sameMethod x'.cls owner x'.name x'.desc).before a0 Z = true) (w2b : (Cond.declares ⟨owner, x'.name, x'.desc⟩).before a0 Z = true) (w3 : (Cond.selects C x' y').before a0 Z = true) (w4 : (Cond.instanceMethod y').before a0 Z = true) (w5 : (Cond.initialized y'.cls).before a0 Z = true) (w6 : (Cond.code y' bytes' ml' ret').before a0 Z = true) (hy : owner ≠ "java/lang/invoke/MethodHandle" ∧ owner ≠ "java/lang/invoke/VarHandle")
    (Ex : Exa Z h a C)
    (hM : MetFree l y' (head1 [Cond.code y' bytes' ml' ret'] rm) (fun a U => a = as' ∧ Z.Warmed39 U.vm ∧ U.heap = h) (fun _ _ _ _ _ => True) (fun _ U o U' => ∃ v L, o = .returned v ∧ Q v U'.heap L ∧ FrameEnd U o U' L rm.cells rm.slots))
    (hf : rm.frames + 1 ≤ R.frames) (hl : W + (ml' + 11) + rm.locals ≤ R.locals) (hsz : Ls.size = ml) (hlen : ∀ sig, parseMethodDescriptor x'.desc = some sig → argsL.length = sig.parameters.length) (has : (Value.ref a :: argsL).toArray = as') (hst : st = argsL.reverse ++ .ref a :: rest) (hW : (rest.map fun v => v.category).sum ≤ W) (hd : decode bytes pc = .ok (.invokevirtual i, 3)) (hc : cells + rm.cells ≤ R.cells) (hs : slots + rm.slots ≤ R.slots) (q : Nat) (hq : pc + 3 = q)
    (hQ : ∀ v h' L, Q v h' L → Fr n0 L)
    (k : ∀ v T' L h', SD p l e R s m args below meth c Z y bytes ml ret n0 T' h' (cells + rm.cells) (slots + rm.slots) → Q v h' L → Go p e below E m T' q Ls (v.toList ++ rest)) : Go p e below E m T pc Ls st := by
  obtain ⟨⟨locs, X, N⟩, hh, hx, hZ, hown, hby, hml, r⟩ := X
  subst hq has
  obtain ⟨cq, kq, q1, q2, q3⟩ := isOf hZ hh Ex
  obtain ⟨v, _, ⟨T', L', k', n'⟩, -, X', ⟨Lc, hq, l1, y1, z1⟩, stp⟩ := X.virtualBackUp hx (x := x') (y := y') (owner := owner) hown (mvT hZ w1) (mvT hZ w2) (mvT hZ w2b) hy (mvT hZ w3) (mvT hZ w4) (backOf (W := W) hM hZ w6 w5 hf hl) q1 q3 (g := mkF m pc Ls st) rfl (hsz.trans hml.symm) (Steps.refl _) (argsL := argsL) (rest := rest) hlen hst (by show 2 * 0 + _ ≤ _; omega) (hb hby hd) (fun _ _ => ⟨rfl, hh, hc, hs⟩)
  dsimp only [Pt.U, Pt.locs, Pt.cells, Pt.slots] at X' l1 y1 z1 stp hq
  subst l1 y1 z1
  exact go_by (fun _ r => stp.trans r) (k v T' Lc _ ⟨⟨_, X', Fr.app N (hQ _ _ _ hq)⟩, rfl, hx, hZ, hown, hby, hml, r⟩ hq)
theorem go_callI (X : SD p l e R s m args below meth c Z y bytes ml ret n0 T h cells slots) {y' : MethodName} {bytes' : ByteArray} {ml' i : Nat} {rm : Room} {as' : Array Value} {Q : Option Value → Heap → List Loc → Prop} {a : Addr} (W : Nat) (argsL rest : List Value) (hy1 : y'.name = "<init>")
    (w1 : (Cond.methodLink y.cls i y').before a0 Z = true) (w2 : (Cond.instanceMethod y').before a0 Z = true) (w3 : (Cond.initialized y'.cls).before a0 Z = true) (w4 : (Cond.code y' bytes' ml' none).before a0 Z = true) (hy : y'.cls ≠ "java/lang/invoke/MethodHandle" ∧ y'.cls ≠ "java/lang/invoke/VarHandle")
    (hM : MetFree l y' (head1 [Cond.code y' bytes' ml' none] rm) (fun a U => a = as' ∧ Z.Warmed39 U.vm ∧ U.heap = h) (fun _ _ _ _ _ => True) (fun _ U o U' => ∃ v L, o = .returned v ∧ Q v U'.heap L ∧ FrameEnd U o U' L rm.cells rm.slots))
    (hf : rm.frames + 1 ≤ R.frames) (hl : W + (ml' + 11) + rm.locals ≤ R.locals) (hsz : Ls.size = ml) (hlen : ∀ sig, parseMethodDescriptor y'.desc = some sig → argsL.length = sig.parameters.length) (has : (Value.ref a :: argsL).toArray = as') (hst : st = argsL.reverse ++ .ref a :: rest) (hW : (rest.map fun v => v.category).sum ≤ W) (hd : decode bytes pc = .ok (.invokespecial i, 3)) (hc : cells + rm.cells ≤ R.cells) (hs : slots + rm.slots ≤ R.slots) (q : Nat) (hq : pc + 3 = q)
    (hQ : ∀ v h' L, Q v h' L → Fr n0 L)
    (k : ∀ v T' L h', SD p l e R s m args below meth c Z y bytes ml ret n0 T' h' (cells + rm.cells) (slots + rm.slots) → Q v h' L → Go p e below E m T' q Ls (v.toList ++ rest)) : Go p e below E m T pc Ls st := by
  obtain ⟨⟨locs, X, N⟩, hh, hx, hZ, hown, hby, hml, r⟩ := X
  subst hq has
  obtain ⟨v, _, ⟨T', L', k', n'⟩, -, X', ⟨Lc, hq, l1, y1, z1⟩, stp⟩ := X.specialBack hx (y := y') hy1 hown (mvT hZ w1) (mvT hZ w2) (mvT hZ w4) hy (backOf (W := W) hM hZ w4 w3 hf hl) (g := mkF m pc Ls st) rfl (hsz.trans hml.symm) (Steps.refl _) (a := a) (argsL := argsL) (rest := rest) hlen hst (by show 2 * 0 + _ ≤ _; omega) (hb hby hd) (fun _ _ => ⟨rfl, hh, hc, hs⟩)
  dsimp only [Pt.U, Pt.locs, Pt.cells, Pt.slots] at X' l1 y1 z1 stp hq
  subst l1 y1 z1
  exact go_by (fun _ r => stp.trans r) (k v T' Lc _ ⟨⟨_, X', Fr.app N (hQ _ _ _ hq)⟩, rfl, hx, hZ, hown, hby, hml, r⟩ hq)
/-- what a callee leaves that writes nothing -/
def PQ (r : Option Value) (h0 : Heap) (n0 : Nat) (v : Option Value) (h : Heap) (L : List Loc) : Prop := v = r ∧ Fr n0 L ∧ h = h0
theorem PQ.fr {r : Option Value} {h0 : Heap} : ∀ v h' L, PQ r h0 n0 v h' L → Fr n0 L := fun _ _ _ q => q.2.1
theorem PQ.k {r : Option Value} {cells' slots' : Nat} {q : Nat} (k : ∀ T', SD p l e R s m args below meth c Z y bytes ml ret n0 T' h cells' slots' → Go p e below E m T' q Ls (r.toList ++ rest)) : ∀ v T' L h', SD p l e R s m args below meth c Z y bytes ml ret n0 T' h' cells' slots' → PQ r h n0 v h' L → Go p e below E m T' q Ls (v.toList ++ rest) := fun v T' L h' X' hq => by
  obtain ⟨rfl, -, rfl⟩ := hq
  exact k T' X'
/-! ### from the case's words -/
theorem own_exa {t : Term} {C : String} (q : (Cond.exactly t C).value args s none s [] = some true) : ∃ a, t.eval args s none [] s = some (.ref a) ∧ Exa s s.heap a C := by
  obtain ⟨a, ev⟩ := exa_v q
  exact ⟨a, ev, Exa.start ev q⟩
theorem own_sta {C n d : String} {v : Value} (ev : (Term.static C n d).eval args s none [] s = some v) (w1 : (Cond.initialized C).before args s = true) (w2 : (Cond.laysStatic C n d).before args s = true) : Sta s s.heap C n d v := Sta.start ev (Or.inr ⟨w1, w2⟩)
theorem own_eqI {t : Term} {k : Int32} (q : (Cond.eq t (Term.int k)).value args s none s [] = some true) : t.eval args s none [] s = some (.int k) := by
  obtain ⟨x, z, h1, h2, -, h4⟩ := cmp_v (Or.inl q)
  have e2 : z = .int k := (Option.some.inj h2).symm
  subst e2
  obtain ⟨w, rfl⟩ : ∃ w, x = .int w := h4
  have q' := q
  simp only [Cond.value, h1, h2] at q'
  simp at q'
  rw [h1, q']
theorem own_fldI {t : Term} {C n d : String} {a : Addr} {k : Int32} (ev : t.eval args s none [] s = some (.ref a)) (q : (Cond.eq (Term.field t C n d) (Term.int k)).value args s none s [] = some true) : Fld s s.heap a C n d (.int k) := by
  have h1 := own_eqI q
  rw [fld_at ev] at h1
  exact Fld.start h1
theorem own_fldne {C n d : String} {a b : Addr} {j k : Int32} (F : Fld Z h a C n d (.int j)) (G : Fld Z h b C n d (.int k)) (q : j ≠ k) : a ≠ b := Fld.ne F G (fun z => q (Value.int.inj z))
theorem own_mod {x k : Int32} {n : Int} (hk : k.toInt = n) (hn : 0 < n) : 0 ≤ ((x &&& 2147483647) % k).toInt ∧ ((x &&& 2147483647) % k).toInt < n := by
  have h1 : (x &&& 2147483647).toInt = x.toInt % 2 ^ 31 := Jvm.Kit.i32_mask x 2147483647 (by decide) (by decide)
  have h2 : 0 ≤ (x &&& 2147483647).toInt := by rw [h1]; omega
  rw [Jvm.Kit.i32_rem_nonneg h2, hk]
  exact ⟨Int.emod_nonneg _ (by omega), Int.emod_lt_of_pos _ hn⟩
theorem own_lit {z k : Int32} {n : Int} (h : z.toInt = n) (hk : k.toInt = n) : z = k := Int32.toInt_inj.mp (h.trans hk.symm)
theorem own_len {t : Term} {a : Addr} {cl : Cell} {ty : FieldType} {k : Int32} (ev : t.eval args s none [] s = some (.ref a)) (A : Arr s s.heap a cl ty) (q : (Cond.eq (Term.length t) (Term.int k)).value args s none s [] = some true) : cl.slots.size.toInt32 = k := by
  have h1 := own_eqI q
  have h2 := A.fin (Vm.Alike.refl _)
  obtain ⟨a', cell, e1, e2, e3⟩ := Term.length_spec h1
  cases ev.symm.trans e1
  cases h2.symm.trans e2
  exact (Value.int.inj e3).symm
theorem own_elem {t u : Term} {a b : Addr} {cl : Cell} {ty : FieldType} {j : Int32} (ev : t.eval args s none [] s = some (.ref a)) (ev' : u.eval args s none [] s = some (.ref b)) (A : Arr s s.heap a cl ty) (q : (Cond.eq (Term.elem t (Term.int j)) u).value args s none s [] = some true) : ¬ (j < 0 ∨ cl.slots.size ≤ j.toNatClampNeg) ∧ cl.slots[j.toNatClampNeg]? = some (.ref b) := by
  obtain ⟨x, z, h1, h2, h3, h4⟩ := cmp_v (Or.inl q)
  cases h2.symm.trans ev'
  have hr : x.isRef = true := h4.2
  have e := gotT (eq_R h1 ev' hr rfl) q
  subst e
  exact elem_in h1 ev rfl A.1
/-- every place of the cell holds an int -/
def ICell (c : Cell) : Prop := ∀ i, i < c.slots.size → ∃ x, c.slots[i]? = some (.int x)
theorem ICell.new {cA : ClassId} {ty : FieldType} {n : Int32} (ht : ∃ x, defaultValue ty = .int x) : ICell (newA cA ty n) := by
  obtain ⟨x, hx⟩ := ht
  intro i hi
  refine ⟨x, ?_⟩
  rw [sz_new] at hi
  simp [newA, hx, hi]
theorem ICell.set {cl : Cell} {j : Nat} {x : Int32} (I : ICell cl) : ICell (cl.setSlot j (.int x)) := by
  intro i hi
  rw [sz_set] at hi
  obtain ⟨y, hy⟩ := I i hi
  by_cases e : j = i
  · subst e
    exact ⟨x, by simp [Cell.setSlot, hi]⟩
  · exact ⟨y, by simp only [Cell.setSlot]; rw [Array.getElem?_setIfInBounds_ne e]; exact hy⟩
theorem own_extwr {h0 h' : Heap} {a : Addr} {sl : Nat} {v : Value} (Ex : Ext h0 h) (W : Wr h h' a sl v) (q : h0.size ≤ a) : Ext h0 h' := by
  refine ⟨Nat.le_trans Ex.1 (Nat.le_of_eq W.size.symm), fun b c hb => ?_⟩
  obtain ⟨c', e1, -, -, -, e5, -⟩ := wr_at W (Ex.2 b c hb)
  rw [← e5 (fun z => Nat.lt_irrefl _ (Nat.lt_of_lt_of_le (Array.getElem?_eq_some_iff.mp hb).1 (z ▸ q)))]
  exact e1
theorem own_ext0 (h : Heap) : Ext h h := ⟨Nat.le_refl _, fun _ _ q => q⟩
theorem own_exttr {h1 h2 h3 : Heap} (A : Ext h1 h2) (B : Ext h2 h3) : Ext h1 h3 := ⟨Nat.le_trans A.1 B.1, fun a c q => B.2 a c (A.2 a c q)⟩
theorem own_in {cl : Cell} {n : Nat} {j : Int32} (z : cl.slots.size = n) (h1 : ¬ j < 0) (h2 : j.toNatClampNeg < n) : ¬ (j < 0 ∨ cl.slots.size ≤ j.toNatClampNeg) := fun q => q.elim h1 (fun r => by rw [z] at r; omega)
theorem own_in2 {cl : Cell} {n : Nat} {j : Int32} (z : cl.slots.size = n) (h0 : 0 ≤ j.toInt) (h1 : j.toInt < n) : ¬ (j < 0 ∨ cl.slots.size ≤ j.toNatClampNeg) := by
  refine own_in z (fun q => ?_) ?_
  · rw [Int32.lt_iff_toInt_lt] at q
    have e : (0 : Int32).toInt = 0 := rfl
    omega
  · show j.toInt.toNat < n
    omega
/-- what a callee leaves that writes one field of its object -/
def WQ (Z : State) (r : Option Value) (h0 : Heap) (n0 : Nat) (q : Addr) (C n d : String) (w : Value) (v : Option Value) (h : Heap) (L : List Loc) : Prop := v = r ∧ Fr n0 L ∧ Keep h0 h [q] ∧ Fld Z h q C n d w
theorem WQ.fr {r : Option Value} {h0 : Heap} {q : Addr} {C n d : String} {w : Value} : ∀ v h' L, WQ Z r h0 n0 q C n d w v h' L → Fr n0 L := fun _ _ _ z => z.2.1
/-- a private method by invokevirtual -/
theorem go_callP (X : SD p l e R s m args below meth c Z y bytes ml ret n0 T h cells slots) {y' : MethodName} {bytes' : ByteArray} {ml' i kk : Nat} {ret' : Option FieldType} {rm : Room} {as' : Array Value} {Q : Option Value → Heap → List Loc → Prop} {a : Addr} (W : Nat) (argsL rest : List Value)
    (w1 : (Cond.methodLink y.cls i y').before a0 Z = true) (w2 : (Cond.instanceMethod y').before a0 Z = true) (wp : (Cond.privateMethod y').before a0 Z = true) (wi : (Cond.instantiable y'.cls kk).before a0 Z = true) (w3 : (Cond.initialized y'.cls).before a0 Z = true) (w4 : (Cond.code y' bytes' ml' ret').before a0 Z = true) (hy : y'.cls ≠ "java/lang/invoke/MethodHandle" ∧ y'.cls ≠ "java/lang/invoke/VarHandle")
    (Ex : Exa Z h a y'.cls)
    (hM : MetFree l y' (head1 [Cond.code y' bytes' ml' ret'] rm) (fun a U => a = as' ∧ Z.Warmed39 U.vm ∧ U.heap = h) (fun _ _ _ _ _ => True) (fun _ U o U' => ∃ v L, o = .returned v ∧ Q v U'.heap L ∧ FrameEnd U o U' L rm.cells rm.slots))
    (hf : rm.frames + 1 ≤ R.frames) (hl : W + (ml' + 11) + rm.locals ≤ R.locals) (hsz : Ls.size = ml) (hlen : ∀ sig, parseMethodDescriptor y'.desc = some sig → argsL.length = sig.parameters.length) (has : (Value.ref a :: argsL).toArray = as') (hst : st = argsL.reverse ++ .ref a :: rest) (hW : (rest.map fun v => v.category).sum ≤ W) (hd : decode bytes pc = .ok (.invokevirtual i, 3)) (hc : cells + rm.cells ≤ R.cells) (hs : slots + rm.slots ≤ R.slots) (q : Nat) (hq : pc + 3 = q)
    (hQ : ∀ v h' L, Q v h' L → Fr n0 L)
    (k : ∀ v T' L h', SD p l e R s m args below meth c Z y bytes ml ret n0 T' h' (cells + rm.cells) (slots + rm.slots) → Q v h' L → Go p e below E m T' q Ls (v.toList ++ rest)) : Go p e below E m T pc Ls st := by
  obtain ⟨⟨locs, X, N⟩, hh, hx, hZ, hown, hby, hml, r⟩ := X
  subst hq has
  obtain ⟨cell, hcell, hobj⟩ := Ex.cell
  have hpriv : s.PrivateAt y' := Cond.privateMethod_at (mvP hZ wp (args := #[]))
  obtain ⟨cI, kI, i1, i2, -, i4, -⟩ := Cond.instantiable_spec (mvT (args := args) hZ wi)
  have hni : kI.isInterface = false := by
    cases hb2 : kI.isInterface
    · rfl
    · rw [hb2] at i4; cases i4
  have hsel : (Cond.selects y'.cls y' y').before args s = true := selects_self_of_private i1 i2 hni hpriv (mvT hZ w2) hy
  obtain ⟨v, _, ⟨T', L', k', n'⟩, -, X', ⟨Lc, hq, l1, y1, z1⟩, stp⟩ := X.privateBack hx (y := y') hown (mvT hZ w1) (mvT hZ w2) hsel hpriv (mvT hZ w4) hy (backOf (W := W) hM hZ w4 w3 hf hl) (g := mkF m pc Ls st) rfl (hsz.trans hml.symm) (Steps.refl _) (a := a) (cell := cell) (by rw [hh]; exact hcell) hobj (argsL := argsL) (rest := rest) hlen hst (by show 2 * 0 + _ ≤ _; omega) (hb hby hd) (fun _ _ => ⟨rfl, hh, hc, hs⟩)
  dsimp only [Pt.U, Pt.locs, Pt.cells, Pt.slots] at X' l1 y1 z1 stp hq
  subst l1 y1 z1
  exact go_by (fun _ r => stp.trans r) (k v T' Lc _ ⟨⟨_, X', Fr.app N (hQ _ _ _ hq)⟩, rfl, hx, hZ, hown, hby, hml, r⟩ hq)
theorem own_eqL {t : Term} {k : Int64} (q : (Cond.eq t (Term.long k)).value args s none s [] = some true) : t.eval args s none [] s = some (.long k) := by
  obtain ⟨x, z, h1, h2, -, h4⟩ := cmp_v (Or.inl q)
  have e2 : z = .long k := (Option.some.inj h2).symm
  subst e2
  obtain ⟨w, rfl⟩ : ∃ w, x = .long w := h4
  have e := gotT (eq_L h1 h2) q
  rw [h1, e]
/-! ### arrays by a function of the place -/
def AA (Z : State) (h : Heap) (a : Addr) (ty : FieldType) (n : Nat) (f : Nat → Value) : Prop := ∃ cl : Cell, Arr Z h a cl ty ∧ cl.slots.size = n ∧ ∀ i, i < n → cl.slots[i]? = some (f i)
theorem AA.ext {h' : Heap} {a : Addr} {ty : FieldType} {n : Nat} {f : Nat → Value} (A : AA Z h a ty n f) (Ex : Ext h h') : AA Z h' a ty n f := by
  obtain ⟨cl, A, r⟩ := A
  exact ⟨cl, A.ext Ex, r⟩
theorem AA.keep {h' : Heap} {a : Addr} {ty : FieldType} {n : Nat} {f : Nat → Value} {ws : List Addr} (A : AA Z h a ty n f) (K : Keep h h' ws) (q : a ∉ ws) : AA Z h' a ty n f := by
  obtain ⟨cl, A, r⟩ := A
  exact ⟨cl, ⟨K.2.1 a cl A.1 q, A.2⟩, r⟩
theorem AA.other {h' : Heap} {a b : Addr} {ty : FieldType} {n sl : Nat} {f : Nat → Value} {v : Value} (A : AA Z h a ty n f) (W : Wr h h' b sl v) (q : a ≠ b) : AA Z h' a ty n f := by
  obtain ⟨cl, A, r⟩ := A
  exact ⟨cl, A.other W q, r⟩
theorem AA.lt {a : Addr} {ty : FieldType} {n : Nat} {f : Nat → Value} (A : AA Z h a ty n f) : a < h.size := by
  obtain ⟨cl, A, -⟩ := A
  exact A.lt
theorem AA.fn {a : Addr} {ty : FieldType} {n : Nat} {f g : Nat → Value} (A : AA Z h a ty n f) (q : ∀ i, i < n → f i = g i) : AA Z h a ty n g := by
  obtain ⟨cl, A, hs, r⟩ := A
  exact ⟨cl, A, hs, fun i hi => by rw [← q i hi]; exact r i hi⟩
theorem AA.new {a : Addr} {cA : ClassId} {ty : FieldType} {z : Int32} {n : Nat} (A : Arr Z h a (newA cA ty z) ty) (hz : z.toNatClampNeg = n) : AA Z h a ty n (fun _ => defaultValue ty) := by
  refine ⟨_, A, (sz_new _ _ _).trans hz, fun i hi => ?_⟩
  simp [newA, hz, hi]
theorem clamp_of {j : Int32} (h0 : 0 ≤ j.toInt) : ¬ j < 0 ∧ j.toNatClampNeg = j.toInt.toNat := by
  refine ⟨fun q => ?_, rfl⟩
  rw [Int32.lt_iff_toInt_lt] at q
  have e : (0 : Int32).toInt = 0 := rfl
  omega
theorem AA.set {h' : Heap} {a : Addr} {cl : Cell} {ty : FieldType} {n : Nat} {f : Nat → Value} {j : Nat} {v : Value} (A : Arr Z h a cl ty) (hs : cl.slots.size = n) (r : ∀ i, i < n → cl.slots[i]? = some (f i)) (W : Wr h h' a j v) (hj : j < n) : AA Z h' a ty n (fun i => if i = j then v else f i) := by
  refine ⟨_, A.same W, (sz_set _ _ _).trans hs, fun i hi => ?_⟩
  by_cases e : i = j
  · subst e
    simp [Cell.setSlot, hs, hi]
  · simp only [Cell.setSlot]
    rw [Array.getElem?_setIfInBounds_ne (Ne.symm e), r i hi]
    simp [e]
theorem go_setB (X : SD p l e R s m args below meth c Z y bytes ml ret n0 T h cells slots) {a : Addr} {n : Nat} {f : Nat → Value} {j x : Int32} (A : AA Z h a .byte n f) (hj0 : 0 ≤ j.toInt) (hj1 : j.toInt < n) (ha : n0 ≤ a) (hd : decode bytes pc = .ok (.bastore, 1)) (q : Nat) (hq : pc + 1 = q)
    (k : ∀ T' h', SD p l e R s m args below meth c Z y bytes ml ret n0 T' h' cells slots → Keep h h' [a] → AA Z h' a .byte n (fun i => if i = j.toInt.toNat then .int (nar .byte x) else f i) → Go p e below E m T' q Ls st) : Go p e below E m T pc Ls (.int x :: .int j :: .ref a :: st) := by
  obtain ⟨cl, A, hs, r⟩ := A
  exact go_stB X A (own_in2 hs hj0 hj1) ha hd q hq (fun T' h' X' W => k T' h' X' (Keep.of_wr W) (AA.set A hs r W (by show j.toInt.toNat < n; omega)))
theorem go_setJ (X : SD p l e R s m args below meth c Z y bytes ml ret n0 T h cells slots) {a : Addr} {n : Nat} {f : Nat → Value} {j : Int32} {x : Int64} (A : AA Z h a .long n f) (hj0 : 0 ≤ j.toInt) (hj1 : j.toInt < n) (ha : n0 ≤ a) (hd : decode bytes pc = .ok (.lastore, 1)) (q : Nat) (hq : pc + 1 = q)
    (k : ∀ T' h', SD p l e R s m args below meth c Z y bytes ml ret n0 T' h' cells slots → Wr h h' a j.toInt.toNat (.long x) → AA Z h' a .long n (fun i => if i = j.toInt.toNat then .long x else f i) → Go p e below E m T' q Ls st) : Go p e below E m T pc Ls (.long x :: .int j :: .ref a :: st) := by
  obtain ⟨cl, A, hs, r⟩ := A
  exact go_stJ X A (own_in2 hs hj0 hj1) ha hd q hq (fun T' h' X' W => k T' h' X' W (AA.set A hs r W (by show j.toInt.toNat < n; omega)))
theorem go_getJ (X : SD p l e R s m args below meth c Z y bytes ml ret n0 T h cells slots) {a : Addr} {n : Nat} {f : Nat → Value} {j : Int32} {v : Value} (A : AA Z h a .long n f) (hj0 : 0 ≤ j.toInt) (hj1 : j.toInt < n) (hv : f j.toInt.toNat = v) (hd : decode bytes pc = .ok (.laload, 1)) (q : Nat) (hq : pc + 1 = q)
    (k : Go p e below E m T q Ls (v :: st)) : Go p e below E m T pc Ls (.int j :: .ref a :: st) := by
  obtain ⟨cl, A, hs, r⟩ := A
  exact go_laload X A (own_in2 hs hj0 hj1) (by rw [← hv]; exact r _ (by show j.toInt.toNat < n; omega)) hd q hq k
theorem go_getB (X : SD p l e R s m args below meth c Z y bytes ml ret n0 T h cells slots) {a : Addr} {n : Nat} {f : Nat → Value} {j : Int32} {v : Value} (A : AA Z h a .byte n f) (hj0 : 0 ≤ j.toInt) (hj1 : j.toInt < n) (hv : f j.toInt.toNat = v) (hd : decode bytes pc = .ok (.baload, 1)) (q : Nat) (hq : pc + 1 = q)
    (k : Go p e below E m T q Ls (v :: st)) : Go p e below E m T pc Ls (.int j :: .ref a :: st) := by
  obtain ⟨cl, A, hs, r⟩ := A
  exact go_baload X A (own_in2 hs hj0 hj1) (by rw [← hv]; exact r _ (by show j.toInt.toNat < n; omega)) hd q hq k
end OwnKit
end Jvm.RoadKit
namespace Jvm.Pilot.@@N@@
open Jvm Jvm.ClassFile Sem Op Lib Jvm.Free Jvm.Stand Jvm.LawKit Jvm.RoadKit Bundle Jvm.Pilot.@@N@@.Jvm.D
theorem d1_0 : decode jdk_29_method_61_code 0 = .ok (.lload_n 0, 1) := by decide +kernel
theorem d1_1 : decode jdk_29_method_61_code 1 = .ok (.lconst 0, 1) := by decide +kernel
theorem d1_2 : decode jdk_29_method_61_code 2 = .ok (.lcmp, 1) := by decide +kernel
theorem d1_3 : decode jdk_29_method_61_code 3 = .ok (.ifCond .ge 8, 3) := by decide +kernel
theorem d1_6 : decode jdk_29_method_61_code 6 = .ok (.lload_n 0, 1) := by decide +kernel
theorem d1_7 : decode jdk_29_method_61_code 7 = .ok (.lneg, 1) := by decide +kernel
theorem d1_8 : decode jdk_29_method_61_code 8 = .ok (.goto 4, 3) := by decide +kernel
theorem d1_11 : decode jdk_29_method_61_code 11 = .ok (.lload_n 0, 1) := by decide +kernel
theorem d1_12 : decode jdk_29_method_61_code 12 = .ok (.lreturn, 1) := by decide +kernel
theorem d2_0 : decode prog_17_method_8_code 0 = .ok (.iload 4, 2) := by decide +kernel
theorem d2_2 : decode prog_17_method_8_code 2 = .ok (.istore 5, 2) := by decide +kernel
theorem d2_4 : decode prog_17_method_8_code 4 = .ok (.lload_n 0, 1) := by decide +kernel
theorem d2_5 : decode prog_17_method_8_code 5 = .ok (.invokestatic 86, 3) := by decide +kernel
theorem d2_8 : decode prog_17_method_8_code 8 = .ok (.lstore 6, 2) := by decide +kernel
theorem d2_10 : decode prog_17_method_8_code 10 = .ok (.iconst 0, 1) := by decide +kernel
theorem d2_11 : decode prog_17_method_8_code 11 = .ok (.istore 8, 2) := by decide +kernel
theorem d2_13 : decode prog_17_method_8_code 13 = .ok (.iload 8, 2) := by decide +kernel
theorem d2_15 : decode prog_17_method_8_code 15 = .ok (.iload_n 2, 1) := by decide +kernel
theorem d2_16 : decode prog_17_method_8_code 16 = .ok (.if_icmp .ge 36, 3) := by decide +kernel
theorem d2_19 : decode prog_17_method_8_code 19 = .ok (.aload_n 3, 1) := by decide +kernel
theorem d2_20 : decode prog_17_method_8_code 20 = .ok (.iinc 5 (-1), 3) := by decide +kernel
theorem d2_23 : decode prog_17_method_8_code 23 = .ok (.iload 5, 2) := by decide +kernel
theorem d2_25 : decode prog_17_method_8_code 25 = .ok (.ldc2_w 95, 3) := by decide +kernel
theorem d2_28 : decode prog_17_method_8_code 28 = .ok (.lload 6, 2) := by decide +kernel
theorem d2_30 : decode prog_17_method_8_code 30 = .ok (.ldc2_w 90, 3) := by decide +kernel
theorem d2_33 : decode prog_17_method_8_code 33 = .ok (.lrem, 1) := by decide +kernel
theorem d2_34 : decode prog_17_method_8_code 34 = .ok (.ladd, 1) := by decide +kernel
theorem d2_35 : decode prog_17_method_8_code 35 = .ok (.l2i, 1) := by decide +kernel
theorem d2_36 : decode prog_17_method_8_code 36 = .ok (.i2b, 1) := by decide +kernel
theorem d2_37 : decode prog_17_method_8_code 37 = .ok (.bastore, 1) := by decide +kernel
theorem d2_38 : decode prog_17_method_8_code 38 = .ok (.lload 6, 2) := by decide +kernel
theorem d2_40 : decode prog_17_method_8_code 40 = .ok (.ldc2_w 90, 3) := by decide +kernel
theorem d2_43 : decode prog_17_method_8_code 43 = .ok (.ldiv, 1) := by decide +kernel
theorem d2_44 : decode prog_17_method_8_code 44 = .ok (.lstore 6, 2) := by decide +kernel
theorem d2_46 : decode prog_17_method_8_code 46 = .ok (.iinc 8 1, 3) := by decide +kernel
theorem d2_49 : decode prog_17_method_8_code 49 = .ok (.goto (-36), 3) := by decide +kernel
theorem d2_52 : decode prog_17_method_8_code 52 = .ok (.iload_n 2, 1) := by decide +kernel
theorem d2_53 : decode prog_17_method_8_code 53 = .ok (.ifCond .le 12, 3) := by decide +kernel
theorem d2_56 : decode prog_17_method_8_code 56 = .ok (.aload_n 3, 1) := by decide +kernel
theorem d2_57 : decode prog_17_method_8_code 57 = .ok (.iinc 5 (-1), 3) := by decide +kernel
theorem d2_60 : decode prog_17_method_8_code 60 = .ok (.iload 5, 2) := by decide +kernel
theorem d2_62 : decode prog_17_method_8_code 62 = .ok (.bipush 46, 2) := by decide +kernel
theorem d2_64 : decode prog_17_method_8_code 64 = .ok (.bastore, 1) := by decide +kernel
theorem d2_65 : decode prog_17_method_8_code 65 = .ok (.aload_n 3, 1) := by decide +kernel
theorem d2_66 : decode prog_17_method_8_code 66 = .ok (.iinc 5 (-1), 3) := by decide +kernel
theorem d2_69 : decode prog_17_method_8_code 69 = .ok (.iload 5, 2) := by decide +kernel
theorem d2_71 : decode prog_17_method_8_code 71 = .ok (.ldc2_w 95, 3) := by decide +kernel
theorem d2_74 : decode prog_17_method_8_code 74 = .ok (.lload 6, 2) := by decide +kernel
theorem d2_76 : decode prog_17_method_8_code 76 = .ok (.ldc2_w 90, 3) := by decide +kernel
theorem d2_79 : decode prog_17_method_8_code 79 = .ok (.lrem, 1) := by decide +kernel
theorem d2_80 : decode prog_17_method_8_code 80 = .ok (.ladd, 1) := by decide +kernel
theorem d2_81 : decode prog_17_method_8_code 81 = .ok (.l2i, 1) := by decide +kernel
theorem d2_82 : decode prog_17_method_8_code 82 = .ok (.i2b, 1) := by decide +kernel
theorem d2_83 : decode prog_17_method_8_code 83 = .ok (.bastore, 1) := by decide +kernel
theorem d2_84 : decode prog_17_method_8_code 84 = .ok (.lload 6, 2) := by decide +kernel
theorem d2_86 : decode prog_17_method_8_code 86 = .ok (.ldc2_w 90, 3) := by decide +kernel
theorem d2_89 : decode prog_17_method_8_code 89 = .ok (.ldiv, 1) := by decide +kernel
theorem d2_90 : decode prog_17_method_8_code 90 = .ok (.lstore 6, 2) := by decide +kernel
theorem d2_92 : decode prog_17_method_8_code 92 = .ok (.lload 6, 2) := by decide +kernel
theorem d2_94 : decode prog_17_method_8_code 94 = .ok (.lconst 0, 1) := by decide +kernel
theorem d2_95 : decode prog_17_method_8_code 95 = .ok (.lcmp, 1) := by decide +kernel
theorem d2_96 : decode prog_17_method_8_code 96 = .ok (.ifCond .gt (-31), 3) := by decide +kernel
theorem d2_99 : decode prog_17_method_8_code 99 = .ok (.lload_n 0, 1) := by decide +kernel
theorem d2_100 : decode prog_17_method_8_code 100 = .ok (.lconst 0, 1) := by decide +kernel
theorem d2_101 : decode prog_17_method_8_code 101 = .ok (.lcmp, 1) := by decide +kernel
theorem d2_102 : decode prog_17_method_8_code 102 = .ok (.ifCond .ge 12, 3) := by decide +kernel
theorem d2_105 : decode prog_17_method_8_code 105 = .ok (.aload_n 3, 1) := by decide +kernel
theorem d2_106 : decode prog_17_method_8_code 106 = .ok (.iinc 5 (-1), 3) := by decide +kernel
theorem d2_109 : decode prog_17_method_8_code 109 = .ok (.iload 5, 2) := by decide +kernel
theorem d2_111 : decode prog_17_method_8_code 111 = .ok (.bipush 45, 2) := by decide +kernel
theorem d2_113 : decode prog_17_method_8_code 113 = .ok (.bastore, 1) := by decide +kernel
theorem d2_114 : decode prog_17_method_8_code 114 = .ok (.iload 5, 2) := by decide +kernel
theorem d2_116 : decode prog_17_method_8_code 116 = .ok (.ireturn, 1) := by decide +kernel
theorem d3_0 : decode method_5_code 0 = .ok (.bipush 19, 2) := by decide +kernel
theorem d3_2 : decode method_5_code 2 = .ok (.newarray .long, 2) := by decide +kernel
theorem d3_4 : decode method_5_code 4 = .ok (.dup, 1) := by decide +kernel
theorem d3_5 : decode method_5_code 5 = .ok (.iconst 0, 1) := by decide +kernel
theorem d3_6 : decode method_5_code 6 = .ok (.lconst 1, 1) := by decide +kernel
theorem d3_7 : decode method_5_code 7 = .ok (.lastore, 1) := by decide +kernel
theorem d3_8 : decode method_5_code 8 = .ok (.dup, 1) := by decide +kernel
theorem d3_9 : decode method_5_code 9 = .ok (.iconst 1, 1) := by decide +kernel
theorem d3_10 : decode method_5_code 10 = .ok (.ldc2_w 37, 3) := by decide +kernel
theorem d3_13 : decode method_5_code 13 = .ok (.lastore, 1) := by decide +kernel
theorem d3_14 : decode method_5_code 14 = .ok (.dup, 1) := by decide +kernel
theorem d3_15 : decode method_5_code 15 = .ok (.iconst 2, 1) := by decide +kernel
theorem d3_16 : decode method_5_code 16 = .ok (.ldc2_w 39, 3) := by decide +kernel
theorem d3_19 : decode method_5_code 19 = .ok (.lastore, 1) := by decide +kernel
theorem d3_20 : decode method_5_code 20 = .ok (.dup, 1) := by decide +kernel
theorem d3_21 : decode method_5_code 21 = .ok (.iconst 3, 1) := by decide +kernel
theorem d3_22 : decode method_5_code 22 = .ok (.ldc2_w 41, 3) := by decide +kernel
theorem d3_25 : decode method_5_code 25 = .ok (.lastore, 1) := by decide +kernel
theorem d3_26 : decode method_5_code 26 = .ok (.dup, 1) := by decide +kernel
theorem d3_27 : decode method_5_code 27 = .ok (.iconst 4, 1) := by decide +kernel
theorem d3_28 : decode method_5_code 28 = .ok (.ldc2_w 43, 3) := by decide +kernel
theorem d3_31 : decode method_5_code 31 = .ok (.lastore, 1) := by decide +kernel
theorem d3_32 : decode method_5_code 32 = .ok (.dup, 1) := by decide +kernel
theorem d3_33 : decode method_5_code 33 = .ok (.iconst 5, 1) := by decide +kernel
theorem d3_34 : decode method_5_code 34 = .ok (.ldc2_w 45, 3) := by decide +kernel
theorem d3_37 : decode method_5_code 37 = .ok (.lastore, 1) := by decide +kernel
theorem d3_38 : decode method_5_code 38 = .ok (.dup, 1) := by decide +kernel
theorem d3_39 : decode method_5_code 39 = .ok (.bipush 6, 2) := by decide +kernel
theorem d3_41 : decode method_5_code 41 = .ok (.ldc2_w 47, 3) := by decide +kernel
theorem d3_44 : decode method_5_code 44 = .ok (.lastore, 1) := by decide +kernel
theorem d3_45 : decode method_5_code 45 = .ok (.dup, 1) := by decide +kernel
theorem d3_46 : decode method_5_code 46 = .ok (.bipush 7, 2) := by decide +kernel
theorem d3_48 : decode method_5_code 48 = .ok (.ldc2_w 49, 3) := by decide +kernel
theorem d3_51 : decode method_5_code 51 = .ok (.lastore, 1) := by decide +kernel
theorem d3_52 : decode method_5_code 52 = .ok (.dup, 1) := by decide +kernel
theorem d3_53 : decode method_5_code 53 = .ok (.bipush 8, 2) := by decide +kernel
theorem d3_55 : decode method_5_code 55 = .ok (.ldc2_w 51, 3) := by decide +kernel
theorem d3_58 : decode method_5_code 58 = .ok (.lastore, 1) := by decide +kernel
theorem d3_59 : decode method_5_code 59 = .ok (.dup, 1) := by decide +kernel
theorem d3_60 : decode method_5_code 60 = .ok (.bipush 9, 2) := by decide +kernel
theorem d3_62 : decode method_5_code 62 = .ok (.ldc2_w 53, 3) := by decide +kernel
theorem d3_65 : decode method_5_code 65 = .ok (.lastore, 1) := by decide +kernel
theorem d3_66 : decode method_5_code 66 = .ok (.dup, 1) := by decide +kernel
theorem d3_67 : decode method_5_code 67 = .ok (.bipush 10, 2) := by decide +kernel
theorem d3_69 : decode method_5_code 69 = .ok (.ldc2_w 55, 3) := by decide +kernel
theorem d3_72 : decode method_5_code 72 = .ok (.lastore, 1) := by decide +kernel
theorem d3_73 : decode method_5_code 73 = .ok (.dup, 1) := by decide +kernel
theorem d3_74 : decode method_5_code 74 = .ok (.bipush 11, 2) := by decide +kernel
theorem d3_76 : decode method_5_code 76 = .ok (.ldc2_w 57, 3) := by decide +kernel
theorem d3_79 : decode method_5_code 79 = .ok (.lastore, 1) := by decide +kernel
theorem d3_80 : decode method_5_code 80 = .ok (.dup, 1) := by decide +kernel
theorem d3_81 : decode method_5_code 81 = .ok (.bipush 12, 2) := by decide +kernel
theorem d3_83 : decode method_5_code 83 = .ok (.ldc2_w 59, 3) := by decide +kernel
theorem d3_86 : decode method_5_code 86 = .ok (.lastore, 1) := by decide +kernel
theorem d3_87 : decode method_5_code 87 = .ok (.dup, 1) := by decide +kernel
theorem d3_88 : decode method_5_code 88 = .ok (.bipush 13, 2) := by decide +kernel
theorem d3_90 : decode method_5_code 90 = .ok (.ldc2_w 61, 3) := by decide +kernel
theorem d3_93 : decode method_5_code 93 = .ok (.lastore, 1) := by decide +kernel
theorem d3_94 : decode method_5_code 94 = .ok (.dup, 1) := by decide +kernel
theorem d3_95 : decode method_5_code 95 = .ok (.bipush 14, 2) := by decide +kernel
theorem d3_97 : decode method_5_code 97 = .ok (.ldc2_w 63, 3) := by decide +kernel
theorem d3_100 : decode method_5_code 100 = .ok (.lastore, 1) := by decide +kernel
theorem d3_101 : decode method_5_code 101 = .ok (.dup, 1) := by decide +kernel
theorem d3_102 : decode method_5_code 102 = .ok (.bipush 15, 2) := by decide +kernel
theorem d3_104 : decode method_5_code 104 = .ok (.ldc2_w 65, 3) := by decide +kernel
theorem d3_107 : decode method_5_code 107 = .ok (.lastore, 1) := by decide +kernel
theorem d3_108 : decode method_5_code 108 = .ok (.dup, 1) := by decide +kernel
theorem d3_109 : decode method_5_code 109 = .ok (.bipush 16, 2) := by decide +kernel
theorem d3_111 : decode method_5_code 111 = .ok (.ldc2_w 67, 3) := by decide +kernel
theorem d3_114 : decode method_5_code 114 = .ok (.lastore, 1) := by decide +kernel
theorem d3_115 : decode method_5_code 115 = .ok (.dup, 1) := by decide +kernel
theorem d3_116 : decode method_5_code 116 = .ok (.bipush 17, 2) := by decide +kernel
theorem d3_118 : decode method_5_code 118 = .ok (.ldc2_w 69, 3) := by decide +kernel
theorem d3_121 : decode method_5_code 121 = .ok (.lastore, 1) := by decide +kernel
theorem d3_122 : decode method_5_code 122 = .ok (.dup, 1) := by decide +kernel
theorem d3_123 : decode method_5_code 123 = .ok (.bipush 18, 2) := by decide +kernel
theorem d3_125 : decode method_5_code 125 = .ok (.ldc2_w 71, 3) := by decide +kernel
theorem d3_128 : decode method_5_code 128 = .ok (.lastore, 1) := by decide +kernel
theorem d3_129 : decode method_5_code 129 = .ok (.astore_n 1, 1) := by decide +kernel
theorem d3_130 : decode method_5_code 130 = .ok (.aload_n 1, 1) := by decide +kernel
theorem d3_131 : decode method_5_code 131 = .ok (.iload_n 0, 1) := by decide +kernel
theorem d3_132 : decode method_5_code 132 = .ok (.laload, 1) := by decide +kernel
theorem d3_133 : decode method_5_code 133 = .ok (.lreturn, 1) := by decide +kernel
theorem d4_0 : decode method_4_code 0 = .ok (.iload_n 2, 1) := by decide +kernel
theorem d4_1 : decode method_4_code 1 = .ok (.ifCond .lt 9, 3) := by decide +kernel
theorem d4_4 : decode method_4_code 4 = .ok (.iload_n 2, 1) := by decide +kernel
theorem d4_5 : decode method_4_code 5 = .ok (.bipush 19, 2) := by decide +kernel
theorem d4_7 : decode method_4_code 7 = .ok (.if_icmp .lt 5, 3) := by decide +kernel
theorem d4_10 : decode method_4_code 10 = .ok (.iconst 0, 1) := by decide +kernel
theorem d4_11 : decode method_4_code 11 = .ok (.ireturn, 1) := by decide +kernel
theorem d4_12 : decode method_4_code 12 = .ok (.lload_n 0, 1) := by decide +kernel
theorem d4_13 : decode method_4_code 13 = .ok (.iload_n 2, 1) := by decide +kernel
theorem d4_14 : decode method_4_code 14 = .ok (.invokestatic 23, 3) := by decide +kernel
theorem d4_17 : decode method_4_code 17 = .ok (.ldiv, 1) := by decide +kernel
theorem d4_18 : decode method_4_code 18 = .ok (.ldc2_w 37, 3) := by decide +kernel
theorem d4_21 : decode method_4_code 21 = .ok (.lrem, 1) := by decide +kernel
theorem d4_22 : decode method_4_code 22 = .ok (.l2i, 1) := by decide +kernel
theorem d4_23 : decode method_4_code 23 = .ok (.ireturn, 1) := by decide +kernel
theorem d5_0 : decode method_3_code 0 = .ok (.iload_n 0, 1) := by decide +kernel
theorem d5_1 : decode method_3_code 1 = .ok (.iload_n 1, 1) := by decide +kernel
theorem d5_2 : decode method_3_code 2 = .ok (.if_icmp .lt 8, 3) := by decide +kernel
theorem d5_5 : decode method_3_code 5 = .ok (.iload_n 0, 1) := by decide +kernel
theorem d5_6 : decode method_3_code 6 = .ok (.iload_n 2, 1) := by decide +kernel
theorem d5_7 : decode method_3_code 7 = .ok (.if_icmp .lt 5, 3) := by decide +kernel
theorem d5_10 : decode method_3_code 10 = .ok (.iconst 0, 1) := by decide +kernel
theorem d5_11 : decode method_3_code 11 = .ok (.ireturn, 1) := by decide +kernel
theorem d5_12 : decode method_3_code 12 = .ok (.iload 6, 2) := by decide +kernel
theorem d5_14 : decode method_3_code 14 = .ok (.iconst 1, 1) := by decide +kernel
theorem d5_15 : decode method_3_code 15 = .ok (.if_icmp .ne 11, 3) := by decide +kernel
theorem d5_18 : decode method_3_code 18 = .ok (.iload_n 0, 1) := by decide +kernel
theorem d5_19 : decode method_3_code 19 = .ok (.iload_n 1, 1) := by decide +kernel
theorem d5_20 : decode method_3_code 20 = .ok (.if_icmp .ne 6, 3) := by decide +kernel
theorem d5_23 : decode method_3_code 23 = .ok (.bipush 45, 2) := by decide +kernel
theorem d5_25 : decode method_3_code 25 = .ok (.ireturn, 1) := by decide +kernel
theorem d5_26 : decode method_3_code 26 = .ok (.iload_n 2, 1) := by decide +kernel
theorem d5_27 : decode method_3_code 27 = .ok (.iload_n 0, 1) := by decide +kernel
theorem d5_28 : decode method_3_code 28 = .ok (.isub, 1) := by decide +kernel
theorem d5_29 : decode method_3_code 29 = .ok (.istore 7, 2) := by decide +kernel
theorem d5_31 : decode method_3_code 31 = .ok (.iload 5, 2) := by decide +kernel
theorem d5_33 : decode method_3_code 33 = .ok (.ifCond .le 22, 3) := by decide +kernel
theorem d5_36 : decode method_3_code 36 = .ok (.iload 7, 2) := by decide +kernel
theorem d5_38 : decode method_3_code 38 = .ok (.iload 5, 2) := by decide +kernel
theorem d5_40 : decode method_3_code 40 = .ok (.if_icmp .gt 15, 3) := by decide +kernel
theorem d5_43 : decode method_3_code 43 = .ok (.bipush 48, 2) := by decide +kernel
theorem d5_45 : decode method_3_code 45 = .ok (.lload_n 3, 1) := by decide +kernel
theorem d5_46 : decode method_3_code 46 = .ok (.iload 7, 2) := by decide +kernel
theorem d5_48 : decode method_3_code 48 = .ok (.iconst 1, 1) := by decide +kernel
theorem d5_49 : decode method_3_code 49 = .ok (.isub, 1) := by decide +kernel
theorem d5_50 : decode method_3_code 50 = .ok (.invokestatic 29, 3) := by decide +kernel
theorem d5_53 : decode method_3_code 53 = .ok (.iadd, 1) := by decide +kernel
theorem d5_54 : decode method_3_code 54 = .ok (.ireturn, 1) := by decide +kernel
theorem d5_55 : decode method_3_code 55 = .ok (.iload 5, 2) := by decide +kernel
theorem d5_57 : decode method_3_code 57 = .ok (.ifCond .le 15, 3) := by decide +kernel
theorem d5_60 : decode method_3_code 60 = .ok (.iload 7, 2) := by decide +kernel
theorem d5_62 : decode method_3_code 62 = .ok (.iload 5, 2) := by decide +kernel
theorem d5_64 : decode method_3_code 64 = .ok (.iconst 1, 1) := by decide +kernel
theorem d5_65 : decode method_3_code 65 = .ok (.iadd, 1) := by decide +kernel
theorem d5_66 : decode method_3_code 66 = .ok (.if_icmp .ne 6, 3) := by decide +kernel
theorem d5_69 : decode method_3_code 69 = .ok (.bipush 46, 2) := by decide +kernel
theorem d5_71 : decode method_3_code 71 = .ok (.ireturn, 1) := by decide +kernel
theorem d5_72 : decode method_3_code 72 = .ok (.iload 5, 2) := by decide +kernel
theorem d5_74 : decode method_3_code 74 = .ok (.ifCond .le 15, 3) := by decide +kernel
theorem d5_77 : decode method_3_code 77 = .ok (.bipush 48, 2) := by decide +kernel
theorem d5_79 : decode method_3_code 79 = .ok (.lload_n 3, 1) := by decide +kernel
theorem d5_80 : decode method_3_code 80 = .ok (.iload 7, 2) := by decide +kernel
theorem d5_82 : decode method_3_code 82 = .ok (.iconst 2, 1) := by decide +kernel
theorem d5_83 : decode method_3_code 83 = .ok (.isub, 1) := by decide +kernel
theorem d5_84 : decode method_3_code 84 = .ok (.invokestatic 29, 3) := by decide +kernel
theorem d5_87 : decode method_3_code 87 = .ok (.iadd, 1) := by decide +kernel
theorem d5_88 : decode method_3_code 88 = .ok (.ireturn, 1) := by decide +kernel
theorem d5_89 : decode method_3_code 89 = .ok (.bipush 48, 2) := by decide +kernel
theorem d5_91 : decode method_3_code 91 = .ok (.lload_n 3, 1) := by decide +kernel
theorem d5_92 : decode method_3_code 92 = .ok (.iload 7, 2) := by decide +kernel
theorem d5_94 : decode method_3_code 94 = .ok (.iconst 1, 1) := by decide +kernel
theorem d5_95 : decode method_3_code 95 = .ok (.isub, 1) := by decide +kernel
theorem d5_96 : decode method_3_code 96 = .ok (.invokestatic 29, 3) := by decide +kernel
theorem d5_99 : decode method_3_code 99 = .ok (.iadd, 1) := by decide +kernel
theorem d5_100 : decode method_3_code 100 = .ok (.ireturn, 1) := by decide +kernel
theorem pd_0 : parseMethodDescriptor "(J)J" = some ⟨[.long], some .long⟩ := by decide +kernel
theorem pd_1 : parseMethodDescriptor "(I)J" = some ⟨[.int], some .long⟩ := by decide +kernel
theorem pd_2 : parseMethodDescriptor "(JI)I" = some ⟨[.long, .int], some .int⟩ := by decide +kernel
theorem pd_3 : parseMethodDescriptor "(JI[BI)I" = some ⟨[.long, .int, (.array .byte), .int], some .int⟩ := by decide +kernel
theorem pd_4 : parseMethodDescriptor "(IIIJII)I" = some ⟨[.int, .int, .int, .long, .int, .int], some .int⟩ := by decide +kernel
theorem wd0 {a0 : Array Value} {Z : State} (hw : ∀ d ∈ tables_1, d.before a0 Z = true) : (Jvm.Cond.constantLong "com/example/firmline/firmline/TextBufferPlainPinLaw" (9 : Nat) (-9223372036854775808 : Int64)).before a0 Z = true := hw _ (List.mem_of_getElem? (i := 0) rfl)
theorem wd1 {a0 : Array Value} {Z : State} (hw : ∀ d ∈ tables_1, d.before a0 Z = true) : (Jvm.Cond.arrayClass Jvm.ClassFile.FieldType.byte).before a0 Z = true := hw _ (List.mem_of_getElem? (i := 1) rfl)
theorem wd2 {a0 : Array Value} {Z : State} (hw : ∀ d ∈ tables_1, d.before a0 Z = true) : (Jvm.Cond.methodLink "com/example/firmline/firmline/TextBufferPlainPinLaw" (11 : Nat) ({ cls := "com/example/firmline/firmline/TextBuffer", name := "plain", desc := "(JI[BI)I" } : Jvm.MethodName)).before a0 Z = true := hw _ (List.mem_of_getElem? (i := 2) rfl)
theorem wd3 {a0 : Array Value} {Z : State} (hw : ∀ d ∈ tables_1, d.before a0 Z = true) : (Jvm.Cond.static ({ cls := "com/example/firmline/firmline/TextBuffer", name := "plain", desc := "(JI[BI)I" } : Jvm.MethodName)).before a0 Z = true := hw _ (List.mem_of_getElem? (i := 3) rfl)
theorem wd4 {a0 : Array Value} {Z : State} (hw : ∀ d ∈ tables_1, d.before a0 Z = true) : (Jvm.Cond.initialized "com/example/firmline/firmline/TextBuffer").before a0 Z = true := hw _ (List.mem_of_getElem? (i := 4) rfl)
theorem wd5 {a0 : Array Value} {Z : State} (hw : ∀ d ∈ tables_1, d.before a0 Z = true) : (Jvm.Cond.code ({ cls := "com/example/firmline/firmline/TextBuffer", name := "plain", desc := "(JI[BI)I" } : Jvm.MethodName) prog_17_method_8_code (9 : Nat) (Option.some Jvm.ClassFile.FieldType.int)).before a0 Z = true := hw _ (List.mem_of_getElem? (i := 5) rfl)
theorem wd6 {a0 : Array Value} {Z : State} (hw : ∀ d ∈ tables_1, d.before a0 Z = true) : (Jvm.Cond.methodLink "com/example/firmline/firmline/TextBuffer" (86 : Nat) ({ cls := "java/lang/Math", name := "abs", desc := "(J)J" } : Jvm.MethodName)).before a0 Z = true := hw _ (List.mem_of_getElem? (i := 6) rfl)
theorem wd7 {a0 : Array Value} {Z : State} (hw : ∀ d ∈ tables_1, d.before a0 Z = true) : (Jvm.Cond.static ({ cls := "java/lang/Math", name := "abs", desc := "(J)J" } : Jvm.MethodName)).before a0 Z = true := hw _ (List.mem_of_getElem? (i := 7) rfl)
theorem wd8 {a0 : Array Value} {Z : State} (hw : ∀ d ∈ tables_1, d.before a0 Z = true) : (Jvm.Cond.initialized "java/lang/Math").before a0 Z = true := hw _ (List.mem_of_getElem? (i := 8) rfl)
theorem wd9 {a0 : Array Value} {Z : State} (hw : ∀ d ∈ tables_1, d.before a0 Z = true) : (Jvm.Cond.code ({ cls := "java/lang/Math", name := "abs", desc := "(J)J" } : Jvm.MethodName) jdk_29_method_61_code (2 : Nat) (Option.some Jvm.ClassFile.FieldType.long)).before a0 Z = true := hw _ (List.mem_of_getElem? (i := 9) rfl)
theorem wd10 {a0 : Array Value} {Z : State} (hw : ∀ d ∈ tables_1, d.before a0 Z = true) : (Jvm.Cond.constantLong "com/example/firmline/firmline/TextBuffer" (95 : Nat) (48 : Int64)).before a0 Z = true := hw _ (List.mem_of_getElem? (i := 10) rfl)
theorem wd11 {a0 : Array Value} {Z : State} (hw : ∀ d ∈ tables_1, d.before a0 Z = true) : (Jvm.Cond.constantLong "com/example/firmline/firmline/TextBuffer" (90 : Nat) (10 : Int64)).before a0 Z = true := hw _ (List.mem_of_getElem? (i := 11) rfl)
theorem wd12 {a0 : Array Value} {Z : State} (hw : ∀ d ∈ tables_1, d.before a0 Z = true) : (Jvm.Cond.methodLink "com/example/firmline/firmline/TextBufferPlainPinLaw" (17 : Nat) ({ cls := "java/lang/Math", name := "abs", desc := "(J)J" } : Jvm.MethodName)).before a0 Z = true := hw _ (List.mem_of_getElem? (i := 12) rfl)
theorem wd13 {a0 : Array Value} {Z : State} (hw : ∀ d ∈ tables_1, d.before a0 Z = true) : (Jvm.Cond.methodLink "com/example/firmline/firmline/TextBufferPlainPinLaw" (23 : Nat) ({ cls := "com/example/firmline/firmline/TextBufferPlainPinLaw", name := "pow10", desc := "(I)J" } : Jvm.MethodName)).before a0 Z = true := hw _ (List.mem_of_getElem? (i := 13) rfl)
theorem wd14 {a0 : Array Value} {Z : State} (hw : ∀ d ∈ tables_1, d.before a0 Z = true) : (Jvm.Cond.static ({ cls := "com/example/firmline/firmline/TextBufferPlainPinLaw", name := "pow10", desc := "(I)J" } : Jvm.MethodName)).before a0 Z = true := hw _ (List.mem_of_getElem? (i := 14) rfl)
theorem wd15 {a0 : Array Value} {Z : State} (hw : ∀ d ∈ tables_1, d.before a0 Z = true) : (Jvm.Cond.initialized "com/example/firmline/firmline/TextBufferPlainPinLaw").before a0 Z = true := hw _ (List.mem_of_getElem? (i := 15) rfl)
theorem wd16 {a0 : Array Value} {Z : State} (hw : ∀ d ∈ tables_1, d.before a0 Z = true) : (Jvm.Cond.code ({ cls := "com/example/firmline/firmline/TextBufferPlainPinLaw", name := "pow10", desc := "(I)J" } : Jvm.MethodName) method_5_code (2 : Nat) (Option.some Jvm.ClassFile.FieldType.long)).before a0 Z = true := hw _ (List.mem_of_getElem? (i := 16) rfl)
theorem wd17 {a0 : Array Value} {Z : State} (hw : ∀ d ∈ tables_1, d.before a0 Z = true) : (Jvm.Cond.arrayClass Jvm.ClassFile.FieldType.long).before a0 Z = true := hw _ (List.mem_of_getElem? (i := 17) rfl)
theorem wd18 {a0 : Array Value} {Z : State} (hw : ∀ d ∈ tables_1, d.before a0 Z = true) : (Jvm.Cond.constantLong "com/example/firmline/firmline/TextBufferPlainPinLaw" (37 : Nat) (10 : Int64)).before a0 Z = true := hw _ (List.mem_of_getElem? (i := 18) rfl)
theorem wd19 {a0 : Array Value} {Z : State} (hw : ∀ d ∈ tables_1, d.before a0 Z = true) : (Jvm.Cond.constantLong "com/example/firmline/firmline/TextBufferPlainPinLaw" (39 : Nat) (100 : Int64)).before a0 Z = true := hw _ (List.mem_of_getElem? (i := 19) rfl)
theorem wd20 {a0 : Array Value} {Z : State} (hw : ∀ d ∈ tables_1, d.before a0 Z = true) : (Jvm.Cond.constantLong "com/example/firmline/firmline/TextBufferPlainPinLaw" (41 : Nat) (1000 : Int64)).before a0 Z = true := hw _ (List.mem_of_getElem? (i := 20) rfl)
theorem wd21 {a0 : Array Value} {Z : State} (hw : ∀ d ∈ tables_1, d.before a0 Z = true) : (Jvm.Cond.constantLong "com/example/firmline/firmline/TextBufferPlainPinLaw" (43 : Nat) (10000 : Int64)).before a0 Z = true := hw _ (List.mem_of_getElem? (i := 21) rfl)
theorem wd22 {a0 : Array Value} {Z : State} (hw : ∀ d ∈ tables_1, d.before a0 Z = true) : (Jvm.Cond.constantLong "com/example/firmline/firmline/TextBufferPlainPinLaw" (45 : Nat) (100000 : Int64)).before a0 Z = true := hw _ (List.mem_of_getElem? (i := 22) rfl)
theorem wd23 {a0 : Array Value} {Z : State} (hw : ∀ d ∈ tables_1, d.before a0 Z = true) : (Jvm.Cond.constantLong "com/example/firmline/firmline/TextBufferPlainPinLaw" (47 : Nat) (1000000 : Int64)).before a0 Z = true := hw _ (List.mem_of_getElem? (i := 23) rfl)
theorem wd24 {a0 : Array Value} {Z : State} (hw : ∀ d ∈ tables_1, d.before a0 Z = true) : (Jvm.Cond.constantLong "com/example/firmline/firmline/TextBufferPlainPinLaw" (49 : Nat) (10000000 : Int64)).before a0 Z = true := hw _ (List.mem_of_getElem? (i := 24) rfl)
theorem wd25 {a0 : Array Value} {Z : State} (hw : ∀ d ∈ tables_1, d.before a0 Z = true) : (Jvm.Cond.constantLong "com/example/firmline/firmline/TextBufferPlainPinLaw" (51 : Nat) (100000000 : Int64)).before a0 Z = true := hw _ (List.mem_of_getElem? (i := 25) rfl)
theorem wd26 {a0 : Array Value} {Z : State} (hw : ∀ d ∈ tables_1, d.before a0 Z = true) : (Jvm.Cond.constantLong "com/example/firmline/firmline/TextBufferPlainPinLaw" (53 : Nat) (1000000000 : Int64)).before a0 Z = true := hw _ (List.mem_of_getElem? (i := 26) rfl)
theorem wd27 {a0 : Array Value} {Z : State} (hw : ∀ d ∈ tables_1, d.before a0 Z = true) : (Jvm.Cond.constantLong "com/example/firmline/firmline/TextBufferPlainPinLaw" (55 : Nat) (10000000000 : Int64)).before a0 Z = true := hw _ (List.mem_of_getElem? (i := 27) rfl)
theorem wd28 {a0 : Array Value} {Z : State} (hw : ∀ d ∈ tables_1, d.before a0 Z = true) : (Jvm.Cond.constantLong "com/example/firmline/firmline/TextBufferPlainPinLaw" (57 : Nat) (100000000000 : Int64)).before a0 Z = true := hw _ (List.mem_of_getElem? (i := 28) rfl)
theorem wd29 {a0 : Array Value} {Z : State} (hw : ∀ d ∈ tables_1, d.before a0 Z = true) : (Jvm.Cond.constantLong "com/example/firmline/firmline/TextBufferPlainPinLaw" (59 : Nat) (1000000000000 : Int64)).before a0 Z = true := hw _ (List.mem_of_getElem? (i := 29) rfl)
theorem wd30 {a0 : Array Value} {Z : State} (hw : ∀ d ∈ tables_1, d.before a0 Z = true) : (Jvm.Cond.constantLong "com/example/firmline/firmline/TextBufferPlainPinLaw" (61 : Nat) (10000000000000 : Int64)).before a0 Z = true := hw _ (List.mem_of_getElem? (i := 30) rfl)
theorem wd31 {a0 : Array Value} {Z : State} (hw : ∀ d ∈ tables_1, d.before a0 Z = true) : (Jvm.Cond.constantLong "com/example/firmline/firmline/TextBufferPlainPinLaw" (63 : Nat) (100000000000000 : Int64)).before a0 Z = true := hw _ (List.mem_of_getElem? (i := 31) rfl)
theorem wd32 {a0 : Array Value} {Z : State} (hw : ∀ d ∈ tables_1, d.before a0 Z = true) : (Jvm.Cond.constantLong "com/example/firmline/firmline/TextBufferPlainPinLaw" (65 : Nat) (1000000000000000 : Int64)).before a0 Z = true := hw _ (List.mem_of_getElem? (i := 32) rfl)
theorem wd33 {a0 : Array Value} {Z : State} (hw : ∀ d ∈ tables_1, d.before a0 Z = true) : (Jvm.Cond.constantLong "com/example/firmline/firmline/TextBufferPlainPinLaw" (67 : Nat) (10000000000000000 : Int64)).before a0 Z = true := hw _ (List.mem_of_getElem? (i := 33) rfl)
theorem wd34 {a0 : Array Value} {Z : State} (hw : ∀ d ∈ tables_1, d.before a0 Z = true) : (Jvm.Cond.constantLong "com/example/firmline/firmline/TextBufferPlainPinLaw" (69 : Nat) (100000000000000000 : Int64)).before a0 Z = true := hw _ (List.mem_of_getElem? (i := 34) rfl)
theorem wd35 {a0 : Array Value} {Z : State} (hw : ∀ d ∈ tables_1, d.before a0 Z = true) : (Jvm.Cond.constantLong "com/example/firmline/firmline/TextBufferPlainPinLaw" (71 : Nat) (1000000000000000000 : Int64)).before a0 Z = true := hw _ (List.mem_of_getElem? (i := 35) rfl)
theorem wd36 {a0 : Array Value} {Z : State} (hw : ∀ d ∈ tables_1, d.before a0 Z = true) : (Jvm.Cond.methodLink "com/example/firmline/firmline/TextBufferPlainPinLaw" (33 : Nat) ({ cls := "com/example/firmline/firmline/TextBufferPlainPinLaw", name := "expected", desc := "(IIIJII)I" } : Jvm.MethodName)).before a0 Z = true := hw _ (List.mem_of_getElem? (i := 36) rfl)
theorem wd37 {a0 : Array Value} {Z : State} (hw : ∀ d ∈ tables_1, d.before a0 Z = true) : (Jvm.Cond.static ({ cls := "com/example/firmline/firmline/TextBufferPlainPinLaw", name := "expected", desc := "(IIIJII)I" } : Jvm.MethodName)).before a0 Z = true := hw _ (List.mem_of_getElem? (i := 37) rfl)
theorem wd38 {a0 : Array Value} {Z : State} (hw : ∀ d ∈ tables_1, d.before a0 Z = true) : (Jvm.Cond.code ({ cls := "com/example/firmline/firmline/TextBufferPlainPinLaw", name := "expected", desc := "(IIIJII)I" } : Jvm.MethodName) method_3_code (8 : Nat) (Option.some Jvm.ClassFile.FieldType.int)).before a0 Z = true := hw _ (List.mem_of_getElem? (i := 38) rfl)
theorem wd39 {a0 : Array Value} {Z : State} (hw : ∀ d ∈ tables_1, d.before a0 Z = true) : (Jvm.Cond.methodLink "com/example/firmline/firmline/TextBufferPlainPinLaw" (29 : Nat) ({ cls := "com/example/firmline/firmline/TextBufferPlainPinLaw", name := "digit", desc := "(JI)I" } : Jvm.MethodName)).before a0 Z = true := hw _ (List.mem_of_getElem? (i := 39) rfl)
theorem wd40 {a0 : Array Value} {Z : State} (hw : ∀ d ∈ tables_1, d.before a0 Z = true) : (Jvm.Cond.static ({ cls := "com/example/firmline/firmline/TextBufferPlainPinLaw", name := "digit", desc := "(JI)I" } : Jvm.MethodName)).before a0 Z = true := hw _ (List.mem_of_getElem? (i := 40) rfl)
theorem wd41 {a0 : Array Value} {Z : State} (hw : ∀ d ∈ tables_1, d.before a0 Z = true) : (Jvm.Cond.code ({ cls := "com/example/firmline/firmline/TextBufferPlainPinLaw", name := "digit", desc := "(JI)I" } : Jvm.MethodName) method_4_code (3 : Nat) (Option.some Jvm.ClassFile.FieldType.int)).before a0 Z = true := hw _ (List.mem_of_getElem? (i := 41) rfl)
/-! decimal digits, in plain numbers -/
def own_ch (m : Nat) : Int32 := Int32.ofNat (48 + m % 10)
def own_pw (k : Nat) : Int64 := Int64.ofNat (10 ^ k)
theorem own_ten {k : Nat} (h : k < 19) : 10 ^ k < 2 ^ 63 := Nat.lt_of_le_of_lt (Nat.pow_le_pow_right (by decide) (by omega : k ≤ 18)) (by decide)
theorem own_pw_int {k : Nat} (h : k < 19) : (own_pw k).toInt = ((10 ^ k : Nat) : Int) := Int64.toInt_ofNat_of_lt (own_ten h)
theorem own_pw_ne {k : Nat} (h : k < 19) : own_pw k ≠ 0 := fun z => by
  have h1 := own_pw_int h
  rw [z] at h1
  have h2 : 0 < 10 ^ k := Nat.pow_pos (by decide)
  have e : (0 : Int64).toInt = 0 := rfl
  omega
theorem own_divN {q p : Int64} {m k : Nat} (hq : q.toInt = (m : Int)) (hp : p.toInt = (k : Int)) : (q / p).toInt = ((m / k : Nat) : Int) := by
  rw [Jvm.Kit.i64_div (by omega), hq, hp, Int.tdiv_eq_ediv_of_nonneg (by omega)]
  rfl
theorem own_div10 {q v : Int64} {m : Nat} (hq : q.toInt = (m : Int)) (hv : v = q / 10) : v.toInt = ((m / 10 : Nat) : Int) := by
  rw [hv]
  exact own_divN hq rfl
theorem own_step10 {q v : Int64} {U k : Nat} (hq : q.toInt = ((U / 10 ^ k : Nat) : Int)) (hv : v = q / 10) : v.toInt = ((U / 10 ^ (k + 1) : Nat) : Int) := by
  rw [own_div10 hq hv, Nat.div_div_eq_div_mul, Nat.pow_succ]
theorem own_rem10 {q : Int64} {m : Nat} (hq : q.toInt = (m : Int)) : (q - (q / 10) * 10).toInt = ((m % 10 : Nat) : Int) := by
  rw [Jvm.Kit.i64_rem_nonneg (by omega), hq]
  rfl
theorem own_dig0 {r : Int64} {m : Nat} (hr : r.toInt = ((m % 10 : Nat) : Int)) : (((48 : Int64) + r).toInt32).toInt8.toInt32 = own_ch m := by
  have hm : m % 10 < 10 := Nat.mod_lt _ (by decide)
  unfold own_ch
  generalize m % 10 = d at hr hm
  have e : r = Int64.ofNat d := by
    apply Int64.toInt_inj.mp
    rw [hr, Int64.toInt_ofNat_of_lt (by omega)]
  subst e
  have : ∀ j : Fin 10, (((48 : Int64) + Int64.ofNat j.val).toInt32).toInt8.toInt32 = Int32.ofNat (48 + j.val) := by decide
  exact this ⟨d, hm⟩
theorem own_dig {q : Int64} {m : Nat} (hq : q.toInt = (m : Int)) : (((48 : Int64) + (q - (q / 10) * 10)).toInt32).toInt8.toInt32 = own_ch m := own_dig0 (own_rem10 hq)
theorem own_narch (m : Nat) : nar .byte (own_ch m) = own_ch m := by
  have hm : m % 10 < 10 := Nat.mod_lt _ (by decide)
  unfold own_ch
  generalize m % 10 = d at hm
  have : ∀ j : Fin 10, nar .byte (Int32.ofNat (48 + j.val)) = Int32.ofNat (48 + j.val) := by decide
  exact this ⟨d, hm⟩
theorem own_lt {i p : Int32} {k P : Nat} (hi : i.toInt = (k : Int)) (hp : p.toInt = (P : Int)) (h : k < P) : i < p := by
  rw [Int32.lt_iff_toInt_lt, hi, hp]
  omega
theorem own_nlt {i p : Int32} {k P : Nat} (hi : i.toInt = (k : Int)) (hp : p.toInt = (P : Int)) (h : ¬ k < P) : ¬ i < p := by
  rw [Int32.lt_iff_toInt_lt, hi, hp]
  omega
theorem own_incI {i v : Int32} {k : Nat} (hi : i.toInt = (k : Int)) (hv : v = i + 1) (hb : k < 1000) : v.toInt = ((k + 1 : Nat) : Int) := by
  have e : (1 : Int32).toInt = 1 := rfl
  rw [hv, Jvm.Kit.i32_add (by omega) (by omega), hi, e]
  rfl
theorem own_decI {i v : Int32} {k : Nat} (hi : i.toInt = ((k + 1 : Nat) : Int)) (hv : v = i + (-1)) (hb : k < 1000) : v.toInt = (k : Int) := by
  have e : (-1 : Int32).toInt = -1 := rfl
  rw [hv, Jvm.Kit.i32_add (by omega) (by omega), hi, e]
  omega
def own_S (P : Nat) : Nat := if P = 0 then 0 else P + 1
def own_ND (U P nd : Nat) : Prop := 1 ≤ nd ∧ (∀ t, 1 ≤ t → t < nd → U / 10 ^ (P + t) ≠ 0) ∧ U / 10 ^ (P + nd) = 0
def own_F3 (E U k i : Nat) : Int32 := if E - k ≤ i ∧ i < E then own_ch (U / 10 ^ (E - 1 - i)) else 0
def own_at (P U t : Nat) : Int32 := if P = 0 ∨ t < P then own_ch (U / 10 ^ t) else if t = P then 46 else own_ch (U / 10 ^ (t - 1))
def own_F4 (E P U c i : Nat) : Int32 := if E - own_S P - c ≤ i ∧ i < E then own_at P U (E - 1 - i) else 0
theorem own_S0 {P : Nat} (h : P = 0) : own_S P = 0 := if_pos h
theorem own_S1 {P : Nat} (h : 0 < P) : own_S P = P + 1 := if_neg (by omega)
theorem own_S_le {P Q : Nat} (h : P ≤ Q) : own_S P ≤ Q + 1 := by unfold own_S; split <;> omega
theorem own_PS (P : Nat) : P ≤ own_S P := by unfold own_S; split <;> omega
theorem own_zI {p : Int32} {P : Nat} (hp : p.toInt = (P : Int)) : p = 0 ↔ P = 0 := by
  have e : (0 : Int32).toInt = 0 := rfl
  rw [← Int32.toInt_inj, hp, e]
  omega
theorem own_P0 {p : Int32} {P : Nat} (hp : p.toInt = (P : Int)) (c : ¬ (0 : Int32) < p) : P = 0 := by
  have e : (0 : Int32).toInt = 0 := rfl
  rw [Int32.lt_iff_toInt_lt, hp, e] at c
  omega
theorem own_P1 {p : Int32} {P : Nat} (hp : p.toInt = (P : Int)) (c : (0 : Int32) < p) : 0 < P := by
  have e : (0 : Int32).toInt = 0 := rfl
  rw [Int32.lt_iff_toInt_lt, hp, e] at c
  omega
theorem own_z0 {v : Int64} {n : Nat} (h : v.toInt = (n : Int)) (hz : v = 0) : n = 0 := by
  have e : (0 : Int64).toInt = 0 := rfl
  rw [hz, e] at h
  omega
theorem own_zz {v : Int64} {n : Nat} (h : v.toInt = (n : Int)) (hn : n = 0) : v = 0 := by
  have e : (0 : Int64).toInt = 0 := rfl
  apply Int64.toInt_inj.mp
  rw [h, e]
  omega
theorem own_nz {v : Int64} {n : Nat} (h : v.toInt = (n : Int)) (hz : ¬ v = 0) : n ≠ 0 := fun q => hz (own_zz h q)
theorem own_next (U k : Nat) : U / 10 ^ (k + 1) = U / 10 ^ k / 10 := by rw [Nat.pow_succ, Nat.div_div_eq_div_mul]
theorem own_zdiv {U k : Nat} (h : U / 10 ^ k ≤ 0) : U / 10 ^ (k + 1) = 0 := by
  rw [own_next]
  generalize U / 10 ^ k = a at h ⊢
  omega
theorem own_lediv {U k n : Nat} (h : U / 10 ^ k ≤ n + 1) : U / 10 ^ (k + 1) ≤ n := by
  rw [own_next]
  generalize U / 10 ^ k = a at h ⊢
  omega
theorem own_small {U k : Nat} (hU : U < 2 ^ 63) (h : U / 10 ^ k ≠ 0) : k ≤ 18 := by
  refine Nat.le_of_not_lt fun q => h (Nat.div_eq_of_lt (Nat.lt_of_lt_of_le hU ?_))
  exact Nat.le_trans (by decide : 2 ^ 63 ≤ 10 ^ 19) (Nat.pow_le_pow_right (by decide) q)
theorem own_c18 {U P c : Nat} (hU : U < 2 ^ 63) (hall : ∀ t, 1 ≤ t → t ≤ c → U / 10 ^ (P + t) ≠ 0) : c ≤ 18 := by
  by_cases h : c = 0
  · omega
  · have := own_small hU (hall c (by omega) (Nat.le_refl _))
    omega
theorem own_all {U P c : Nat} (hall : ∀ t, 1 ≤ t → t ≤ c → U / 10 ^ (P + t) ≠ 0) (hne : U / 10 ^ (P + c + 1) ≠ 0) : ∀ t, 1 ≤ t → t ≤ c + 1 → U / 10 ^ (P + t) ≠ 0 := fun t h1 h2 => by
  by_cases h : t = c + 1
  · subst h
    exact hne
  · exact hall t h1 (by omega)
theorem own_jpos {v : Int32} {n : Nat} (h : v.toInt = (n : Int)) : 0 ≤ v.toInt := by omega
theorem own_jlt {v : Int32} {n N : Nat} (h : v.toInt = (n : Int)) (hn : n < N) : v.toInt < (N : Int) := by omega
theorem own_F3_0 (E U i : Nat) : Value.int 0 = Value.int (own_F3 E U 0 i) := by
  unfold own_F3
  rw [if_neg (by omega)]
theorem own_F3_step {N : Nat} {j x : Int32} {E U k : Nat} (hj : j.toInt = ((E - k - 1 : Nat) : Int)) (hx : x = own_ch (U / 10 ^ k)) (hk : k + 1 ≤ E) : ∀ i, i < N → (if i = j.toInt.toNat then Value.int (nar .byte x) else Value.int (own_F3 E U k i)) = Value.int (own_F3 E U (k + 1) i) := fun i hi => by
  have e : j.toInt.toNat = E - k - 1 := by omega
  rw [e, hx, own_narch]
  unfold own_F3
  by_cases h : i = E - k - 1
  · rw [if_pos h, if_pos (by omega), (by omega : E - 1 - i = k)]
  · rw [if_neg h]
    by_cases h2 : E - k ≤ i ∧ i < E
    · rw [if_pos h2, if_pos (by omega)]
    · rw [if_neg h2, if_neg (by omega)]
theorem own_Sz {P E : Nat} (h : P = 0) : E - P = E - own_S P - 0 := by rw [own_S0 h]; omega
theorem own_Sp {P E : Nat} (h : 0 < P) : E - P - 1 = E - own_S P - 0 := by rw [own_S1 h]; omega
theorem own_F34 {P E U i : Nat} (h : P = 0) : Value.int (own_F3 E U P i) = Value.int (own_F4 E P U 0 i) := by
  unfold own_F3 own_F4
  rw [own_S0 h, if_neg (by omega), if_neg (by omega)]
theorem own_F4_dot {N : Nat} {j : Int32} {E U P : Nat} (hj : j.toInt = ((E - P - 1 : Nat) : Int)) (hp : 0 < P) (hk : P + 1 ≤ E) : ∀ i, i < N → (if i = j.toInt.toNat then Value.int (nar .byte 46) else Value.int (own_F3 E U P i)) = Value.int (own_F4 E P U 0 i) := fun i hi => by
  have e : j.toInt.toNat = E - P - 1 := by omega
  rw [e, (by decide : nar .byte 46 = 46)]
  unfold own_F3 own_F4 own_at
  rw [own_S1 hp]
  by_cases h : i = E - P - 1
  · rw [if_pos h, if_pos (by omega), if_neg (by omega), if_pos (by omega)]
  · rw [if_neg h]
    by_cases h2 : E - P ≤ i ∧ i < E
    · rw [if_pos h2, if_pos (by omega), if_pos (by omega)]
    · rw [if_neg h2, if_neg (by omega)]
theorem own_F4_step {N : Nat} {j x : Int32} {E U P k : Nat} (hj : j.toInt = ((E - own_S P - k - 1 : Nat) : Int)) (hx : x = own_ch (U / 10 ^ (P + k))) (hk : own_S P + k + 1 ≤ E) : ∀ i, i < N → (if i = j.toInt.toNat then Value.int (nar .byte x) else Value.int (own_F4 E P U k i)) = Value.int (own_F4 E P U (k + 1) i) := fun i hi => by
  have e : j.toInt.toNat = E - own_S P - k - 1 := by omega
  rw [e, hx, own_narch]
  unfold own_F4
  by_cases h : i = E - own_S P - k - 1
  · rw [if_pos h, if_pos (by omega)]
    unfold own_at
    by_cases hp : P = 0
    · rw [if_pos (Or.inl hp)]
      rw [own_S0 hp] at h hk
      rw [hp, (by omega : E - 1 - i = 0 + k)]
    · rw [own_S1 (by omega)] at h hk
      rw [if_neg (by omega), if_neg (by omega), (by omega : E - 1 - i - 1 = P + k)]
  · rw [if_neg h]
    by_cases h2 : E - own_S P - k ≤ i ∧ i < E
    · rw [if_pos h2, if_pos (by omega)]
    · rw [if_neg h2, if_neg (by omega)]
/-! the law's own words -/
theorem own_ltN {i p : Int32} {k P : Nat} (hi : i.toInt = (k : Int)) (hp : p.toInt = (P : Int)) (c : i < p) : k < P := by
  rw [Int32.lt_iff_toInt_lt, hi, hp] at c
  omega
theorem own_geN {i p : Int32} {k P : Nat} (hi : i.toInt = (k : Int)) (hp : p.toInt = (P : Int)) (c : ¬ i < p) : P ≤ k := by
  rw [Int32.lt_iff_toInt_lt, hi, hp] at c
  omega
theorem own_eqN {i p : Int32} {k P : Nat} (hi : i.toInt = (k : Int)) (hp : p.toInt = (P : Int)) (c : i = p) : k = P := by
  rw [← Int32.toInt_inj, hi, hp] at c
  omega
theorem own_neN {i p : Int32} {k P : Nat} (hi : i.toInt = (k : Int)) (hp : p.toInt = (P : Int)) (c : ¬ i = p) : k ≠ P := by
  rw [← Int32.toInt_inj, hi, hp] at c
  omega
theorem own_addN {a b : Int32} {x y : Nat} (ha : a.toInt = (x : Int)) (hb : b.toInt = (y : Int)) (h : x + y < 1000) : (a + b).toInt = ((x + y : Nat) : Int) := by
  rw [Jvm.Kit.i32_add (by omega) (by omega), ha, hb]
  rfl
theorem own_subN {a b : Int32} {x y : Nat} (ha : a.toInt = (x : Int)) (hb : b.toInt = (y : Int)) (h : y ≤ x) (hx : x < 1000) : (a - b).toInt = ((x - y : Nat) : Int) := by
  rw [Jvm.Kit.i32_sub (by omega) (by omega), ha, hb]
  omega

theorem own_nd_le {U P nd : Nat} (hU : U < 2 ^ 63) (hnd : own_ND U P nd) : nd ≤ 19 := by
  obtain ⟨h1, h2, -⟩ := hnd
  by_cases h : nd = 1
  · omega
  · have := own_small hU (h2 (nd - 1) (by omega) (by omega))
    omega
theorem own_z0' {v : Int64} {n : Nat} (h : v.toInt = (n : Int)) (hz : ¬ (0 : Int64) < v) : n = 0 := by
  have e : (0 : Int64).toInt = 0 := rfl
  rw [Int64.lt_iff_toInt_lt, h, e] at hz
  omega
theorem own_zz' {v : Int64} {n : Nat} (h : v.toInt = (n : Int)) (hn : n = 0) : ¬ (0 : Int64) < v := by
  have e : (0 : Int64).toInt = 0 := rfl
  rw [Int64.lt_iff_toInt_lt, h, e]
  omega
theorem own_nz' {v : Int64} {n : Nat} (h : v.toInt = (n : Int)) (hz : (0 : Int64) < v) : n ≠ 0 := fun q => own_zz' h q hz
theorem own_nneg {i : Int32} {n : Nat} (h : i.toInt = (n : Int)) (c : i < (0 : Int32)) : False := by
  have e : (0 : Int32).toInt = 0 := rfl
  rw [Int32.lt_iff_toInt_lt, h, e] at c
  omega
/-- with the sign -/
def own_F5 (E P U nd sg i : Nat) : Int32 := if sg = 1 ∧ i = E - own_S P - nd - 1 then 45 else own_F4 E P U nd i
theorem own_sg1 {u : Int64} {sg : Nat} (h : sg = if u < (0 : Int64) then 1 else 0) (c : u < (0 : Int64)) : sg = 1 := by rw [h, if_pos c]
theorem own_sg0 {u : Int64} {sg : Nat} (h : sg = if u < (0 : Int64) then 1 else 0) (c : ¬ u < (0 : Int64)) : sg = 0 := by rw [h, if_neg c]
theorem own_F5_neg {N : Nat} {j : Int32} {E P U nd sg : Nat} (hj : j.toInt = ((E - own_S P - nd - 1 : Nat) : Int)) (hs : sg = 1) : ∀ i, i < N → (if i = j.toInt.toNat then Value.int (nar .byte 45) else Value.int (own_F4 E P U nd i)) = Value.int (own_F5 E P U nd sg i) := fun i hi => by
  have e : j.toInt.toNat = E - own_S P - nd - 1 := by omega
  rw [e, (by decide : nar .byte 45 = 45)]
  unfold own_F5
  by_cases h : i = E - own_S P - nd - 1
  · rw [if_pos h, if_pos ⟨hs, h⟩]
  · rw [if_neg h, if_neg (fun q => h q.2)]
theorem own_F5_pos {N : Nat} {E P U nd sg : Nat} (hs : sg = 0) : ∀ i, i < N → Value.int (own_F4 E P U nd i) = Value.int (own_F5 E P U nd sg i) := fun i hi => by
  unfold own_F5
  rw [if_neg (by omega)]
def PLQ (Z : State) (h0 : Heap) (n0 : Nat) (aB : Addr) (D E U sg : Nat) (v : Option Value) (h : Heap) (L : List Loc) : Prop :=
  Fr n0 L ∧ Keep h0 h [aB] ∧ ∃ nd, own_ND U D nd ∧ (∃ av : Int32, v = some (.int av) ∧ av.toInt = ((E - own_S D - nd - sg : Nat) : Int)) ∧ AA Z h aB .byte 64 (fun i => .int (own_F5 E D U nd sg i))
theorem PLQ.fr {Z : State} {h0 : Heap} {n0 : Nat} {aB : Addr} {D E U sg : Nat} : ∀ v h' L, PLQ Z h0 n0 aB D E U sg v h' L → Fr n0 L := fun _ _ _ z => z.1
def XQ (r : Value) (h0 : Heap) (n0 : Nat) (v : Option Value) (h : Heap) (L : List Loc) : Prop := v = some r ∧ Fr n0 L ∧ Ext h0 h
theorem XQ.fr {r : Value} {h0 : Heap} {n0 : Nat} : ∀ v h' L, XQ r h0 n0 v h' L → Fr n0 L := fun _ _ _ z => z.2.1
def own_dg (m : Nat) : Int32 := Int32.ofNat (m % 10)
theorem own_chdg (m : Nat) : (48 : Int32) + own_dg m = own_ch m := by
  have hm : m % 10 < 10 := Nat.mod_lt _ (by decide)
  unfold own_dg own_ch
  generalize m % 10 = d at hm
  have : ∀ j : Fin 10, (48 : Int32) + Int32.ofNat j.val = Int32.ofNat (48 + j.val) := by decide
  exact this ⟨d, hm⟩
theorem own_dg_big {U t : Nat} (hU : U < 2 ^ 63) (ht : 19 ≤ t) : (0 : Int32) = own_dg (U / 10 ^ t) := by
  have h : U / 10 ^ t = 0 := by
    by_cases q : U / 10 ^ t = 0
    · exact q
    · have := own_small hU q
      omega
  rw [h]
  rfl
theorem own_dg_of {ab : Int64} {U t : Nat} (hab : ab.toInt = (U : Int)) (ht : t < 19) : (((ab / (own_pw t)) - ((ab / (own_pw t)) / 10) * 10).toInt32) = own_dg (U / 10 ^ t) := by
  have h := own_rem10 (own_divN hab (own_pw_int ht))
  generalize (ab / (own_pw t)) - ((ab / (own_pw t)) / 10) * 10 = r at h
  generalize U / 10 ^ t = m at h
  have hm : m % 10 < 10 := Nat.mod_lt _ (by decide)
  unfold own_dg
  generalize m % 10 = d at h hm
  have e : r = Int64.ofNat d := by
    apply Int64.toInt_inj.mp
    rw [h, Int64.toInt_ofNat_of_lt (by omega)]
  subst e
  have : ∀ j : Fin 10, (Int64.ofNat j.val).toInt32 = Int32.ofNat j.val := by decide
  exact this ⟨d, hm⟩
theorem own_F5_C0 {E D U nd sg K : Nat} (hE : own_S D + nd + sg ≤ E ∧ E ≤ 60 ∧ sg ≤ 1) (h : K < E - own_S D - nd - sg ∨ E ≤ K) : own_F5 E D U nd sg K = 0 := by
  unfold own_F5 own_F4
  rw [if_neg (by omega), if_neg (by omega)]
theorem own_F5_C4 {E D U nd sg K : Nat} (hs : sg = 1) (h : K = E - own_S D - nd - sg) : own_F5 E D U nd sg K = 45 := by
  unfold own_F5
  rw [if_pos ⟨hs, by omega⟩]
theorem own_F5_C1 {E D U nd sg K : Nat} (hE : own_S D + nd + sg ≤ E ∧ E ≤ 60 ∧ sg ≤ 1) (n1 : E - own_S D - nd - sg ≤ K) (n2 : K < E) (n3 : ¬ (sg = 1 ∧ K = E - own_S D - nd - 1)) (h : D = 0 ∨ E - 1 - K < D) : own_F5 E D U nd sg K = own_ch (U / 10 ^ (E - K - 1)) := by
  unfold own_F5 own_F4 own_at
  rw [if_neg n3, if_pos (by omega), if_pos h, (by omega : E - 1 - K = E - K - 1)]
theorem own_F5_C2 {E D U nd sg K : Nat} (hE : own_S D + nd + sg ≤ E ∧ E ≤ 60 ∧ sg ≤ 1) (n1 : E - own_S D - nd - sg ≤ K) (n2 : K < E) (n3 : ¬ (sg = 1 ∧ K = E - own_S D - nd - 1)) (p1 : 0 < D) (h : D + 1 < E - K) : own_F5 E D U nd sg K = own_ch (U / 10 ^ (E - K - 2)) := by
  unfold own_F5 own_F4 own_at
  rw [if_neg n3, if_pos (by omega), if_neg (by omega), if_neg (by omega), (by omega : E - 1 - K - 1 = E - K - 2)]
theorem own_F5_C3 {E D U nd sg K : Nat} (hE : own_S D + nd + sg ≤ E ∧ E ≤ 60 ∧ sg ≤ 1) (n1 : E - own_S D - nd - sg ≤ K) (n2 : K < E) (n3 : ¬ (sg = 1 ∧ K = E - own_S D - nd - 1)) (p1 : 0 < D) (h : E - K = D + 1) : own_F5 E D U nd sg K = 46 := by
  unfold own_F5 own_F4 own_at
  rw [if_neg n3, if_pos (by omega), if_neg (by omega), if_pos (by omega)]

def own_abs (u0 : Int64) : Int64 := (if u0 < (0 : Int64) then (-u0) else u0)
abbrev y1 : MethodName := ⟨"java/lang/Math", "abs", "(J)J"⟩
abbrev r1 : Room := { frames := 0, cells := 0, slots := 0, locals := 0 }
set_option maxRecDepth 65536 in
set_option maxHeartbeats 40000000 in
theorem rm1 (l : Launch) (Z : State) (a0 : Array Value) (hw : ∀ d ∈ tables_1, d.before a0 Z = true) (ws : List Jvm.Cond) (h0 : Heap) (n0 : Nat) (u0 : Int64)   :
    MetFree l y1 (head1 (Jvm.Cond.code y1 jdk_29_method_61_code 2 (some .long) :: ws) r1) (fun a U => a = #[(.long u0)] ∧ Z.Warmed39 U.vm ∧ U.heap = h0) (fun _ _ _ _ _ => True) (fun _ U o U' => ∃ v L, o = .returned v ∧ PQ (some (.long (own_abs u0))) h0 n0 v U'.heap L ∧ FrameEnd U o U' L r1.cells r1.slots) := by
  refine met_of (Z := Z) (n0 := n0) (Ls := #[.val (.long u0), .second]) (by decide +kernel) (fun m => by first | (simp [entryFrame, mkF, argsToLocals, Value.category]; done) | rfl) ?_
  intro p e s m below meth c T0 E hE X0
  refine go_lloadN X0 d1_0 rfl 1 rfl ?_
  refine go_lconst X0 (0 : Int64) d1_1 (by decide) 2 rfl ?_
  refine go_lif X0 3 6 11 d1_2 rfl d1_3 rfl (by decide) (by decide) ?_ ?_
  · intro (c1 : ¬ (u0 < (0 : Int64)))
    refine go_lloadN X0 d1_11 rfl 12 rfl ?_
    exact go_retL X0 hE d1_12 (fun L N => ⟨by rw [own_abs, if_neg c1], N, rfl⟩) (by decide) (by decide)
  intro c1
  replace c1 : u0 < (0 : Int64) := Decidable.not_not.mp c1
  refine go_lloadN X0 d1_6 rfl 7 rfl ?_
  refine go_lneg X0 d1_7 8 rfl ?_
  refine go_goto X0 12 d1_8 (by decide) (by decide) ?_
  exact go_retL X0 hE d1_12 (fun L N => ⟨by rw [own_abs, if_pos c1], N, rfl⟩) (by decide) (by decide)
theorem own_absU {u r : Int64} {U : Nat} (hu : u.toInt = (U : Int) ∨ u.toInt = -(U : Int)) (hU63 : U < 2 ^ 63) (h : r = own_abs u) : r.toInt = (U : Int) := by
  have e : (0 : Int64).toInt = 0 := rfl
  rw [h]
  unfold own_abs
  split
  · rename_i c
    rw [Int64.lt_iff_toInt_lt, e] at c
    rw [Jvm.Kit.i64_neg (by omega)]
    omega
  · rename_i c
    rw [Int64.lt_iff_toInt_lt, e] at c
    omega

abbrev y2 : MethodName := ⟨"com/example/firmline/firmline/TextBuffer", "plain", "(JI[BI)I"⟩
abbrev r2 : Room := { frames := 1, cells := 0, slots := 0, locals := 13 }
set_option maxRecDepth 65536 in
set_option maxHeartbeats 40000000 in
theorem rm2 (l : Launch) (Z : State) (a0 : Array Value) (hw : ∀ d ∈ tables_1, d.before a0 Z = true) (ws : List Jvm.Cond) (h0 : Heap) (n0 : Nat) (units : Int64) (d0 : Int32) (aB : Addr) (end0 : Int32)   (D E' Un sg : Nat) (hD : d0.toInt = (D : Int)) (hEe : end0.toInt = (E' : Int)) (hu : units.toInt = (Un : Int) ∨ units.toInt = -(Un : Int)) (hD31 : D ≤ 31) (hE1 : 53 ≤ E') (hE2 : E' ≤ 60) (hU63 : Un < 2 ^ 63) (hsg : sg = if units < (0 : Int64) then 1 else 0) (g_b : n0 ≤ aB) (A_b : AA Z h0 aB .byte 64 (fun _ => .int 0)) :
    MetFree l y2 (head1 (Jvm.Cond.code y2 prog_17_method_8_code 9 (some .int) :: ws) r2) (fun a U => a = #[(.long units), (.int d0), (.ref aB), (.int end0)] ∧ Z.Warmed39 U.vm ∧ U.heap = h0) (fun _ _ _ _ _ => True) (fun _ U o U' => ∃ v L, o = .returned v ∧ PLQ Z h0 n0 aB D E' Un sg v U'.heap L ∧ FrameEnd U o U' L r2.cells r2.slots) := by
  refine met_of (Z := Z) (n0 := n0) (Ls := #[.val (.long units), .second, .val (.int d0), .val (.ref aB), .val (.int end0), .unset, .unset, .unset, .unset]) (plainFor_of_name (by first | (simp [plainName, overriddenIn]; done) | decide +kernel)) (fun m => by first | (simp [entryFrame, mkF, argsToLocals, Value.category]; done) | rfl) ?_
  intro p e s m below meth c T0 E hE X0
  refine go_iload X0 d2_0 rfl 2 rfl ?_
  refine go_istore X0 #[.val (.long units), .second, .val (.int d0), .val (.ref aB), .val (.int end0), .val (.int end0), .unset, .unset, .unset] d2_2 rfl 4 rfl ?_
  refine go_lloadN X0 d2_4 rfl 5 rfl ?_
  refine go_callS X0 0 [(.long units)] [] (wd6 hw) (wd7 hw) (wd8 hw) (wd9 hw) (by decide) (rm1 l Z a0 hw [] h0 n0 units  ) (by decide) (by decide) rfl (lenOf pd_0 rfl) rfl rfl (Nat.le_of_eq rfl) d2_5 (by decide) (by decide) 8 rfl PQ.fr (PQ.k (fun T1 X1 => ?_))
  show Go p e below E m T1 8 #[.val (.long units), .second, .val (.int d0), .val (.ref aB), .val (.int end0), .val (.int end0), .unset, .unset, .unset] [(.long (own_abs units))]
  refine go_nmL (fun v2 hv2 => ?_)
  refine go_lstore X1 #[.val (.long units), .second, .val (.int d0), .val (.ref aB), .val (.int end0), .val (.int end0), .val (.long v2), .second, .unset] d2_8 rfl 10 rfl ?_
  have hr0 : v2.toInt = (Un : Int) := own_absU hu hU63 hv2
  refine go_iconst X1 (0 : Int32) d2_10 (by decide) 11 rfl ?_
  refine go_istore X1 #[.val (.long units), .second, .val (.int d0), .val (.ref aB), .val (.int end0), .val (.int end0), .val (.long v2), .second, .val (.int (0 : Int32))] d2_11 rfl 13 rfl ?_
  refine go_cut (A := ∀ (T : State) (h : Heap) (r : Int64) (j i : Int32), SD p l e r2 s m #[(.long units), (.int d0), (.ref aB), (.int end0)] below meth c Z y2 prog_17_method_8_code 9 (some .int) n0 T h 0 0 → r.toInt = ((Un / 10 ^ D : Nat) : Int) → j.toInt = ((E' - D : Nat) : Int) → Keep h0 h [aB] → AA Z h aB .byte 64 (fun i => .int (own_F3 E' Un D i)) → Go p e below E m T 52 #[.val (.long units), .second, .val (.int d0), .val (.ref aB), .val (.int end0), .val (.int j), .val (.long r), .second, .val (.int i)] []) ?_ ?_
  · intro KX
    refine go_cut (A := ∀ (n k : Nat) (T : State) (h : Heap) (r : Int64) (j i : Int32), SD p l e r2 s m #[(.long units), (.int d0), (.ref aB), (.int end0)] below meth c Z y2 prog_17_method_8_code 9 (some .int) n0 T h 0 0 → k + n = D → r.toInt = ((Un / 10 ^ k : Nat) : Int) → j.toInt = ((E' - k : Nat) : Int) → i.toInt = (k : Int) → Keep h0 h [aB] → AA Z h aB .byte 64 (fun i => .int (own_F3 E' Un k i)) → Go p e below E m T 13 #[.val (.long units), .second, .val (.int d0), .val (.ref aB), .val (.int end0), .val (.int j), .val (.long r), .second, .val (.int i)] []) ?_ ?_
    · intro LP
      exact LP D 0 _ _ _ _ _ X1 (Nat.zero_add _) (by rw [hr0, Nat.pow_zero, Nat.div_one]) (by rw [hEe]; rfl) rfl (Keep.refl _ _) (A_b.fn (fun i hi => own_F3_0 _ _ i))
    intro n
    induction n with
    | zero =>
      intro k T h r j i X hk hr hj hi K A_b
      have ci : ¬ (i < d0) := own_nlt hi hD (by omega)
      refine go_iload X d2_13 rfl 15 rfl ?_
      refine go_iloadN X d2_15 rfl 16 rfl ?_
      refine go_icmp X 19 52 d2_16 rfl (by decide) (by decide) (fun _ => ?_) (fun (hh : ¬ (¬ (i < d0))) => absurd (ci : ¬ (i < d0)) hh)
      exact KX _ _ _ _ _ X (by rw [hr, (by omega : k = D)]) (by rw [hj, (by omega : k = D)]) K (by rw [← (by omega : k = D)]; exact A_b)
    | succ n ih =>
      intro k T h r j i X hk hr hj hi K A_b
      have ci : i < d0 := own_lt hi hD (by omega)
      refine go_iload X d2_13 rfl 15 rfl ?_
      refine go_iloadN X d2_15 rfl 16 rfl ?_
      refine go_icmp X 19 52 d2_16 rfl (by decide) (by decide) (fun (hh : ¬ (i < d0)) => absurd (ci : i < d0) hh) (fun _ => ?_)
      refine go_aloadN X d2_19 rfl rfl 20 rfl ?_
      obtain ⟨v3, hv3⟩ : ∃ z, z = j + (-1 : Int32) := ⟨_, rfl⟩
      refine go_iinc X v3 #[.val (.long units), .second, .val (.int d0), .val (.ref aB), .val (.int end0), .val (.int v3), .val (.long r), .second, .val (.int i)] d2_20 rfl hv3.symm rfl 23 rfl ?_
      refine go_iload X d2_23 rfl 25 rfl ?_
      refine go_ldc2 X (wd10 hw) d2_25 28 rfl ?_
      refine go_lload X d2_28 rfl 30 rfl ?_
      refine go_ldc2 X (wd11 hw) d2_30 33 rfl ?_
      refine go_lrem X d2_33 (by decide) 34 rfl ?_
      refine go_ladd X d2_34 35 rfl ?_
      refine go_l2i X d2_35 36 rfl ?_
      refine go_i2b X d2_36 37 rfl ?_
      have hjv : v3.toInt = ((E' - k - 1 : Nat) : Int) := own_decI (by rw [hj]; congr 1; omega) hv3 (by omega)
      refine go_setB X A_b (own_jpos hjv) (own_jlt hjv (by omega)) g_b d2_37 38 rfl (fun T4 h4 X4 K4 A4 => ?_)
      refine go_lload X4 d2_38 rfl 40 rfl ?_
      refine go_ldc2 X4 (wd11 hw) d2_40 43 rfl ?_
      refine go_ldiv X4 d2_43 (by decide) 44 rfl ?_
      refine go_nmL (fun v5 hv5 => ?_)
      refine go_lstore X4 #[.val (.long units), .second, .val (.int d0), .val (.ref aB), .val (.int end0), .val (.int v3), .val (.long v5), .second, .val (.int i)] d2_44 rfl 46 rfl ?_
      obtain ⟨v6, hv6⟩ : ∃ z, z = i + (1 : Int32) := ⟨_, rfl⟩
      refine go_iinc X4 v6 #[.val (.long units), .second, .val (.int d0), .val (.ref aB), .val (.int end0), .val (.int v3), .val (.long v5), .second, .val (.int v6)] d2_46 rfl hv6.symm rfl 49 rfl ?_
      refine go_goto X4 13 d2_49 (by decide) (by decide) ?_
      exact ih (k + 1) _ _ _ _ _ X4 (by omega) (own_step10 hr hv5) (by rw [hjv]; congr 1) (own_incI hi hv6 (by omega)) (K.trans K4 (fun x hx => Or.inl hx)) (A4.fn (own_F3_step hjv (own_dig hr) (by omega)))
  intro T13 h13 r13 j13 i13 X13 hr13 hj13 K13 A13
  have hSb := own_S_le hD31
  refine go_cut (A := ∀ (T : State) (h : Heap) (r : Int64) (j : Int32) (nd : Nat), SD p l e r2 s m #[(.long units), (.int d0), (.ref aB), (.int end0)] below meth c Z y2 prog_17_method_8_code 9 (some .int) n0 T h 0 0 → own_ND Un D nd → j.toInt = ((E' - own_S D - nd : Nat) : Int) → Keep h0 h [aB] → AA Z h aB .byte 64 (fun i => .int (own_F4 E' D Un nd i)) → Go p e below E m T 99 #[.val (.long units), .second, .val (.int d0), .val (.ref aB), .val (.int end0), .val (.int j), .val (.long r), .second, .val (.int i13)] []) ?_ ?_
  · intro KX
    refine go_cut (A := ∀ (n c' : Nat) (T : State) (h : Heap) (r : Int64) (j : Int32), SD p l e r2 s m #[(.long units), (.int d0), (.ref aB), (.int end0)] below meth c Z y2 prog_17_method_8_code 9 (some .int) n0 T h 0 0 → r.toInt = ((Un / 10 ^ (D + c') : Nat) : Int) → Un / 10 ^ (D + c') ≤ n → (∀ t, 1 ≤ t → t ≤ c' → Un / 10 ^ (D + t) ≠ 0) → j.toInt = ((E' - own_S D - c' : Nat) : Int) → Keep h0 h [aB] → AA Z h aB .byte 64 (fun i => .int (own_F4 E' D Un c' i)) → Go p e below E m T 65 #[.val (.long units), .second, .val (.int d0), .val (.ref aB), .val (.int end0), .val (.int j), .val (.long r), .second, .val (.int i13)] []) ?_ ?_
    · intro LP
      refine go_iloadN X13 d2_52 rfl 53 rfl ?_
      refine go_if X13 56 65 d2_53 rfl (by decide) (by decide) ?_ ?_
      · intro (c7 : ¬ ((0 : Int32) < d0))
        exact LP _ 0 _ _ _ _ X13 hr13 (Nat.le_refl _) (fun t h1 h2 => absurd h1 (by omega)) (by rw [hj13]; congr 1; exact own_Sz (own_P0 hD c7)) K13 (A13.fn (fun i hi => own_F34 (own_P0 hD c7)))
      intro c7
      replace c7 : (0 : Int32) < d0 := Decidable.not_not.mp c7
      refine go_aloadN X13 d2_56 rfl rfl 57 rfl ?_
      obtain ⟨v8, hv8⟩ : ∃ z, z = j13 + (-1 : Int32) := ⟨_, rfl⟩
      refine go_iinc X13 v8 #[.val (.long units), .second, .val (.int d0), .val (.ref aB), .val (.int end0), .val (.int v8), .val (.long r13), .second, .val (.int i13)] d2_57 rfl hv8.symm rfl 60 rfl ?_
      refine go_iload X13 d2_60 rfl 62 rfl ?_
      refine go_bipush X13 (46 : Int32) d2_62 (by decide) 64 rfl ?_
      have hjv : v8.toInt = ((E' - D - 1 : Nat) : Int) := own_decI (by rw [hj13]; congr 1; omega) hv8 (by omega)
      refine go_setB X13 A13 (own_jpos hjv) (own_jlt hjv (by omega)) g_b d2_64 65 rfl (fun T9 h9 X9 K9 A9 => ?_)
      exact LP _ 0 _ _ _ _ X9 hr13 (Nat.le_refl _) (fun t h1 h2 => absurd h1 (by omega)) (by rw [hjv]; congr 1; exact own_Sp (own_P1 hD c7)) (K13.trans K9 (fun x hx => Or.inl hx)) (A9.fn (own_F4_dot hjv (own_P1 hD c7) (by omega)))
    intro n
    induction n with
    | zero =>
      intro c' T h r j X hr hn hall hj K A_b
      have hc18 := own_c18 hU63 hall
      refine go_aloadN X d2_65 rfl rfl 66 rfl ?_
      obtain ⟨v10, hv10⟩ : ∃ z, z = j + (-1 : Int32) := ⟨_, rfl⟩
      refine go_iinc X v10 #[.val (.long units), .second, .val (.int d0), .val (.ref aB), .val (.int end0), .val (.int v10), .val (.long r), .second, .val (.int i13)] d2_66 rfl hv10.symm rfl 69 rfl ?_
      refine go_iload X d2_69 rfl 71 rfl ?_
      refine go_ldc2 X (wd10 hw) d2_71 74 rfl ?_
      refine go_lload X d2_74 rfl 76 rfl ?_
      refine go_ldc2 X (wd11 hw) d2_76 79 rfl ?_
      refine go_lrem X d2_79 (by decide) 80 rfl ?_
      refine go_ladd X d2_80 81 rfl ?_
      refine go_l2i X d2_81 82 rfl ?_
      refine go_i2b X d2_82 83 rfl ?_
      have hjv : v10.toInt = ((E' - own_S D - c' - 1 : Nat) : Int) := own_decI (by rw [hj]; congr 1; omega) hv10 (by omega)
      refine go_setB X A_b (own_jpos hjv) (own_jlt hjv (by omega)) g_b d2_83 84 rfl (fun T11 h11 X11 K11 A11 => ?_)
      refine go_lload X11 d2_84 rfl 86 rfl ?_
      refine go_ldc2 X11 (wd11 hw) d2_86 89 rfl ?_
      refine go_ldiv X11 d2_89 (by decide) 90 rfl ?_
      refine go_nmL (fun v12 hv12 => ?_)
      refine go_lstore X11 #[.val (.long units), .second, .val (.int d0), .val (.ref aB), .val (.int end0), .val (.int v10), .val (.long v12), .second, .val (.int i13)] d2_90 rfl 92 rfl ?_
      refine go_lload X11 d2_92 rfl 94 rfl ?_
      refine go_lconst X11 (0 : Int64) d2_94 (by decide) 95 rfl ?_
      refine go_lif X11 96 99 65 d2_95 rfl d2_96 rfl (by decide) (by decide) ?_ ?_
      · intro (c13 : (0 : Int64) < v12)
        exact absurd c13 (own_zz' (own_step10 hr hv12) (own_zdiv hn))
      intro (c13 : ¬ ((0 : Int64) < v12))
      exact KX _ _ _ _ (c' + 1) X11 ⟨by omega, fun t h1 h2 => hall t h1 (by omega), own_z0' (own_step10 hr hv12) c13⟩ (by rw [hjv]; congr 1) (K.trans K11 (fun x hx => Or.inl hx)) (A11.fn (own_F4_step hjv (own_dig hr) (by omega)))
    | succ n ih =>
      intro c' T h r j X hr hn hall hj K A_b
      have hc18 := own_c18 hU63 hall
      refine go_aloadN X d2_65 rfl rfl 66 rfl ?_
      obtain ⟨v14, hv14⟩ : ∃ z, z = j + (-1 : Int32) := ⟨_, rfl⟩
      refine go_iinc X v14 #[.val (.long units), .second, .val (.int d0), .val (.ref aB), .val (.int end0), .val (.int v14), .val (.long r), .second, .val (.int i13)] d2_66 rfl hv14.symm rfl 69 rfl ?_
      refine go_iload X d2_69 rfl 71 rfl ?_
      refine go_ldc2 X (wd10 hw) d2_71 74 rfl ?_
      refine go_lload X d2_74 rfl 76 rfl ?_
      refine go_ldc2 X (wd11 hw) d2_76 79 rfl ?_
      refine go_lrem X d2_79 (by decide) 80 rfl ?_
      refine go_ladd X d2_80 81 rfl ?_
      refine go_l2i X d2_81 82 rfl ?_
      refine go_i2b X d2_82 83 rfl ?_
      have hjv : v14.toInt = ((E' - own_S D - c' - 1 : Nat) : Int) := own_decI (by rw [hj]; congr 1; omega) hv14 (by omega)
      refine go_setB X A_b (own_jpos hjv) (own_jlt hjv (by omega)) g_b d2_83 84 rfl (fun T15 h15 X15 K15 A15 => ?_)
      refine go_lload X15 d2_84 rfl 86 rfl ?_
      refine go_ldc2 X15 (wd11 hw) d2_86 89 rfl ?_
      refine go_ldiv X15 d2_89 (by decide) 90 rfl ?_
      refine go_nmL (fun v16 hv16 => ?_)
      refine go_lstore X15 #[.val (.long units), .second, .val (.int d0), .val (.ref aB), .val (.int end0), .val (.int v14), .val (.long v16), .second, .val (.int i13)] d2_90 rfl 92 rfl ?_
      refine go_lload X15 d2_92 rfl 94 rfl ?_
      refine go_lconst X15 (0 : Int64) d2_94 (by decide) 95 rfl ?_
      refine go_lif X15 96 99 65 d2_95 rfl d2_96 rfl (by decide) (by decide) ?_ ?_
      · intro (c17 : (0 : Int64) < v16)
        exact ih (c' + 1) _ _ _ _ X15 (own_step10 hr hv16) (own_lediv hn) (own_all hall (own_nz' (own_step10 hr hv16) c17)) (by rw [hjv]; congr 1) (K.trans K15 (fun x hx => Or.inl hx)) (A15.fn (own_F4_step hjv (own_dig hr) (by omega)))
      intro (c17 : ¬ ((0 : Int64) < v16))
      exact KX _ _ _ _ (c' + 1) X15 ⟨by omega, fun t h1 h2 => hall t h1 (by omega), own_z0' (own_step10 hr hv16) c17⟩ (by rw [hjv]; congr 1) (K.trans K15 (fun x hx => Or.inl hx)) (A15.fn (own_F4_step hjv (own_dig hr) (by omega)))
  intro T65 h65 r65 j65 nd X65 hnd hj65 K65 A65
  have hndb := own_nd_le hU63 hnd
  refine go_lloadN X65 d2_99 rfl 100 rfl ?_
  refine go_lconst X65 (0 : Int64) d2_100 (by decide) 101 rfl ?_
  refine go_lif X65 102 105 114 d2_101 rfl d2_102 rfl (by decide) (by decide) ?_ ?_
  · intro (c18 : ¬ (units < (0 : Int64)))
    refine go_iload X65 d2_114 rfl 116 rfl ?_
    exact go_retI X65 hE d2_116 (fun L N => ⟨N, K65, nd, hnd, ⟨_, rfl, by rw [hj65, own_sg0 hsg c18]; rfl⟩, A65.fn (own_F5_pos (own_sg0 hsg c18))⟩) (by decide) (by decide)
  intro c18
  replace c18 : units < (0 : Int64) := Decidable.not_not.mp c18
  refine go_aloadN X65 d2_105 rfl rfl 106 rfl ?_
  obtain ⟨v19, hv19⟩ : ∃ z, z = j65 + (-1 : Int32) := ⟨_, rfl⟩
  refine go_iinc X65 v19 #[.val (.long units), .second, .val (.int d0), .val (.ref aB), .val (.int end0), .val (.int v19), .val (.long r65), .second, .val (.int i13)] d2_106 rfl hv19.symm rfl 109 rfl ?_
  refine go_iload X65 d2_109 rfl 111 rfl ?_
  refine go_bipush X65 (45 : Int32) d2_111 (by decide) 113 rfl ?_
  have hjv : v19.toInt = ((E' - own_S D - nd - 1 : Nat) : Int) := own_decI (by rw [hj65]; congr 1; omega) hv19 (by omega)
  refine go_setB X65 A65 (own_jpos hjv) (own_jlt hjv (by omega)) g_b d2_113 114 rfl (fun T20 h20 X20 K20 A20 => ?_)
  refine go_iload X20 d2_114 rfl 116 rfl ?_
  exact go_retI X20 hE d2_116 (fun L N => ⟨N, K65.trans K20 (fun x hx => Or.inl hx), nd, hnd, ⟨_, rfl, by rw [hjv, own_sg1 hsg c18]⟩, A20.fn (own_F5_neg hjv (own_sg1 hsg c18))⟩) (by decide) (by decide)
abbrev y3 : MethodName := ⟨"com/example/firmline/firmline/TextBufferPlainPinLaw", "pow10", "(I)J"⟩
abbrev r3 : Room := { frames := 0, cells := 1, slots := 19, locals := 0 }
set_option maxRecDepth 65536 in
set_option maxHeartbeats 40000000 in
theorem rm3 (l : Launch) (Z : State) (a0 : Array Value) (hw : ∀ d ∈ tables_1, d.before a0 Z = true) (ws : List Jvm.Cond) (h0 : Heap) (n0 : Nat) (i0 : Int32)   (Z0 : n0 ≤ h0.size) (t : Nat) (hi : i0.toInt = (t : Int)) (ht : t < 19) :
    MetFree l y3 (head1 (Jvm.Cond.code y3 method_5_code 2 (some .long) :: ws) r3) (fun a U => a = #[(.int i0)] ∧ Z.Warmed39 U.vm ∧ U.heap = h0) (fun _ _ _ _ _ => True) (fun _ U o U' => ∃ v L, o = .returned v ∧ XQ (.long (own_pw t)) h0 n0 v U'.heap L ∧ FrameEnd U o U' L r3.cells r3.slots) := by
  refine met_of (Z := Z) (n0 := n0) (Ls := #[.val (.int i0), .unset]) (plainFor_of_name (by first | (simp [plainName, overriddenIn]; done) | decide +kernel)) (fun m => by first | (simp [entryFrame, mkF, argsToLocals, Value.category]; done) | rfl) ?_
  intro p e s m below meth c T0 E hE X0
  refine go_bipush X0 (19 : Int32) d3_0 (by decide) 2 rfl ?_
  refine go_newA (aty := .long) X0 19 (wd17 hw) d3_2 (by decide) (by decide) (by decide) (by decide) (by decide) 4 rfl (fun T1 h1 aP cA1 gA1 X1 Ex A1 => ?_)
  have g_p : n0 ≤ aP := by rw [gA1]; exact Z0
  have g_p0 : h0.size ≤ aP := Nat.le_of_eq gA1.symm
  have A_p : AA Z h1 aP .long 19 (fun _ => .long 0) := AA.new A1 rfl
  refine go_dup X1 d3_4 rfl 5 rfl ?_
  refine go_iconst X1 (0 : Int32) d3_5 (by decide) 6 rfl ?_
  refine go_lconst X1 (1 : Int64) d3_6 (by decide) 7 rfl ?_
  refine go_setJ X1 A_p (by decide) (by decide) g_p d3_7 8 rfl (fun T2 h2 X2 W2 B2 => ?_)
  replace A_p := B2
  replace Ex := own_extwr Ex W2 g_p0
  refine go_dup X2 d3_8 rfl 9 rfl ?_
  refine go_iconst X2 (1 : Int32) d3_9 (by decide) 10 rfl ?_
  refine go_ldc2 X2 (wd18 hw) d3_10 13 rfl ?_
  refine go_setJ X2 A_p (by decide) (by decide) g_p d3_13 14 rfl (fun T3 h3 X3 W3 B3 => ?_)
  replace A_p := B3
  replace Ex := own_extwr Ex W3 g_p0
  refine go_dup X3 d3_14 rfl 15 rfl ?_
  refine go_iconst X3 (2 : Int32) d3_15 (by decide) 16 rfl ?_
  refine go_ldc2 X3 (wd19 hw) d3_16 19 rfl ?_
  refine go_setJ X3 A_p (by decide) (by decide) g_p d3_19 20 rfl (fun T4 h4 X4 W4 B4 => ?_)
  replace A_p := B4
  replace Ex := own_extwr Ex W4 g_p0
  refine go_dup X4 d3_20 rfl 21 rfl ?_
  refine go_iconst X4 (3 : Int32) d3_21 (by decide) 22 rfl ?_
  refine go_ldc2 X4 (wd20 hw) d3_22 25 rfl ?_
  refine go_setJ X4 A_p (by decide) (by decide) g_p d3_25 26 rfl (fun T5 h5 X5 W5 B5 => ?_)
  replace A_p := B5
  replace Ex := own_extwr Ex W5 g_p0
  refine go_dup X5 d3_26 rfl 27 rfl ?_
  refine go_iconst X5 (4 : Int32) d3_27 (by decide) 28 rfl ?_
  refine go_ldc2 X5 (wd21 hw) d3_28 31 rfl ?_
  refine go_setJ X5 A_p (by decide) (by decide) g_p d3_31 32 rfl (fun T6 h6 X6 W6 B6 => ?_)
  replace A_p := B6
  replace Ex := own_extwr Ex W6 g_p0
  refine go_dup X6 d3_32 rfl 33 rfl ?_
  refine go_iconst X6 (5 : Int32) d3_33 (by decide) 34 rfl ?_
  refine go_ldc2 X6 (wd22 hw) d3_34 37 rfl ?_
  refine go_setJ X6 A_p (by decide) (by decide) g_p d3_37 38 rfl (fun T7 h7 X7 W7 B7 => ?_)
  replace A_p := B7
  replace Ex := own_extwr Ex W7 g_p0
  refine go_dup X7 d3_38 rfl 39 rfl ?_
  refine go_bipush X7 (6 : Int32) d3_39 (by decide) 41 rfl ?_
  refine go_ldc2 X7 (wd23 hw) d3_41 44 rfl ?_
  refine go_setJ X7 A_p (by decide) (by decide) g_p d3_44 45 rfl (fun T8 h8 X8 W8 B8 => ?_)
  replace A_p := B8
  replace Ex := own_extwr Ex W8 g_p0
  refine go_dup X8 d3_45 rfl 46 rfl ?_
  refine go_bipush X8 (7 : Int32) d3_46 (by decide) 48 rfl ?_
  refine go_ldc2 X8 (wd24 hw) d3_48 51 rfl ?_
  refine go_setJ X8 A_p (by decide) (by decide) g_p d3_51 52 rfl (fun T9 h9 X9 W9 B9 => ?_)
  replace A_p := B9
  replace Ex := own_extwr Ex W9 g_p0
  refine go_dup X9 d3_52 rfl 53 rfl ?_
  refine go_bipush X9 (8 : Int32) d3_53 (by decide) 55 rfl ?_
  refine go_ldc2 X9 (wd25 hw) d3_55 58 rfl ?_
  refine go_setJ X9 A_p (by decide) (by decide) g_p d3_58 59 rfl (fun T10 h10 X10 W10 B10 => ?_)
  replace A_p := B10
  replace Ex := own_extwr Ex W10 g_p0
  refine go_dup X10 d3_59 rfl 60 rfl ?_
  refine go_bipush X10 (9 : Int32) d3_60 (by decide) 62 rfl ?_
  refine go_ldc2 X10 (wd26 hw) d3_62 65 rfl ?_
  refine go_setJ X10 A_p (by decide) (by decide) g_p d3_65 66 rfl (fun T11 h11 X11 W11 B11 => ?_)
  replace A_p := B11
  replace Ex := own_extwr Ex W11 g_p0
  refine go_dup X11 d3_66 rfl 67 rfl ?_
  refine go_bipush X11 (10 : Int32) d3_67 (by decide) 69 rfl ?_
  refine go_ldc2 X11 (wd27 hw) d3_69 72 rfl ?_
  refine go_setJ X11 A_p (by decide) (by decide) g_p d3_72 73 rfl (fun T12 h12 X12 W12 B12 => ?_)
  replace A_p := B12
  replace Ex := own_extwr Ex W12 g_p0
  refine go_dup X12 d3_73 rfl 74 rfl ?_
  refine go_bipush X12 (11 : Int32) d3_74 (by decide) 76 rfl ?_
  refine go_ldc2 X12 (wd28 hw) d3_76 79 rfl ?_
  refine go_setJ X12 A_p (by decide) (by decide) g_p d3_79 80 rfl (fun T13 h13 X13 W13 B13 => ?_)
  replace A_p := B13
  replace Ex := own_extwr Ex W13 g_p0
  refine go_dup X13 d3_80 rfl 81 rfl ?_
  refine go_bipush X13 (12 : Int32) d3_81 (by decide) 83 rfl ?_
  refine go_ldc2 X13 (wd29 hw) d3_83 86 rfl ?_
  refine go_setJ X13 A_p (by decide) (by decide) g_p d3_86 87 rfl (fun T14 h14 X14 W14 B14 => ?_)
  replace A_p := B14
  replace Ex := own_extwr Ex W14 g_p0
  refine go_dup X14 d3_87 rfl 88 rfl ?_
  refine go_bipush X14 (13 : Int32) d3_88 (by decide) 90 rfl ?_
  refine go_ldc2 X14 (wd30 hw) d3_90 93 rfl ?_
  refine go_setJ X14 A_p (by decide) (by decide) g_p d3_93 94 rfl (fun T15 h15 X15 W15 B15 => ?_)
  replace A_p := B15
  replace Ex := own_extwr Ex W15 g_p0
  refine go_dup X15 d3_94 rfl 95 rfl ?_
  refine go_bipush X15 (14 : Int32) d3_95 (by decide) 97 rfl ?_
  refine go_ldc2 X15 (wd31 hw) d3_97 100 rfl ?_
  refine go_setJ X15 A_p (by decide) (by decide) g_p d3_100 101 rfl (fun T16 h16 X16 W16 B16 => ?_)
  replace A_p := B16
  replace Ex := own_extwr Ex W16 g_p0
  refine go_dup X16 d3_101 rfl 102 rfl ?_
  refine go_bipush X16 (15 : Int32) d3_102 (by decide) 104 rfl ?_
  refine go_ldc2 X16 (wd32 hw) d3_104 107 rfl ?_
  refine go_setJ X16 A_p (by decide) (by decide) g_p d3_107 108 rfl (fun T17 h17 X17 W17 B17 => ?_)
  replace A_p := B17
  replace Ex := own_extwr Ex W17 g_p0
  refine go_dup X17 d3_108 rfl 109 rfl ?_
  refine go_bipush X17 (16 : Int32) d3_109 (by decide) 111 rfl ?_
  refine go_ldc2 X17 (wd33 hw) d3_111 114 rfl ?_
  refine go_setJ X17 A_p (by decide) (by decide) g_p d3_114 115 rfl (fun T18 h18 X18 W18 B18 => ?_)
  replace A_p := B18
  replace Ex := own_extwr Ex W18 g_p0
  refine go_dup X18 d3_115 rfl 116 rfl ?_
  refine go_bipush X18 (17 : Int32) d3_116 (by decide) 118 rfl ?_
  refine go_ldc2 X18 (wd34 hw) d3_118 121 rfl ?_
  refine go_setJ X18 A_p (by decide) (by decide) g_p d3_121 122 rfl (fun T19 h19 X19 W19 B19 => ?_)
  replace A_p := B19
  replace Ex := own_extwr Ex W19 g_p0
  refine go_dup X19 d3_122 rfl 123 rfl ?_
  refine go_bipush X19 (18 : Int32) d3_123 (by decide) 125 rfl ?_
  refine go_ldc2 X19 (wd35 hw) d3_125 128 rfl ?_
  refine go_setJ X19 A_p (by decide) (by decide) g_p d3_128 129 rfl (fun T20 h20 X20 W20 B20 => ?_)
  replace A_p := B20
  replace Ex := own_extwr Ex W20 g_p0
  replace A_p := A_p.fn (g := fun i => .long (own_pw i)) (fun i hi => by
      have h : i = 0 ∨ i = 1 ∨ i = 2 ∨ i = 3 ∨ i = 4 ∨ i = 5 ∨ i = 6 ∨ i = 7 ∨ i = 8 ∨ i = 9 ∨ i = 10 ∨ i = 11 ∨ i = 12 ∨ i = 13 ∨ i = 14 ∨ i = 15 ∨ i = 16 ∨ i = 17 ∨ i = 18 := by omega
      rcases h with rfl | rfl | rfl | rfl | rfl | rfl | rfl | rfl | rfl | rfl | rfl | rfl | rfl | rfl | rfl | rfl | rfl | rfl | rfl <;> rfl)
  refine go_astoreN X20 #[.val (.int i0), .val (.ref aP)] d3_129 rfl rfl 130 rfl ?_
  refine go_aloadN X20 d3_130 rfl rfl 131 rfl ?_
  refine go_iloadN X20 d3_131 rfl 132 rfl ?_
  refine go_getJ X20 A_p (own_jpos hi) (by rw [hi]; exact Int.ofNat_lt.mpr ht) rfl d3_132 133 rfl ?_
  exact go_retL X20 hE d3_133 (fun L N => ⟨by rw [hi]; rfl, N, Ex⟩) (by decide) (by decide)
abbrev y4 : MethodName := ⟨"com/example/firmline/firmline/TextBufferPlainPinLaw", "digit", "(JI)I"⟩
abbrev r4 : Room := { frames := 1, cells := 1, slots := 19, locals := 15 }
set_option maxRecDepth 65536 in
set_option maxHeartbeats 40000000 in
theorem rm4 (l : Launch) (Z : State) (a0 : Array Value) (hw : ∀ d ∈ tables_1, d.before a0 Z = true) (ws : List Jvm.Cond) (h0 : Heap) (n0 : Nat) (ab : Int64) (i0 : Int32)   (Z0 : n0 ≤ h0.size) (Un t : Nat) (hab : ab.toInt = (Un : Int)) (hU63 : Un < 2 ^ 63) (hi : i0.toInt = (t : Int)) :
    MetFree l y4 (head1 (Jvm.Cond.code y4 method_4_code 3 (some .int) :: ws) r4) (fun a U => a = #[(.long ab), (.int i0)] ∧ Z.Warmed39 U.vm ∧ U.heap = h0) (fun _ _ _ _ _ => True) (fun _ U o U' => ∃ v L, o = .returned v ∧ XQ (.int (own_dg (Un / 10 ^ t))) h0 n0 v U'.heap L ∧ FrameEnd U o U' L r4.cells r4.slots) := by
  refine met_of (Z := Z) (n0 := n0) (Ls := #[.val (.long ab), .second, .val (.int i0)]) (plainFor_of_name (by first | (simp [plainName, overriddenIn]; done) | decide +kernel)) (fun m => by first | (simp [entryFrame, mkF, argsToLocals, Value.category]; done) | rfl) ?_
  intro p e s m below meth c T0 E hE X0
  refine go_iloadN X0 d4_0 rfl 1 rfl ?_
  refine go_if X0 4 10 d4_1 rfl (by decide) (by decide) ?_ ?_
  · intro (c1 : i0 < (0 : Int32))
    exfalso
    exact own_nneg hi c1
  intro (c1 : ¬ (i0 < (0 : Int32)))
  refine go_iloadN X0 d4_4 rfl 5 rfl ?_
  refine go_bipush X0 (19 : Int32) d4_5 (by decide) 7 rfl ?_
  refine go_icmp X0 10 12 d4_7 rfl (by decide) (by decide) ?_ ?_
  · intro (c2 : i0 < (19 : Int32))
    have ht : t < 19 := own_ltN hi (P := 19) rfl c2
    refine go_lloadN X0 d4_12 rfl 13 rfl ?_
    refine go_iloadN X0 d4_13 rfl 14 rfl ?_
    refine go_callS X0 2 [(.int i0)] [(.long ab)] (wd13 hw) (wd14 hw) (wd15 hw) (wd16 hw) (by decide) (rm3 l Z a0 hw [] h0 n0 i0 Z0 t hi ht) (by decide) (by decide) rfl (lenOf pd_1 rfl) rfl rfl (Nat.le_of_eq rfl) d4_14 (by decide) (by decide) 17 rfl XQ.fr (fun w3 T3 L3 h3 X3 q3 => ?_)
    obtain ⟨rfl, -, Ex3⟩ := q3
    show Go p e below E m T3 17 #[.val (.long ab), .second, .val (.int i0)] [(.long (own_pw t)), (.long ab)]
    refine go_ldiv X3 d4_17 (own_pw_ne ht) 18 rfl ?_
    refine go_ldc2 X3 (wd18 hw) d4_18 21 rfl ?_
    refine go_lrem X3 d4_21 (by decide) 22 rfl ?_
    refine go_l2i X3 d4_22 23 rfl ?_
    exact go_retI X3 hE d4_23 (fun L N => ⟨by rw [own_dg_of hab ht], N, Ex3⟩) (by decide) (by decide)
  intro (c2 : ¬ (i0 < (19 : Int32)))
  refine go_iconst X0 (0 : Int32) d4_10 (by decide) 11 rfl ?_
  exact go_retI X0 hE d4_11 (fun L N => ⟨by rw [own_dg_big hU63 (own_geN hi (P := 19) rfl c2)], N, own_ext0 _⟩) (by decide) (by decide)
abbrev y5 : MethodName := ⟨"com/example/firmline/firmline/TextBufferPlainPinLaw", "expected", "(IIIJII)I"⟩
abbrev r5 : Room := { frames := 2, cells := 1, slots := 19, locals := 30 }
set_option maxRecDepth 65536 in
set_option maxHeartbeats 40000000 in
theorem rm5 (l : Launch) (Z : State) (a0 : Array Value) (hw : ∀ d ∈ tables_1, d.before a0 Z = true) (ws : List Jvm.Cond) (h0 : Heap) (n0 : Nat) (pos at_ end0 : Int32) (ab : Int64) (d0 sign : Int32)   (Z0 : n0 ≤ h0.size) (K D E' Un nd sg : Nat) (hpos : pos.toInt = (K : Int)) (hat : at_.toInt = ((E' - own_S D - nd - sg : Nat) : Int)) (hend : end0.toInt = (E' : Int)) (hab : ab.toInt = (Un : Int)) (hU63 : Un < 2 ^ 63) (hD : d0.toInt = (D : Int)) (hsign : sign.toInt = (sg : Int)) (hD31 : D ≤ 31) (hK : K < 64) (hE' : own_S D + nd + sg ≤ E' ∧ E' ≤ 60 ∧ sg ≤ 1) :
    MetFree l y5 (head1 (Jvm.Cond.code y5 method_3_code 8 (some .int) :: ws) r5) (fun a U => a = #[(.int pos), (.int at_), (.int end0), (.long ab), (.int d0), (.int sign)] ∧ Z.Warmed39 U.vm ∧ U.heap = h0) (fun _ _ _ _ _ => True) (fun _ U o U' => ∃ v L, o = .returned v ∧ XQ (.int (own_F5 E' D Un nd sg K)) h0 n0 v U'.heap L ∧ FrameEnd U o U' L r5.cells r5.slots) := by
  refine met_of (Z := Z) (n0 := n0) (Ls := #[.val (.int pos), .val (.int at_), .val (.int end0), .val (.long ab), .second, .val (.int d0), .val (.int sign), .unset]) (plainFor_of_name (by first | (simp [plainName, overriddenIn]; done) | decide +kernel)) (fun m => by first | (simp [entryFrame, mkF, argsToLocals, Value.category]; done) | rfl) ?_
  intro p e s m below meth c T0 E hE X0
  refine go_iloadN X0 d5_0 rfl 1 rfl ?_
  refine go_iloadN X0 d5_1 rfl 2 rfl ?_
  refine go_icmp X0 5 10 d5_2 rfl (by decide) (by decide) ?_ ?_
  · intro (c1 : pos < at_)
    refine go_iconst X0 (0 : Int32) d5_10 (by decide) 11 rfl ?_
    exact go_retI X0 hE d5_11 (fun L N => ⟨by rw [own_F5_C0 hE' (Or.inl (own_ltN hpos hat c1))], N, own_ext0 _⟩) (by decide) (by decide)
  intro (c1 : ¬ (pos < at_))
  refine go_iloadN X0 d5_5 rfl 6 rfl ?_
  refine go_iloadN X0 d5_6 rfl 7 rfl ?_
  refine go_icmp X0 10 12 d5_7 rfl (by decide) (by decide) ?_ ?_
  · intro (c2 : pos < end0)
    refine go_iload X0 d5_12 rfl 14 rfl ?_
    refine go_iconst X0 (1 : Int32) d5_14 (by decide) 15 rfl ?_
    refine go_icmp X0 18 26 d5_15 rfl (by decide) (by decide) ?_ ?_
    · intro (c3 : ¬ (sign = (1 : Int32)))
      refine go_iloadN X0 d5_26 rfl 27 rfl ?_
      refine go_iloadN X0 d5_27 rfl 28 rfl ?_
      refine go_isub X0 d5_28 29 rfl ?_
      refine go_nmI (fun v4 hv4 => ?_)
      refine go_istore X0 #[.val (.int pos), .val (.int at_), .val (.int end0), .val (.long ab), .second, .val (.int d0), .val (.int sign), .val (.int v4)] d5_29 rfl 31 rfl ?_
      have n1 := own_geN hpos hat c1
      have n2 := own_ltN hpos hend c2
      have hk : v4.toInt = ((E' - K : Nat) : Int) := by rw [hv4]; exact own_subN hend hpos (by omega) (by omega)
      have n3 : ¬ (sg = 1 ∧ K = E' - own_S D - nd - 1) := by
          have q := own_neN hsign (P := 1) rfl c3
          omega
      refine go_iload X0 d5_31 rfl 33 rfl ?_
      refine go_if X0 36 55 d5_33 rfl (by decide) (by decide) ?_ ?_
      · intro (c5 : ¬ ((0 : Int32) < d0))
        refine go_iload X0 d5_55 rfl 57 rfl ?_
        refine go_if X0 60 72 d5_57 rfl (by decide) (by decide) (fun _ => ?_) (fun (hh : ¬ (¬ ((0 : Int32) < d0))) => absurd (c5 : ¬ ((0 : Int32) < d0)) hh)
        refine go_iload X0 d5_72 rfl 74 rfl ?_
        refine go_if X0 77 89 d5_74 rfl (by decide) (by decide) (fun _ => ?_) (fun (hh : ¬ (¬ ((0 : Int32) < d0))) => absurd (c5 : ¬ ((0 : Int32) < d0)) hh)
        have p1 := own_P0 hD c5
        refine go_bipush X0 (48 : Int32) d5_89 (by decide) 91 rfl ?_
        refine go_lloadN X0 d5_91 rfl 92 rfl ?_
        refine go_iload X0 d5_92 rfl 94 rfl ?_
        refine go_iconst X0 (1 : Int32) d5_94 (by decide) 95 rfl ?_
        refine go_isub X0 d5_95 96 rfl ?_
        refine go_callS X0 1 [(.long ab), (.int (v4 - (1 : Int32)))] [(.int (48 : Int32))] (wd39 hw) (wd40 hw) (wd15 hw) (wd41 hw) (by decide) (rm4 l Z a0 hw [] h0 n0 ab (v4 - (1 : Int32)) Z0 Un (E' - K - 1) hab hU63 (own_subN (y := 1) hk rfl (by omega) (by omega))) (by decide) (by decide) rfl (lenOf pd_2 rfl) rfl rfl (Nat.le_of_eq rfl) d5_96 (by decide) (by decide) 99 rfl XQ.fr (fun w6 T6 L6 h6 X6 q6 => ?_)
        obtain ⟨rfl, -, Ex6⟩ := q6
        show Go p e below E m T6 99 #[.val (.int pos), .val (.int at_), .val (.int end0), .val (.long ab), .second, .val (.int d0), .val (.int sign), .val (.int v4)] [(.int (own_dg (Un / 10 ^ (E' - K - 1)))), (.int (48 : Int32))]
        refine go_iadd X6 d5_99 100 rfl ?_
        exact go_retI X6 hE d5_100 (fun L N => ⟨by rw [own_F5_C1 hE' n1 n2 n3 (Or.inl p1), own_chdg], N, Ex6⟩) (by decide) (by decide)
      intro c5
      replace c5 : (0 : Int32) < d0 := Decidable.not_not.mp c5
      refine go_iload X0 d5_36 rfl 38 rfl ?_
      refine go_iload X0 d5_38 rfl 40 rfl ?_
      refine go_icmp X0 43 55 d5_40 rfl (by decide) (by decide) ?_ ?_
      · intro (c7 : d0 < v4)
        refine go_iload X0 d5_55 rfl 57 rfl ?_
        refine go_if X0 60 72 d5_57 rfl (by decide) (by decide) (fun (hh : ¬ ((0 : Int32) < d0)) => absurd (c5 : (0 : Int32) < d0) hh) (fun _ => ?_)
        refine go_iload X0 d5_60 rfl 62 rfl ?_
        refine go_iload X0 d5_62 rfl 64 rfl ?_
        refine go_iconst X0 (1 : Int32) d5_64 (by decide) 65 rfl ?_
        refine go_iadd X0 d5_65 66 rfl ?_
        refine go_icmp X0 69 72 d5_66 rfl (by decide) (by decide) ?_ ?_
        · intro (c8 : ¬ (v4 = (d0 + (1 : Int32))))
          refine go_iload X0 d5_72 rfl 74 rfl ?_
          refine go_if X0 77 89 d5_74 rfl (by decide) (by decide) (fun (hh : ¬ ((0 : Int32) < d0)) => absurd (c5 : (0 : Int32) < d0) hh) (fun _ => ?_)
          have p1 := own_P1 hD c5
          have p2 := own_ltN hD hk c7
          have p3 := own_neN hk (own_addN (y := 1) hD rfl (by omega)) c8
          refine go_bipush X0 (48 : Int32) d5_77 (by decide) 79 rfl ?_
          refine go_lloadN X0 d5_79 rfl 80 rfl ?_
          refine go_iload X0 d5_80 rfl 82 rfl ?_
          refine go_iconst X0 (2 : Int32) d5_82 (by decide) 83 rfl ?_
          refine go_isub X0 d5_83 84 rfl ?_
          refine go_callS X0 1 [(.long ab), (.int (v4 - (2 : Int32)))] [(.int (48 : Int32))] (wd39 hw) (wd40 hw) (wd15 hw) (wd41 hw) (by decide) (rm4 l Z a0 hw [] h0 n0 ab (v4 - (2 : Int32)) Z0 Un (E' - K - 2) hab hU63 (own_subN (y := 2) hk rfl (by omega) (by omega))) (by decide) (by decide) rfl (lenOf pd_2 rfl) rfl rfl (Nat.le_of_eq rfl) d5_84 (by decide) (by decide) 87 rfl XQ.fr (fun w9 T9 L9 h9 X9 q9 => ?_)
          obtain ⟨rfl, -, Ex9⟩ := q9
          show Go p e below E m T9 87 #[.val (.int pos), .val (.int at_), .val (.int end0), .val (.long ab), .second, .val (.int d0), .val (.int sign), .val (.int v4)] [(.int (own_dg (Un / 10 ^ (E' - K - 2)))), (.int (48 : Int32))]
          refine go_iadd X9 d5_87 88 rfl ?_
          exact go_retI X9 hE d5_88 (fun L N => ⟨by rw [own_F5_C2 hE' n1 n2 n3 p1 (by omega), own_chdg], N, Ex9⟩) (by decide) (by decide)
        intro c8
        replace c8 : v4 = (d0 + (1 : Int32)) := Decidable.not_not.mp c8
        refine go_bipush X0 (46 : Int32) d5_69 (by decide) 71 rfl ?_
        exact go_retI X0 hE d5_71 (fun L N => ⟨by rw [own_F5_C3 hE' n1 n2 n3 (own_P1 hD c5) (own_eqN hk (own_addN (y := 1) hD rfl (by omega)) c8)], N, own_ext0 _⟩) (by decide) (by decide)
      intro (c7 : ¬ (d0 < v4))
      have p1 := own_P1 hD c5
      have p2 := own_geN hD hk c7
      refine go_bipush X0 (48 : Int32) d5_43 (by decide) 45 rfl ?_
      refine go_lloadN X0 d5_45 rfl 46 rfl ?_
      refine go_iload X0 d5_46 rfl 48 rfl ?_
      refine go_iconst X0 (1 : Int32) d5_48 (by decide) 49 rfl ?_
      refine go_isub X0 d5_49 50 rfl ?_
      refine go_callS X0 1 [(.long ab), (.int (v4 - (1 : Int32)))] [(.int (48 : Int32))] (wd39 hw) (wd40 hw) (wd15 hw) (wd41 hw) (by decide) (rm4 l Z a0 hw [] h0 n0 ab (v4 - (1 : Int32)) Z0 Un (E' - K - 1) hab hU63 (own_subN (y := 1) hk rfl (by omega) (by omega))) (by decide) (by decide) rfl (lenOf pd_2 rfl) rfl rfl (Nat.le_of_eq rfl) d5_50 (by decide) (by decide) 53 rfl XQ.fr (fun w10 T10 L10 h10 X10 q10 => ?_)
      obtain ⟨rfl, -, Ex10⟩ := q10
      show Go p e below E m T10 53 #[.val (.int pos), .val (.int at_), .val (.int end0), .val (.long ab), .second, .val (.int d0), .val (.int sign), .val (.int v4)] [(.int (own_dg (Un / 10 ^ (E' - K - 1)))), (.int (48 : Int32))]
      refine go_iadd X10 d5_53 54 rfl ?_
      exact go_retI X10 hE d5_54 (fun L N => ⟨by rw [own_F5_C1 hE' n1 n2 n3 (Or.inr (by omega)), own_chdg], N, Ex10⟩) (by decide) (by decide)
    intro c3
    replace c3 : sign = (1 : Int32) := Decidable.not_not.mp c3
    refine go_iloadN X0 d5_18 rfl 19 rfl ?_
    refine go_iloadN X0 d5_19 rfl 20 rfl ?_
    refine go_icmp X0 23 26 d5_20 rfl (by decide) (by decide) ?_ ?_
    · intro (c11 : ¬ (pos = at_))
      refine go_iloadN X0 d5_26 rfl 27 rfl ?_
      refine go_iloadN X0 d5_27 rfl 28 rfl ?_
      refine go_isub X0 d5_28 29 rfl ?_
      refine go_nmI (fun v12 hv12 => ?_)
      refine go_istore X0 #[.val (.int pos), .val (.int at_), .val (.int end0), .val (.long ab), .second, .val (.int d0), .val (.int sign), .val (.int v12)] d5_29 rfl 31 rfl ?_
      have n1 := own_geN hpos hat c1
      have n2 := own_ltN hpos hend c2
      have hk : v12.toInt = ((E' - K : Nat) : Int) := by rw [hv12]; exact own_subN hend hpos (by omega) (by omega)
      have n3 : ¬ (sg = 1 ∧ K = E' - own_S D - nd - 1) := by
          have q := own_neN hpos hat c11
          omega
      refine go_iload X0 d5_31 rfl 33 rfl ?_
      refine go_if X0 36 55 d5_33 rfl (by decide) (by decide) ?_ ?_
      · intro (c13 : ¬ ((0 : Int32) < d0))
        refine go_iload X0 d5_55 rfl 57 rfl ?_
        refine go_if X0 60 72 d5_57 rfl (by decide) (by decide) (fun _ => ?_) (fun (hh : ¬ (¬ ((0 : Int32) < d0))) => absurd (c13 : ¬ ((0 : Int32) < d0)) hh)
        refine go_iload X0 d5_72 rfl 74 rfl ?_
        refine go_if X0 77 89 d5_74 rfl (by decide) (by decide) (fun _ => ?_) (fun (hh : ¬ (¬ ((0 : Int32) < d0))) => absurd (c13 : ¬ ((0 : Int32) < d0)) hh)
        have p1 := own_P0 hD c13
        refine go_bipush X0 (48 : Int32) d5_89 (by decide) 91 rfl ?_
        refine go_lloadN X0 d5_91 rfl 92 rfl ?_
        refine go_iload X0 d5_92 rfl 94 rfl ?_
        refine go_iconst X0 (1 : Int32) d5_94 (by decide) 95 rfl ?_
        refine go_isub X0 d5_95 96 rfl ?_
        refine go_callS X0 1 [(.long ab), (.int (v12 - (1 : Int32)))] [(.int (48 : Int32))] (wd39 hw) (wd40 hw) (wd15 hw) (wd41 hw) (by decide) (rm4 l Z a0 hw [] h0 n0 ab (v12 - (1 : Int32)) Z0 Un (E' - K - 1) hab hU63 (own_subN (y := 1) hk rfl (by omega) (by omega))) (by decide) (by decide) rfl (lenOf pd_2 rfl) rfl rfl (Nat.le_of_eq rfl) d5_96 (by decide) (by decide) 99 rfl XQ.fr (fun w14 T14 L14 h14 X14 q14 => ?_)
        obtain ⟨rfl, -, Ex14⟩ := q14
        show Go p e below E m T14 99 #[.val (.int pos), .val (.int at_), .val (.int end0), .val (.long ab), .second, .val (.int d0), .val (.int sign), .val (.int v12)] [(.int (own_dg (Un / 10 ^ (E' - K - 1)))), (.int (48 : Int32))]
        refine go_iadd X14 d5_99 100 rfl ?_
        exact go_retI X14 hE d5_100 (fun L N => ⟨by rw [own_F5_C1 hE' n1 n2 n3 (Or.inl p1), own_chdg], N, Ex14⟩) (by decide) (by decide)
      intro c13
      replace c13 : (0 : Int32) < d0 := Decidable.not_not.mp c13
      refine go_iload X0 d5_36 rfl 38 rfl ?_
      refine go_iload X0 d5_38 rfl 40 rfl ?_
      refine go_icmp X0 43 55 d5_40 rfl (by decide) (by decide) ?_ ?_
      · intro (c15 : d0 < v12)
        refine go_iload X0 d5_55 rfl 57 rfl ?_
        refine go_if X0 60 72 d5_57 rfl (by decide) (by decide) (fun (hh : ¬ ((0 : Int32) < d0)) => absurd (c13 : (0 : Int32) < d0) hh) (fun _ => ?_)
        refine go_iload X0 d5_60 rfl 62 rfl ?_
        refine go_iload X0 d5_62 rfl 64 rfl ?_
        refine go_iconst X0 (1 : Int32) d5_64 (by decide) 65 rfl ?_
        refine go_iadd X0 d5_65 66 rfl ?_
        refine go_icmp X0 69 72 d5_66 rfl (by decide) (by decide) ?_ ?_
        · intro (c16 : ¬ (v12 = (d0 + (1 : Int32))))
          refine go_iload X0 d5_72 rfl 74 rfl ?_
          refine go_if X0 77 89 d5_74 rfl (by decide) (by decide) (fun (hh : ¬ ((0 : Int32) < d0)) => absurd (c13 : (0 : Int32) < d0) hh) (fun _ => ?_)
          have p1 := own_P1 hD c13
          have p2 := own_ltN hD hk c15
          have p3 := own_neN hk (own_addN (y := 1) hD rfl (by omega)) c16
          refine go_bipush X0 (48 : Int32) d5_77 (by decide) 79 rfl ?_
          refine go_lloadN X0 d5_79 rfl 80 rfl ?_
          refine go_iload X0 d5_80 rfl 82 rfl ?_
          refine go_iconst X0 (2 : Int32) d5_82 (by decide) 83 rfl ?_
          refine go_isub X0 d5_83 84 rfl ?_
          refine go_callS X0 1 [(.long ab), (.int (v12 - (2 : Int32)))] [(.int (48 : Int32))] (wd39 hw) (wd40 hw) (wd15 hw) (wd41 hw) (by decide) (rm4 l Z a0 hw [] h0 n0 ab (v12 - (2 : Int32)) Z0 Un (E' - K - 2) hab hU63 (own_subN (y := 2) hk rfl (by omega) (by omega))) (by decide) (by decide) rfl (lenOf pd_2 rfl) rfl rfl (Nat.le_of_eq rfl) d5_84 (by decide) (by decide) 87 rfl XQ.fr (fun w17 T17 L17 h17 X17 q17 => ?_)
          obtain ⟨rfl, -, Ex17⟩ := q17
          show Go p e below E m T17 87 #[.val (.int pos), .val (.int at_), .val (.int end0), .val (.long ab), .second, .val (.int d0), .val (.int sign), .val (.int v12)] [(.int (own_dg (Un / 10 ^ (E' - K - 2)))), (.int (48 : Int32))]
          refine go_iadd X17 d5_87 88 rfl ?_
          exact go_retI X17 hE d5_88 (fun L N => ⟨by rw [own_F5_C2 hE' n1 n2 n3 p1 (by omega), own_chdg], N, Ex17⟩) (by decide) (by decide)
        intro c16
        replace c16 : v12 = (d0 + (1 : Int32)) := Decidable.not_not.mp c16
        refine go_bipush X0 (46 : Int32) d5_69 (by decide) 71 rfl ?_
        exact go_retI X0 hE d5_71 (fun L N => ⟨by rw [own_F5_C3 hE' n1 n2 n3 (own_P1 hD c13) (own_eqN hk (own_addN (y := 1) hD rfl (by omega)) c16)], N, own_ext0 _⟩) (by decide) (by decide)
      intro (c15 : ¬ (d0 < v12))
      have p1 := own_P1 hD c13
      have p2 := own_geN hD hk c15
      refine go_bipush X0 (48 : Int32) d5_43 (by decide) 45 rfl ?_
      refine go_lloadN X0 d5_45 rfl 46 rfl ?_
      refine go_iload X0 d5_46 rfl 48 rfl ?_
      refine go_iconst X0 (1 : Int32) d5_48 (by decide) 49 rfl ?_
      refine go_isub X0 d5_49 50 rfl ?_
      refine go_callS X0 1 [(.long ab), (.int (v12 - (1 : Int32)))] [(.int (48 : Int32))] (wd39 hw) (wd40 hw) (wd15 hw) (wd41 hw) (by decide) (rm4 l Z a0 hw [] h0 n0 ab (v12 - (1 : Int32)) Z0 Un (E' - K - 1) hab hU63 (own_subN (y := 1) hk rfl (by omega) (by omega))) (by decide) (by decide) rfl (lenOf pd_2 rfl) rfl rfl (Nat.le_of_eq rfl) d5_50 (by decide) (by decide) 53 rfl XQ.fr (fun w18 T18 L18 h18 X18 q18 => ?_)
      obtain ⟨rfl, -, Ex18⟩ := q18
      show Go p e below E m T18 53 #[.val (.int pos), .val (.int at_), .val (.int end0), .val (.long ab), .second, .val (.int d0), .val (.int sign), .val (.int v12)] [(.int (own_dg (Un / 10 ^ (E' - K - 1)))), (.int (48 : Int32))]
      refine go_iadd X18 d5_53 54 rfl ?_
      exact go_retI X18 hE d5_54 (fun L N => ⟨by rw [own_F5_C1 hE' n1 n2 n3 (Or.inr (by omega)), own_chdg], N, Ex18⟩) (by decide) (by decide)
    intro c11
    replace c11 : pos = at_ := Decidable.not_not.mp c11
    refine go_bipush X0 (45 : Int32) d5_23 (by decide) 25 rfl ?_
    exact go_retI X0 hE d5_25 (fun L N => ⟨by rw [own_F5_C4 (own_eqN hsign (P := 1) rfl c3) (own_eqN hpos hat c11)], N, own_ext0 _⟩) (by decide) (by decide)
  intro (c2 : ¬ (pos < end0))
  refine go_iconst X0 (0 : Int32) d5_10 (by decide) 11 rfl ?_
  exact go_retI X0 hE d5_11 (fun L N => ⟨by rw [own_F5_C0 hE' (Or.inr (own_geN hpos hend c2))], N, own_ext0 _⟩) (by decide) (by decide)
theorem own_dg_ne {U D nd : Nat} (hnd : own_ND U D nd) (h1 : 1 < nd) (c : own_dg (U / 10 ^ (D + nd - 1)) = (0 : Int32)) : False := by
  have h2 := hnd.2.1 (nd - 1) (by omega) (by omega)
  have h3 := hnd.2.2
  rw [(by omega : D + nd = D + nd - 1 + 1), own_next] at h3
  rw [(by omega : D + (nd - 1) = D + nd - 1)] at h2
  generalize U / 10 ^ (D + nd - 1) = m at c h2 h3
  have hm : m < 10 := by omega
  unfold own_dg at c
  rw [Nat.mod_eq_of_lt hm] at c
  have : ∀ j : Fin 10, Int32.ofNat j.val = (0 : Int32) → j.val = 0 := by decide
  exact h2 (this ⟨m, hm⟩ c)
theorem own_Usg {u : Int64} (h : ¬ u = (-9223372036854775808 : Int64)) : ∃ U sg : Nat, (u.toInt = (U : Int) ∨ u.toInt = -(U : Int)) ∧ U < 2 ^ 63 ∧ sg = (if u < (0 : Int64) then 1 else 0) ∧ sg ≤ 1 ∧ ∀ {z : Int32}, z = (if u < (0 : Int64) then (1 : Int32) else (0 : Int32)) → z.toInt = (sg : Int) := by
  have h1 := u.toInt_lt
  have h2 := u.le_toInt
  have h3 : u.toInt ≠ -9223372036854775808 := fun q => h (Int64.toInt_inj.mp (q.trans rfl))
  refine ⟨u.toInt.natAbs, if u < (0 : Int64) then 1 else 0, by omega, by omega, rfl, by split <;> omega, fun {z} hz => ?_⟩
  rw [hz]
  split <;> rfl
theorem own_Dv {x v : Int32} (h : v = x &&& 31) : ∃ D : Nat, v.toInt = (D : Int) ∧ D ≤ 31 := by
  have h1 := Jvm.Kit.i32_mask x 31 (k := 5) (by decide) (by decide)
  rw [← h] at h1
  exact ⟨v.toInt.toNat, by omega, by omega⟩
theorem own_Kv {x v : Int32} (h : v = x &&& 63) : ∃ K : Nat, v.toInt = (K : Int) ∧ K < 64 := by
  have h1 := Jvm.Kit.i32_mask x 63 (k := 6) (by decide) (by decide)
  rw [← h] at h1
  exact ⟨v.toInt.toNat, by omega, by omega⟩
theorem own_Ev {x v : Int32} (h : v = (53 : Int32) + (x &&& 7)) : ∃ E : Nat, v.toInt = (E : Int) ∧ 53 ≤ E ∧ E ≤ 60 := by
  have h1 := Jvm.Kit.i32_mask x 7 (k := 3) (by decide) (by decide)
  have e : (53 : Int32).toInt = 53 := rfl
  have h2 : v.toInt = 53 + (x &&& 7).toInt := by rw [h, Jvm.Kit.i32_add (by omega) (by omega), e]
  exact ⟨v.toInt.toNat, by omega, by omega, by omega⟩
theorem own_mv {en av sign d fr m : Int32} {E D nd sg : Nat} (hE : en.toInt = (E : Int)) (hav : av.toInt = ((E - own_S D - nd - sg : Nat) : Int)) (hs : sign.toInt = (sg : Int)) (hD : d.toInt = (D : Int)) (hD31 : D ≤ 31) (hEs : own_S D + nd + sg ≤ E ∧ E ≤ 60 ∧ sg ≤ 1) (hf : fr = if (0 : Int32) < d then (d + (1 : Int32)) else (0 : Int32)) (hm : m = ((en - av) - sign) - fr) : m.toInt = (nd : Int) := by
  have e0 : (0 : Int32).toInt = 0 := rfl
  have e1 : (1 : Int32).toInt = 1 := rfl
  have h1 : fr.toInt = (own_S D : Int) := by
    rw [hf]
    split
    · rename_i c
      rw [own_S1 (own_P1 hD c), Jvm.Kit.i32_add (by omega) (by omega), hD, e1]
      rfl
    · rename_i c
      rw [own_S0 (own_P0 hD c)]
      rfl
  have h2 : (en - av).toInt = ((own_S D + nd + sg : Nat) : Int) := by rw [Jvm.Kit.i32_sub (by omega) (by omega)]; omega
  have h3 : ((en - av) - sign).toInt = ((own_S D + nd : Nat) : Int) := by rw [Jvm.Kit.i32_sub (by omega) (by omega)]; omega
  rw [hm, Jvm.Kit.i32_sub (by omega) (by omega)]
  omega

def Q0 (n0 : Nat) (v : Option Value) (h : Heap) (L : List Loc) : Prop := v = some (.int 1) ∧ Fr n0 L
set_option maxRecDepth 65536 in
set_option maxHeartbeats 40000000 in
theorem rm0 (l : Launch) (Z : State) (a0 : Array Value) (hw : ∀ d ∈ tables_1, d.before a0 Z = true) (ws : List Jvm.Cond) (h0 : Heap) (n0 : Nat) (Z0 : n0 ≤ h0.size) (i0 : Int64) (i1 i2 i3 : Int32)   :
    MetFree l x (head1 (Jvm.Cond.code x code maxLocals ret :: ws) room_1) (fun a U => a = #[(.long i0), (.int i1), (.int i2), (.int i3)] ∧ Z.Warmed39 U.vm ∧ U.heap = h0) (fun _ _ _ _ _ => True) (fun _ U o U' => ∃ v L, o = .returned v ∧ Q0 n0 v U'.heap L ∧ FrameEnd U o U' L room_1.cells room_1.slots) := by
  refine met_of (Z := Z) (n0 := n0) (Ls := #[.val (.long i0), .second, .val (.int i1), .val (.int i2), .val (.int i3), .unset, .unset, .unset, .unset, .unset, .unset, .unset, .unset, .unset, .unset]) (plainFor_of_name (by first | (simp [plainName, overriddenIn]; done) | decide +kernel)) (fun m => by first | (simp [entryFrame, mkF, argsToLocals, Value.category, maxLocals]; done) | rfl) ?_
  intro p e s m below meth c T0 E hE X0
  refine go_lloadN X0 at_0 rfl 1 rfl ?_
  refine go_ldc2 X0 (wd0 hw) at_1 4 rfl ?_
  refine go_lif X0 5 8 10 at_4 rfl at_5 rfl (by decide) (by decide) ?_ ?_
  · intro (c1 : ¬ (i0 = (-9223372036854775808 : Int64)))
    obtain ⟨Un, sg, hu, hU63, hsg, hsg1, hsgs⟩ := own_Usg c1
    refine go_iloadN X0 at_10 rfl 11 rfl ?_
    refine go_bipush X0 (31 : Int32) at_11 (by decide) 13 rfl ?_
    refine go_iand X0 at_13 14 rfl ?_
    refine go_nmI (fun v2 hv2 => ?_)
    refine go_istore X0 #[.val (.long i0), .second, .val (.int i1), .val (.int i2), .val (.int i3), .val (.int v2), .unset, .unset, .unset, .unset, .unset, .unset, .unset, .unset, .unset] at_14 rfl 16 rfl ?_
    obtain ⟨D, hD, hD31⟩ := own_Dv hv2
    refine go_bipush X0 (53 : Int32) at_16 (by decide) 18 rfl ?_
    refine go_iloadN X0 at_18 rfl 19 rfl ?_
    refine go_bipush X0 (7 : Int32) at_19 (by decide) 21 rfl ?_
    refine go_iand X0 at_21 22 rfl ?_
    refine go_iadd X0 at_22 23 rfl ?_
    refine go_nmI (fun v3 hv3 => ?_)
    refine go_istore X0 #[.val (.long i0), .second, .val (.int i1), .val (.int i2), .val (.int i3), .val (.int v2), .val (.int v3), .unset, .unset, .unset, .unset, .unset, .unset, .unset, .unset] at_23 rfl 25 rfl ?_
    obtain ⟨E', hEe, hE1, hE2⟩ := own_Ev hv3
    refine go_bipush X0 (64 : Int32) at_25 (by decide) 27 rfl ?_
    refine go_newA (aty := .byte) X0 64 (wd1 hw) at_27 (by decide) (by decide) (by decide) (by decide) (by decide) 29 rfl (fun T4 h4 aB cA4 gA4 X4 Ex A4 => ?_)
    have g_b : n0 ≤ aB := by rw [gA4]; exact Z0
    have hszh : n0 ≤ h4.size := Nat.le_trans Z0 Ex.1
    have A_b : AA Z h4 aB .byte 64 (fun _ => .int 0) := AA.new A4 rfl
    refine go_astore X4 #[.val (.long i0), .second, .val (.int i1), .val (.int i2), .val (.int i3), .val (.int v2), .val (.int v3), .val (.ref aB), .unset, .unset, .unset, .unset, .unset, .unset, .unset] at_29 rfl rfl 31 rfl ?_
    refine go_lloadN X4 at_31 rfl 32 rfl ?_
    refine go_iload X4 at_32 rfl 34 rfl ?_
    refine go_aload X4 at_34 rfl rfl 36 rfl ?_
    refine go_iload X4 at_36 rfl 38 rfl ?_
    refine go_callS X4 0 [(.long i0), (.int v2), (.ref aB), (.int v3)] [] (wd2 hw) (wd3 hw) (wd4 hw) (wd5 hw) (by decide) (rm2 l Z a0 hw [] h4 n0 i0 v2 aB v3 D E' Un sg hD hEe hu hD31 hE1 hE2 hU63 hsg g_b A_b) (by decide) (by decide) rfl (lenOf pd_3 rfl) rfl rfl (Nat.le_of_eq rfl) at_38 (by decide) (by decide) 41 rfl PLQ.fr (fun w5 T5 L5 h5 X5 q5 => ?_)
    obtain ⟨-, K5, nd, hnd, ⟨av, rfl, hav⟩, A_b⟩ := q5
    replace hszh := Nat.le_trans hszh K5.1
    show Go p e below E m T5 41 #[.val (.long i0), .second, .val (.int i1), .val (.int i2), .val (.int i3), .val (.int v2), .val (.int v3), .val (.ref aB), .unset, .unset, .unset, .unset, .unset, .unset, .unset] [(.int av)]
    refine go_istore X5 #[.val (.long i0), .second, .val (.int i1), .val (.int i2), .val (.int i3), .val (.int v2), .val (.int v3), .val (.ref aB), .val (.int av), .unset, .unset, .unset, .unset, .unset, .unset] at_41 rfl 43 rfl ?_
    have hSb := own_S_le hD31
    have hndb := own_nd_le hU63 hnd
    have hEs : own_S D + nd + sg ≤ E' ∧ E' ≤ 60 ∧ sg ≤ 1 := ⟨by omega, hE2, hsg1⟩
    have hnd1 := hnd.1
    refine go_iload X5 at_43 rfl 45 rfl ?_
    refine go_if X5 48 55 at_45 rfl (by decide) (by decide) ?_ ?_
    · intro (c6 : av < (0 : Int32))
      exfalso
      exact own_nneg hav c6
    intro (c6 : ¬ (av < (0 : Int32)))
    refine go_iload X5 at_48 rfl 50 rfl ?_
    refine go_iload X5 at_50 rfl 52 rfl ?_
    refine go_icmp X5 55 57 at_52 rfl (by decide) (by decide) ?_ ?_
    rotate_left
    · intro (c7 : ¬ (av < v3))
      exfalso
      exact c7 (own_lt hav hEe (by omega))
    intro (c7 : av < v3)
    refine go_lloadN X5 at_57 rfl 58 rfl ?_
    refine go_callS X5 0 [(.long i0)] [] (wd12 hw) (wd7 hw) (wd8 hw) (wd9 hw) (by decide) (rm1 l Z a0 hw [] h5 n0 i0  ) (by decide) (by decide) rfl (lenOf pd_0 rfl) rfl rfl (Nat.le_of_eq rfl) at_58 (by decide) (by decide) 61 rfl PQ.fr (PQ.k (fun T8 X8 => ?_))
    show Go p e below E m T8 61 #[.val (.long i0), .second, .val (.int i1), .val (.int i2), .val (.int i3), .val (.int v2), .val (.int v3), .val (.ref aB), .val (.int av), .unset, .unset, .unset, .unset, .unset, .unset] [(.long (own_abs i0))]
    refine go_nmL (fun v9 hv9 => ?_)
    refine go_lstore X8 #[.val (.long i0), .second, .val (.int i1), .val (.int i2), .val (.int i3), .val (.int v2), .val (.int v3), .val (.ref aB), .val (.int av), .val (.long v9), .second, .unset, .unset, .unset, .unset] at_61 rfl 63 rfl ?_
    refine go_lloadN X8 at_63 rfl 64 rfl ?_
    refine go_lconst X8 (0 : Int64) at_64 (by decide) 65 rfl ?_
    refine go_cut (A := ∀ z10 : Int32, z10 = (if i0 < (0 : Int64) then (1 : Int32) else (0 : Int32)) → Go p e below E m T8 74 #[.val (.long i0), .second, .val (.int i1), .val (.int i2), .val (.int i3), .val (.int v2), .val (.int v3), .val (.ref aB), .val (.int av), .val (.long v9), .second, .unset, .unset, .unset, .unset] [(.int z10)]) ?_ ?_
    · intro J11
      refine go_lif X8 66 69 73 at_65 rfl at_66 rfl (by decide) (by decide) ?_ ?_
      · intro (c12 : ¬ (i0 < (0 : Int64)))
        refine go_iconst X8 (0 : Int32) at_73 (by decide) 74 rfl ?_
        exact J11 _ (by first | rw [if_neg c12] | simp only [c12, if_true, if_false, ite_self] | rfl)
      intro c12
      replace c12 : i0 < (0 : Int64) := Decidable.not_not.mp c12
      refine go_iconst X8 (1 : Int32) at_69 (by decide) 70 rfl ?_
      refine go_goto X8 74 at_70 (by decide) (by decide) ?_
      exact J11 _ (by first | rw [if_pos c12] | simp only [c12, if_true, if_false, ite_self] | rfl)
    intro z10 hz10
    refine go_istore X8 #[.val (.long i0), .second, .val (.int i1), .val (.int i2), .val (.int i3), .val (.int v2), .val (.int v3), .val (.ref aB), .val (.int av), .val (.long v9), .second, .val (.int z10), .unset, .unset, .unset] at_74 rfl 76 rfl ?_
    refine go_iload X8 at_76 rfl 78 rfl ?_
    refine go_cut (A := ∀ z13 : Int32, z13 = (if (0 : Int32) < v2 then (v2 + (1 : Int32)) else (0 : Int32)) → Go p e below E m T8 89 #[.val (.long i0), .second, .val (.int i1), .val (.int i2), .val (.int i3), .val (.int v2), .val (.int v3), .val (.ref aB), .val (.int av), .val (.long v9), .second, .val (.int z10), .unset, .unset, .unset] [(.int z13)]) ?_ ?_
    · intro J14
      refine go_if X8 81 88 at_78 rfl (by decide) (by decide) ?_ ?_
      · intro (c15 : ¬ ((0 : Int32) < v2))
        refine go_iconst X8 (0 : Int32) at_88 (by decide) 89 rfl ?_
        exact J14 _ (by first | rw [if_neg c15] | simp only [c15, if_true, if_false, ite_self] | rfl)
      intro c15
      replace c15 : (0 : Int32) < v2 := Decidable.not_not.mp c15
      refine go_iload X8 at_81 rfl 83 rfl ?_
      refine go_iconst X8 (1 : Int32) at_83 (by decide) 84 rfl ?_
      refine go_iadd X8 at_84 85 rfl ?_
      refine go_goto X8 89 at_85 (by decide) (by decide) ?_
      exact J14 _ (by first | rw [if_pos c15] | simp only [c15, if_true, if_false, ite_self] | rfl)
    intro z13 hz13
    refine go_istore X8 #[.val (.long i0), .second, .val (.int i1), .val (.int i2), .val (.int i3), .val (.int v2), .val (.int v3), .val (.ref aB), .val (.int av), .val (.long v9), .second, .val (.int z10), .val (.int z13), .unset, .unset] at_89 rfl 91 rfl ?_
    refine go_iload X8 at_91 rfl 93 rfl ?_
    refine go_iload X8 at_93 rfl 95 rfl ?_
    refine go_isub X8 at_95 96 rfl ?_
    refine go_iload X8 at_96 rfl 98 rfl ?_
    refine go_isub X8 at_98 99 rfl ?_
    refine go_iload X8 at_99 rfl 101 rfl ?_
    refine go_isub X8 at_101 102 rfl ?_
    refine go_nmI (fun v16 hv16 => ?_)
    refine go_istore X8 #[.val (.long i0), .second, .val (.int i1), .val (.int i2), .val (.int i3), .val (.int v2), .val (.int v3), .val (.ref aB), .val (.int av), .val (.long v9), .second, .val (.int z10), .val (.int z13), .val (.int v16), .unset] at_102 rfl 104 rfl ?_
    have hab : v9.toInt = (Un : Int) := own_absU hu hU63 hv9
    have hsign : z10.toInt = (sg : Int) := hsgs hz10
    have hm : v16.toInt = (nd : Int) := own_mv hEe hav hsign hD hD31 hEs hz13 hv16
    refine go_iload X8 at_104 rfl 106 rfl ?_
    refine go_iconst X8 (1 : Int32) at_106 (by decide) 107 rfl ?_
    refine go_icmp X8 110 112 at_107 rfl (by decide) (by decide) ?_ ?_
    rotate_left
    · intro (c17 : ¬ (¬ (v16 < (1 : Int32))))
      exfalso
      replace c17 : v16 < (1 : Int32) := Decidable.not_not.mp c17
      exact absurd (own_ltN hm (P := 1) rfl c17) (by omega)
    intro (c17 : ¬ (v16 < (1 : Int32)))
    refine go_iload X8 at_112 rfl 114 rfl ?_
    refine go_iload X8 at_114 rfl 116 rfl ?_
    refine go_iadd X8 at_116 117 rfl ?_
    refine go_bipush X8 (19 : Int32) at_117 (by decide) 119 rfl ?_
    refine go_icmp X8 122 140 at_119 rfl (by decide) (by decide) ?_ ?_
    · intro (c18 : ¬ ((v2 + v16) < (19 : Int32)))
      refine go_iload X8 at_140 rfl 142 rfl ?_
      refine go_iconst X8 (1 : Int32) at_142 (by decide) 143 rfl ?_
      refine go_icmp X8 146 163 at_143 rfl (by decide) (by decide) ?_ ?_
      · intro (c19 : ¬ ((1 : Int32) < v16))
        refine go_iload X8 at_163 rfl 165 rfl ?_
        refine go_bipush X8 (63 : Int32) at_165 (by decide) 167 rfl ?_
        refine go_iand X8 at_167 168 rfl ?_
        refine go_nmI (fun v20 hv20 => ?_)
        refine go_istore X8 #[.val (.long i0), .second, .val (.int i1), .val (.int i2), .val (.int i3), .val (.int v2), .val (.int v3), .val (.ref aB), .val (.int av), .val (.long v9), .second, .val (.int z10), .val (.int z13), .val (.int v16), .val (.int v20)] at_168 rfl 170 rfl ?_
        obtain ⟨K, hpos, hK⟩ := own_Kv hv20
        refine go_aload X8 at_170 rfl rfl 172 rfl ?_
        refine go_iload X8 at_172 rfl 174 rfl ?_
        refine go_getB X8 A_b (own_jpos hpos) (own_jlt hpos hK) (by rw [hpos] <;> rfl) at_174 175 rfl ?_
        refine go_iload X8 at_175 rfl 177 rfl ?_
        refine go_iload X8 at_177 rfl 179 rfl ?_
        refine go_iload X8 at_179 rfl 181 rfl ?_
        refine go_lload X8 at_181 rfl 183 rfl ?_
        refine go_iload X8 at_183 rfl 185 rfl ?_
        refine go_iload X8 at_185 rfl 187 rfl ?_
        refine go_callS X8 1 [(.int v20), (.int av), (.int v3), (.long v9), (.int v2), (.int z10)] [(.int (own_F5 E' D Un nd sg K))] (wd36 hw) (wd37 hw) (wd15 hw) (wd38 hw) (by decide) (rm5 l Z a0 hw [] h5 n0 v20 av v3 v9 v2 z10 hszh K D E' Un nd sg hpos hav hEe hab hU63 hD hsign hD31 hK hEs) (by decide) (by decide) rfl (lenOf pd_4 rfl) rfl rfl (Nat.le_of_eq rfl) at_187 (by decide) (by decide) 190 rfl XQ.fr (fun w21 T21 L21 h21 X21 q21 => ?_)
        obtain ⟨rfl, -, Ex21⟩ := q21
        replace A_b := A_b.ext Ex21
        replace hszh := Nat.le_trans hszh Ex21.1
        show Go p e below E m T21 190 #[.val (.long i0), .second, .val (.int i1), .val (.int i2), .val (.int i3), .val (.int v2), .val (.int v3), .val (.ref aB), .val (.int av), .val (.long v9), .second, .val (.int z10), .val (.int z13), .val (.int v16), .val (.int v20)] [(.int (own_F5 E' D Un nd sg K)), (.int (own_F5 E' D Un nd sg K))]
        refine go_icmp X21 193 197 at_190 rfl (by decide) (by decide) (fun (hh : ¬ ((own_F5 E' D Un nd sg K) = (own_F5 E' D Un nd sg K))) => absurd (rfl : (own_F5 E' D Un nd sg K) = (own_F5 E' D Un nd sg K)) hh) (fun _ => ?_)
        refine go_iconst X21 (1 : Int32) at_193 (by decide) 194 rfl ?_
        refine go_goto X21 198 at_194 (by decide) (by decide) ?_
        exact go_retN X21 hE (by simp) at_198 (fun L N => ⟨rfl, N⟩) (by decide) (by decide)
      intro c19
      replace c19 : (1 : Int32) < v16 := Decidable.not_not.mp c19
      have hm1 := own_ltN (k := 1) rfl hm c19
      have hdm1 := own_subN (b := (1 : Int32)) (y := 1) (own_addN hD hm (by omega)) rfl (by omega) (by omega)
      refine go_lload X8 at_146 rfl 148 rfl ?_
      refine go_iload X8 at_148 rfl 150 rfl ?_
      refine go_iload X8 at_150 rfl 152 rfl ?_
      refine go_iadd X8 at_152 153 rfl ?_
      refine go_iconst X8 (1 : Int32) at_153 (by decide) 154 rfl ?_
      refine go_isub X8 at_154 155 rfl ?_
      refine go_callS X8 0 [(.long v9), (.int ((v2 + v16) - (1 : Int32)))] [] (wd39 hw) (wd40 hw) (wd15 hw) (wd41 hw) (by decide) (rm4 l Z a0 hw [] h5 n0 v9 ((v2 + v16) - (1 : Int32)) hszh Un (D + nd - 1) hab hU63 hdm1) (by decide) (by decide) rfl (lenOf pd_2 rfl) rfl rfl (Nat.le_of_eq rfl) at_155 (by decide) (by decide) 158 rfl XQ.fr (fun w22 T22 L22 h22 X22 q22 => ?_)
      obtain ⟨rfl, -, Ex22⟩ := q22
      replace A_b := A_b.ext Ex22
      replace hszh := Nat.le_trans hszh Ex22.1
      show Go p e below E m T22 158 #[.val (.long i0), .second, .val (.int i1), .val (.int i2), .val (.int i3), .val (.int v2), .val (.int v3), .val (.ref aB), .val (.int av), .val (.long v9), .second, .val (.int z10), .val (.int z13), .val (.int v16), .unset] [(.int (own_dg (Un / 10 ^ (D + nd - 1))))]
      refine go_if X22 161 163 at_158 rfl (by decide) (by decide) ?_ ?_
      rotate_left
      · intro (c23 : ¬ (¬ ((own_dg (Un / 10 ^ (D + nd - 1))) = (0 : Int32))))
        exfalso
        replace c23 : (own_dg (Un / 10 ^ (D + nd - 1))) = (0 : Int32) := Decidable.not_not.mp c23
        exact own_dg_ne hnd hm1 c23
      intro (c23 : ¬ ((own_dg (Un / 10 ^ (D + nd - 1))) = (0 : Int32)))
      refine go_iload X22 at_163 rfl 165 rfl ?_
      refine go_bipush X22 (63 : Int32) at_165 (by decide) 167 rfl ?_
      refine go_iand X22 at_167 168 rfl ?_
      refine go_nmI (fun v24 hv24 => ?_)
      refine go_istore X22 #[.val (.long i0), .second, .val (.int i1), .val (.int i2), .val (.int i3), .val (.int v2), .val (.int v3), .val (.ref aB), .val (.int av), .val (.long v9), .second, .val (.int z10), .val (.int z13), .val (.int v16), .val (.int v24)] at_168 rfl 170 rfl ?_
      obtain ⟨K, hpos, hK⟩ := own_Kv hv24
      refine go_aload X22 at_170 rfl rfl 172 rfl ?_
      refine go_iload X22 at_172 rfl 174 rfl ?_
      refine go_getB X22 A_b (own_jpos hpos) (own_jlt hpos hK) (by rw [hpos] <;> rfl) at_174 175 rfl ?_
      refine go_iload X22 at_175 rfl 177 rfl ?_
      refine go_iload X22 at_177 rfl 179 rfl ?_
      refine go_iload X22 at_179 rfl 181 rfl ?_
      refine go_lload X22 at_181 rfl 183 rfl ?_
      refine go_iload X22 at_183 rfl 185 rfl ?_
      refine go_iload X22 at_185 rfl 187 rfl ?_
      refine go_callS X22 1 [(.int v24), (.int av), (.int v3), (.long v9), (.int v2), (.int z10)] [(.int (own_F5 E' D Un nd sg K))] (wd36 hw) (wd37 hw) (wd15 hw) (wd38 hw) (by decide) (rm5 l Z a0 hw [] h22 n0 v24 av v3 v9 v2 z10 hszh K D E' Un nd sg hpos hav hEe hab hU63 hD hsign hD31 hK hEs) (by decide) (by decide) rfl (lenOf pd_4 rfl) rfl rfl (Nat.le_of_eq rfl) at_187 (by decide) (by decide) 190 rfl XQ.fr (fun w25 T25 L25 h25 X25 q25 => ?_)
      obtain ⟨rfl, -, Ex25⟩ := q25
      replace A_b := A_b.ext Ex25
      replace hszh := Nat.le_trans hszh Ex25.1
      show Go p e below E m T25 190 #[.val (.long i0), .second, .val (.int i1), .val (.int i2), .val (.int i3), .val (.int v2), .val (.int v3), .val (.ref aB), .val (.int av), .val (.long v9), .second, .val (.int z10), .val (.int z13), .val (.int v16), .val (.int v24)] [(.int (own_F5 E' D Un nd sg K)), (.int (own_F5 E' D Un nd sg K))]
      refine go_icmp X25 193 197 at_190 rfl (by decide) (by decide) (fun (hh : ¬ ((own_F5 E' D Un nd sg K) = (own_F5 E' D Un nd sg K))) => absurd (rfl : (own_F5 E' D Un nd sg K) = (own_F5 E' D Un nd sg K)) hh) (fun _ => ?_)
      refine go_iconst X25 (1 : Int32) at_193 (by decide) 194 rfl ?_
      refine go_goto X25 198 at_194 (by decide) (by decide) ?_
      exact go_retN X25 hE (by simp) at_198 (fun L N => ⟨rfl, N⟩) (by decide) (by decide)
    intro c18
    replace c18 : (v2 + v16) < (19 : Int32) := Decidable.not_not.mp c18
    have hdm := own_addN hD hm (by omega)
    have ht := own_ltN hdm (P := 19) rfl c18
    refine go_lload X8 at_122 rfl 124 rfl ?_
    refine go_iload X8 at_124 rfl 126 rfl ?_
    refine go_iload X8 at_126 rfl 128 rfl ?_
    refine go_iadd X8 at_128 129 rfl ?_
    refine go_callS X8 2 [(.int (v2 + v16))] [(.long v9)] (wd13 hw) (wd14 hw) (wd15 hw) (wd16 hw) (by decide) (rm3 l Z a0 hw [] h5 n0 (v2 + v16) hszh _ hdm ht) (by decide) (by decide) rfl (lenOf pd_1 rfl) rfl rfl (Nat.le_of_eq rfl) at_129 (by decide) (by decide) 132 rfl XQ.fr (fun w26 T26 L26 h26 X26 q26 => ?_)
    obtain ⟨rfl, -, Ex26⟩ := q26
    replace A_b := A_b.ext Ex26
    replace hszh := Nat.le_trans hszh Ex26.1
    show Go p e below E m T26 132 #[.val (.long i0), .second, .val (.int i1), .val (.int i2), .val (.int i3), .val (.int v2), .val (.int v3), .val (.ref aB), .val (.int av), .val (.long v9), .second, .val (.int z10), .val (.int z13), .val (.int v16), .unset] [(.long (own_pw (D + nd))), (.long v9)]
    refine go_ldiv X26 at_132 (own_pw_ne ht) 133 rfl ?_
    refine go_lconst X26 (0 : Int64) at_133 (by decide) 134 rfl ?_
    refine go_lif X26 135 138 140 at_134 rfl at_135 rfl (by decide) (by decide) ?_ ?_
    rotate_left
    · intro (c27 : ¬ ((v9 / (own_pw (D + nd))) = (0 : Int64)))
      exfalso
      exact c27 (own_zz (own_divN hab (own_pw_int ht)) hnd.2.2)
    intro (c27 : (v9 / (own_pw (D + nd))) = (0 : Int64))
    refine go_iload X26 at_140 rfl 142 rfl ?_
    refine go_iconst X26 (1 : Int32) at_142 (by decide) 143 rfl ?_
    refine go_icmp X26 146 163 at_143 rfl (by decide) (by decide) ?_ ?_
    · intro (c28 : ¬ ((1 : Int32) < v16))
      refine go_iload X26 at_163 rfl 165 rfl ?_
      refine go_bipush X26 (63 : Int32) at_165 (by decide) 167 rfl ?_
      refine go_iand X26 at_167 168 rfl ?_
      refine go_nmI (fun v29 hv29 => ?_)
      refine go_istore X26 #[.val (.long i0), .second, .val (.int i1), .val (.int i2), .val (.int i3), .val (.int v2), .val (.int v3), .val (.ref aB), .val (.int av), .val (.long v9), .second, .val (.int z10), .val (.int z13), .val (.int v16), .val (.int v29)] at_168 rfl 170 rfl ?_
      obtain ⟨K, hpos, hK⟩ := own_Kv hv29
      refine go_aload X26 at_170 rfl rfl 172 rfl ?_
      refine go_iload X26 at_172 rfl 174 rfl ?_
      refine go_getB X26 A_b (own_jpos hpos) (own_jlt hpos hK) (by rw [hpos] <;> rfl) at_174 175 rfl ?_
      refine go_iload X26 at_175 rfl 177 rfl ?_
      refine go_iload X26 at_177 rfl 179 rfl ?_
      refine go_iload X26 at_179 rfl 181 rfl ?_
      refine go_lload X26 at_181 rfl 183 rfl ?_
      refine go_iload X26 at_183 rfl 185 rfl ?_
      refine go_iload X26 at_185 rfl 187 rfl ?_
      refine go_callS X26 1 [(.int v29), (.int av), (.int v3), (.long v9), (.int v2), (.int z10)] [(.int (own_F5 E' D Un nd sg K))] (wd36 hw) (wd37 hw) (wd15 hw) (wd38 hw) (by decide) (rm5 l Z a0 hw [] h26 n0 v29 av v3 v9 v2 z10 hszh K D E' Un nd sg hpos hav hEe hab hU63 hD hsign hD31 hK hEs) (by decide) (by decide) rfl (lenOf pd_4 rfl) rfl rfl (Nat.le_of_eq rfl) at_187 (by decide) (by decide) 190 rfl XQ.fr (fun w30 T30 L30 h30 X30 q30 => ?_)
      obtain ⟨rfl, -, Ex30⟩ := q30
      replace A_b := A_b.ext Ex30
      replace hszh := Nat.le_trans hszh Ex30.1
      show Go p e below E m T30 190 #[.val (.long i0), .second, .val (.int i1), .val (.int i2), .val (.int i3), .val (.int v2), .val (.int v3), .val (.ref aB), .val (.int av), .val (.long v9), .second, .val (.int z10), .val (.int z13), .val (.int v16), .val (.int v29)] [(.int (own_F5 E' D Un nd sg K)), (.int (own_F5 E' D Un nd sg K))]
      refine go_icmp X30 193 197 at_190 rfl (by decide) (by decide) (fun (hh : ¬ ((own_F5 E' D Un nd sg K) = (own_F5 E' D Un nd sg K))) => absurd (rfl : (own_F5 E' D Un nd sg K) = (own_F5 E' D Un nd sg K)) hh) (fun _ => ?_)
      refine go_iconst X30 (1 : Int32) at_193 (by decide) 194 rfl ?_
      refine go_goto X30 198 at_194 (by decide) (by decide) ?_
      exact go_retN X30 hE (by simp) at_198 (fun L N => ⟨rfl, N⟩) (by decide) (by decide)
    intro c28
    replace c28 : (1 : Int32) < v16 := Decidable.not_not.mp c28
    have hm1 := own_ltN (k := 1) rfl hm c28
    have hdm1 := own_subN (b := (1 : Int32)) (y := 1) (own_addN hD hm (by omega)) rfl (by omega) (by omega)
    refine go_lload X26 at_146 rfl 148 rfl ?_
    refine go_iload X26 at_148 rfl 150 rfl ?_
    refine go_iload X26 at_150 rfl 152 rfl ?_
    refine go_iadd X26 at_152 153 rfl ?_
    refine go_iconst X26 (1 : Int32) at_153 (by decide) 154 rfl ?_
    refine go_isub X26 at_154 155 rfl ?_
    refine go_callS X26 0 [(.long v9), (.int ((v2 + v16) - (1 : Int32)))] [] (wd39 hw) (wd40 hw) (wd15 hw) (wd41 hw) (by decide) (rm4 l Z a0 hw [] h26 n0 v9 ((v2 + v16) - (1 : Int32)) hszh Un (D + nd - 1) hab hU63 hdm1) (by decide) (by decide) rfl (lenOf pd_2 rfl) rfl rfl (Nat.le_of_eq rfl) at_155 (by decide) (by decide) 158 rfl XQ.fr (fun w31 T31 L31 h31 X31 q31 => ?_)
    obtain ⟨rfl, -, Ex31⟩ := q31
    replace A_b := A_b.ext Ex31
    replace hszh := Nat.le_trans hszh Ex31.1
    show Go p e below E m T31 158 #[.val (.long i0), .second, .val (.int i1), .val (.int i2), .val (.int i3), .val (.int v2), .val (.int v3), .val (.ref aB), .val (.int av), .val (.long v9), .second, .val (.int z10), .val (.int z13), .val (.int v16), .unset] [(.int (own_dg (Un / 10 ^ (D + nd - 1))))]
    refine go_if X31 161 163 at_158 rfl (by decide) (by decide) ?_ ?_
    rotate_left
    · intro (c32 : ¬ (¬ ((own_dg (Un / 10 ^ (D + nd - 1))) = (0 : Int32))))
      exfalso
      replace c32 : (own_dg (Un / 10 ^ (D + nd - 1))) = (0 : Int32) := Decidable.not_not.mp c32
      exact own_dg_ne hnd hm1 c32
    intro (c32 : ¬ ((own_dg (Un / 10 ^ (D + nd - 1))) = (0 : Int32)))
    refine go_iload X31 at_163 rfl 165 rfl ?_
    refine go_bipush X31 (63 : Int32) at_165 (by decide) 167 rfl ?_
    refine go_iand X31 at_167 168 rfl ?_
    refine go_nmI (fun v33 hv33 => ?_)
    refine go_istore X31 #[.val (.long i0), .second, .val (.int i1), .val (.int i2), .val (.int i3), .val (.int v2), .val (.int v3), .val (.ref aB), .val (.int av), .val (.long v9), .second, .val (.int z10), .val (.int z13), .val (.int v16), .val (.int v33)] at_168 rfl 170 rfl ?_
    obtain ⟨K, hpos, hK⟩ := own_Kv hv33
    refine go_aload X31 at_170 rfl rfl 172 rfl ?_
    refine go_iload X31 at_172 rfl 174 rfl ?_
    refine go_getB X31 A_b (own_jpos hpos) (own_jlt hpos hK) (by rw [hpos] <;> rfl) at_174 175 rfl ?_
    refine go_iload X31 at_175 rfl 177 rfl ?_
    refine go_iload X31 at_177 rfl 179 rfl ?_
    refine go_iload X31 at_179 rfl 181 rfl ?_
    refine go_lload X31 at_181 rfl 183 rfl ?_
    refine go_iload X31 at_183 rfl 185 rfl ?_
    refine go_iload X31 at_185 rfl 187 rfl ?_
    refine go_callS X31 1 [(.int v33), (.int av), (.int v3), (.long v9), (.int v2), (.int z10)] [(.int (own_F5 E' D Un nd sg K))] (wd36 hw) (wd37 hw) (wd15 hw) (wd38 hw) (by decide) (rm5 l Z a0 hw [] h31 n0 v33 av v3 v9 v2 z10 hszh K D E' Un nd sg hpos hav hEe hab hU63 hD hsign hD31 hK hEs) (by decide) (by decide) rfl (lenOf pd_4 rfl) rfl rfl (Nat.le_of_eq rfl) at_187 (by decide) (by decide) 190 rfl XQ.fr (fun w34 T34 L34 h34 X34 q34 => ?_)
    obtain ⟨rfl, -, Ex34⟩ := q34
    replace A_b := A_b.ext Ex34
    replace hszh := Nat.le_trans hszh Ex34.1
    show Go p e below E m T34 190 #[.val (.long i0), .second, .val (.int i1), .val (.int i2), .val (.int i3), .val (.int v2), .val (.int v3), .val (.ref aB), .val (.int av), .val (.long v9), .second, .val (.int z10), .val (.int z13), .val (.int v16), .val (.int v33)] [(.int (own_F5 E' D Un nd sg K)), (.int (own_F5 E' D Un nd sg K))]
    refine go_icmp X34 193 197 at_190 rfl (by decide) (by decide) (fun (hh : ¬ ((own_F5 E' D Un nd sg K) = (own_F5 E' D Un nd sg K))) => absurd (rfl : (own_F5 E' D Un nd sg K) = (own_F5 E' D Un nd sg K)) hh) (fun _ => ?_)
    refine go_iconst X34 (1 : Int32) at_193 (by decide) 194 rfl ?_
    refine go_goto X34 198 at_194 (by decide) (by decide) ?_
    exact go_retN X34 hE (by simp) at_198 (fun L N => ⟨rfl, N⟩) (by decide) (by decide)
  intro c1
  replace c1 : i0 = (-9223372036854775808 : Int64) := Decidable.not_not.mp c1
  refine go_iconst X0 (1 : Int32) at_8 (by decide) 9 rfl ?_
  exact go_retN X0 hE (by simp) at_9 (fun L N => ⟨rfl, N⟩) (by decide) (by decide)
set_option maxRecDepth 65536 in
set_option maxHeartbeats 40000000 in
theorem comes_1 {Post : Tables → Env → Array Value → State → Outcome → State → Prop} (hpost : ∀ tb e args s v u, (limb_1_1.after args s (.returned v) u = true ∧ limb_1_2.after args s (.returned v) u = true ∧ True) → FrameEnd s (.returned v) u (Jvm.fieldLocs frame_1_writes args s ++ Jvm.arrayLocs frame_1_arrays args s ++ Jvm.staticLocs frame_1_statics s) 16 320 → Post tb e args s (.returned v) u) :
    ArmFor flags0 classFile x code maxLocals ret World_1 tables_1 room_1 Calls_1 rest_1 Pre_1 Post := by
  intro l hfl _ _ p e ha hc hk s m args below hf hA hF happ hP
  obtain ⟨hcalls, hrest, hpre⟩ := hP
  obtain ⟨-, -, -, hnamed, -, -, -, hat⟩ := (Spec.applies_iff hf).mp happ
  obtain ⟨hg, hn⟩ := and_e (Cond.before_iff.mp (show (Jvm.Cond.and given_1 narrow_1).before args s = true from hpre))
  obtain ⟨hcnt, hg⟩ := and_e hg
  obtain ⟨g0, hg⟩ := and_e hg
  obtain ⟨g1, hg⟩ := and_e hg
  obtain ⟨g2, hg⟩ := and_e hg
  have g3 := hg
  obtain ⟨w0, w1, w2, w3, rfl⟩ : ∃ w0 w1 w2 w3 : Value, args = #[w0, w1, w2, w3] := by
    have hs : args.size = 4 := by simpa [Cond.value, given_1] using hcnt
    obtain ⟨L⟩ := args
    match L, hs with
    | [w0, w1, w2, w3], _ => exact ⟨w0, w1, w2, w3, rfl⟩
  have hw := fun d (hd : d ∈ tables_1) => atoms_spec (ws := Jvm.Cond.code x code maxLocals ret :: tables_1) hat d (List.mem_cons_of_mem _ hd)
  obtain ⟨i0, ei0⟩ := isL_v g0
  obtain rfl : w0 = (.long i0) := Option.some.inj ei0
  obtain ⟨i1, ei1⟩ := is_v g1
  obtain rfl : w1 = (.int i1) := Option.some.inj ei1
  obtain ⟨i2, ei2⟩ := is_v g2
  obtain rfl : w2 = (.int i2) := Option.some.inj ei2
  obtain ⟨i3, ei3⟩ := is_v g3
  obtain rfl : w3 = (.int i3) := Option.some.inj ei3
  obtain ⟨n, o, h1, h2, h3, _, L, rfl, ⟨rfl, N⟩, hq⟩ := rm0 l s _ hw tables_1 s.heap s.heap.size (Nat.le_refl _) i0 i1 i2 i3  p e ha hc hk s m _ below hf ((Spec.applies_iff_loose hf).mp happ).1 ⟨rfl, State.Warmed39.refl s, rfl⟩ trivial
  refine ⟨n, _, h1, h2, h3, hpost _ _ _ _ _ _ ⟨Cond.after_iff.mpr rfl, Cond.after_iff.mpr (eq_i res_at (Term.int_eval (1)) rfl), trivial⟩ ⟨hq.1, hq.2.1, (hq.2.2.sift fun y hy => Or.inr (N y hy)).mono (by decide) (by decide)⟩⟩
theorem main_1_1 : Claimed_1_1 := comes_1 fun _ _ _ _ _ _ h hF => ⟨h.1, hF⟩
theorem main_1_2 : Claimed_1_2 := comes_1 fun _ _ _ _ _ _ h hF => ⟨h.2.1, hF⟩
end Jvm.Pilot.@@N@@
namespace Jvm.Pilot.@@N@@
open Jvm Jvm.ClassFile Sem Op Lib Jvm.Free Jvm.Stand Jvm.Pilot.@@N@@.Jvm.D
/-! MADE BY PROGRAM (witnessworld.py) out of the Statement's table words and the real class files: 13 classes; the members and pool entries that the words name. The judged class is class 1, her method 1. -/
namespace start1
open Jvm.ClassFile
def u (s : String) : CpInfo := .utf8 (stringToUtf16 s)
/-- a pool by its gaps: so many unusable entries, then the entry; so many at the end -/
def gap : Nat → List CpInfo → List CpInfo
  | 0, r => r
  | n + 1, r => .unusable :: gap n r
def poolList (es : List (Nat × CpInfo)) (last : Nat) : List CpInfo := es.foldr (fun e r => gap e.1 (e.2 :: r)) (gap last [])
def pool (es : List (Nat × CpInfo)) (last : Nat) : Array CpInfo := ⟨poolList es last⟩
def fileOf (pool : Array CpInfo) (this : Nat) (attrs : Array Attribute := #[]) (ms : Array MethodInfo := #[]) (fl : Nat := 33) (sup : Nat := 0) (ifs : Array Nat := #[]) (fds : Array FieldInfo := #[]) : ClassFile where
  minorVersion := 0
  majorVersion := 65
  constantPool := pool
  accessFlags := fl
  thisClass := this
  superClass := sup
  interfaces := ifs
  fields := fds
  methods := ms
  attributes := attrs
def plain (name : String) (sup : Option ClassId) : Class where
  name := name
  kind := .ordinary
  loader := none
  accessFlags := 33
  super := sup
  interfaces := #[]
  cf := none
  fields := #[]
  methods := #[]
  instanceTypes := #[]
  staticTypes := #[]
  resolved := #[]
  callSites := []
  init := .initialized
  statics := none
  mirror := none

def pool0 : Array CpInfo := pool [(5, u "<init>"), (0, u "()V"), (1, .class_ 10), (1, u "java/lang/Object")] 113

def k0m0 : Method := { name := "<init>", desc := "()V", sig := { parameters := [], returnType := none }, accessFlags := 1, code := none }
/-- java/lang/Object -/
def k0 : Class := { plain "java/lang/Object" none with
  accessFlags := 33
  interfaces := #[]
  cf := some (fileOf pool0 8 #[] #[{ accessFlags := 1, nameIndex := 5, descriptorIndex := 6, attributes := #[] }] 33 0 #[] #[])
  fields := #[]
  methods := #[k0m0]
  instanceTypes := #[]
  staticTypes := #[]
  resolved := Array.replicate 124 none
  statics := none }

def pool1 : Array CpInfo := pool [(2, .class_ 4), (1, u "java/lang/Object"), (0, u "<init>"), (0, u "()V"), (2, .long 9223372036854775808), (1, .methodref 12 13), (0, .class_ 14), (0, .nameAndType 15 16), (0, u "com/example/firmline/firmline/TextBuffer"), (0, u "plain"), (0, u "(JI[BI)I"), (0, .methodref 18 19), (0, .class_ 20), (0, .nameAndType 21 22), (0, u "java/lang/Math"), (0, u "abs"), (0, u "(J)J"), (0, .methodref 24 25), (0, .class_ 26), (0, .nameAndType 27 28), (0, u "com/example/firmline/firmline/TextBufferPlainPinLaw"), (0, u "pow10"), (0, u "(I)J"), (0, .methodref 24 30), (0, .nameAndType 31 32), (0, u "digit"), (0, u "(JI)I"), (0, .methodref 24 34), (0, .nameAndType 35 36), (0, u "expected"), (0, u "(IIIJII)I"), (0, .long 10), (1, .long 100), (1, .long 1000), (1, .long 10000), (1, .long 100000), (1, .long 1000000), (1, .long 10000000), (1, .long 100000000), (1, .long 1000000000), (1, .long 10000000000), (1, .long 100000000000), (1, .long 1000000000000), (1, .long 10000000000000), (1, .long 100000000000000), (1, .long 1000000000000000), (1, .long 10000000000000000), (1, .long 100000000000000000), (1, .long 1000000000000000000), (3, u "law"), (0, u "(JIII)Z")] 5

def k1m0 : Method := { name := "<init>", desc := "()V", sig := { parameters := [], returnType := none }, accessFlags := 1, code := none }
def k1c1 : Code := { maxStack := 8, maxLocals := 15, code := code, exceptionTable := #[], attributes := #[] }
def k1m1 : Method := { name := "law", desc := "(JIII)Z", sig := { parameters := [.long, .int, .int, .int], returnType := some .boolean }, accessFlags := 9, code := some k1c1 }
def k1c2 : Code := { maxStack := 5, maxLocals := 8, code := method_3_code, exceptionTable := #[], attributes := #[] }
def k1m2 : Method := { name := "expected", desc := "(IIIJII)I", sig := { parameters := [.int, .int, .int, .long, .int, .int], returnType := some .int }, accessFlags := 10, code := some k1c2 }
def k1c3 : Code := { maxStack := 4, maxLocals := 3, code := method_4_code, exceptionTable := #[], attributes := #[] }
def k1m3 : Method := { name := "digit", desc := "(JI)I", sig := { parameters := [.long, .int], returnType := some .int }, accessFlags := 10, code := some k1c3 }
def k1c4 : Code := { maxStack := 5, maxLocals := 2, code := method_5_code, exceptionTable := #[], attributes := #[] }
def k1m4 : Method := { name := "pow10", desc := "(I)J", sig := { parameters := [.int], returnType := some .long }, accessFlags := 10, code := some k1c4 }
/-- com/example/firmline/firmline/TextBufferPlainPinLaw -/
def k1 : Class := { plain "com/example/firmline/firmline/TextBufferPlainPinLaw" (some 0) with
  accessFlags := 49
  interfaces := #[]
  cf := some (fileOf pool1 24 #[] #[{ accessFlags := 1, nameIndex := 5, descriptorIndex := 6, attributes := #[] }, { accessFlags := 9, nameIndex := 75, descriptorIndex := 76, attributes := #[] }, { accessFlags := 10, nameIndex := 35, descriptorIndex := 36, attributes := #[] }, { accessFlags := 10, nameIndex := 31, descriptorIndex := 32, attributes := #[] }, { accessFlags := 10, nameIndex := 27, descriptorIndex := 28, attributes := #[] }] 49 2 #[] #[])
  fields := #[]
  methods := #[k1m0, k1m1, k1m2, k1m3, k1m4]
  instanceTypes := #[]
  staticTypes := #[]
  resolved := Array.replicate 82 none
  statics := none }

def pool2 : Array CpInfo := pool [(1, .class_ 2), (0, u "java/lang/Appendable"), (0, .class_ 4), (0, u "java/lang/Object")] 9

/-- java/lang/Appendable -/
def k2 : Class := { plain "java/lang/Appendable" (some 0) with
  accessFlags := 1537
  interfaces := #[]
  cf := some (fileOf pool2 1 #[] #[] 1537 3 #[] #[])
  fields := #[]
  methods := #[]
  instanceTypes := #[]
  staticTypes := #[]
  resolved := Array.replicate 14 none
  statics := none }

def pool3 : Array CpInfo := pool [(2, .class_ 4), (1, u "java/lang/Object"), (0, u "<init>"), (0, u "()V"), (4, .class_ 13), (1, u "com/example/firmline/firmline/TextBuffer"), (0, u "full"), (0, u "Ljava/util/List;"), (2, u "block"), (0, u "[B"), (6, u "plain"), (16, u "highSurrogate"), (0, u "C"), (13, u "used"), (0, u "I"), (4, .class_ 66), (1, u "java/lang/Math"), (10, u "(JI[BI)I"), (8, .methodref 64 87), (0, .nameAndType 88 89), (0, u "abs"), (0, u "(J)J"), (0, .long 10), (4, .long 48), (59, .class_ 156), (0, u "java/lang/Appendable"), (0, u "FIRST_BLOCK"), (2, u "LARGEST_BLOCK"), (0, u "UNPAIRED"), (0, u "B"), (1, u "PLAIN_PAST_DECIMALS"), (1, u "MOST_PLAIN_DECIMALS")] 19

def k3m0 : Method := { name := "<init>", desc := "()V", sig := { parameters := [], returnType := none }, accessFlags := 0, code := none }
def k3c1 : Code := { maxStack := 8, maxLocals := 9, code := prog_17_method_8_code, exceptionTable := #[], attributes := #[] }
def k3m1 : Method := { name := "plain", desc := "(JI[BI)I", sig := { parameters := [.long, .int, (.array .byte), .int], returnType := some .int }, accessFlags := 8, code := some k3c1 }
/-- com/example/firmline/firmline/TextBuffer -/
def k3 : Class := { plain "com/example/firmline/firmline/TextBuffer" (some 0) with
  accessFlags := 48
  interfaces := #[2]
  cf := some (fileOf pool3 11 #[] #[{ accessFlags := 0, nameIndex := 5, descriptorIndex := 6, attributes := #[] }, { accessFlags := 8, nameIndex := 26, descriptorIndex := 77, attributes := #[] }] 48 2 #[155] #[{ accessFlags := 26, nameIndex := 157, descriptorIndex := 59, attributes := #[] }, { accessFlags := 26, nameIndex := 160, descriptorIndex := 59, attributes := #[] }, { accessFlags := 26, nameIndex := 161, descriptorIndex := 162, attributes := #[] }, { accessFlags := 26, nameIndex := 164, descriptorIndex := 59, attributes := #[] }, { accessFlags := 26, nameIndex := 166, descriptorIndex := 59, attributes := #[] }, { accessFlags := 18, nameIndex := 14, descriptorIndex := 15, attributes := #[] }, { accessFlags := 2, nameIndex := 18, descriptorIndex := 19, attributes := #[] }, { accessFlags := 2, nameIndex := 58, descriptorIndex := 59, attributes := #[] }, { accessFlags := 2, nameIndex := 43, descriptorIndex := 44, attributes := #[] }, { accessFlags := 18, nameIndex := 26, descriptorIndex := 19, attributes := #[] }])
  fields := #[{ name := "FIRST_BLOCK", type := .int, accessFlags := 26, slot := 0, constantValue := 0 }, { name := "LARGEST_BLOCK", type := .int, accessFlags := 26, slot := 1, constantValue := 0 }, { name := "UNPAIRED", type := .byte, accessFlags := 26, slot := 2, constantValue := 0 }, { name := "PLAIN_PAST_DECIMALS", type := .int, accessFlags := 26, slot := 3, constantValue := 0 }, { name := "MOST_PLAIN_DECIMALS", type := .int, accessFlags := 26, slot := 4, constantValue := 0 }, { name := "full", type := (.object "java/util/List"), accessFlags := 18, slot := 0, constantValue := 0 }, { name := "block", type := (.array .byte), accessFlags := 2, slot := 1, constantValue := 0 }, { name := "used", type := .int, accessFlags := 2, slot := 2, constantValue := 0 }, { name := "highSurrogate", type := .char, accessFlags := 2, slot := 3, constantValue := 0 }, { name := "plain", type := (.array .byte), accessFlags := 18, slot := 4, constantValue := 0 }]
  methods := #[k3m0, k3m1]
  instanceTypes := #[(.object "java/util/List"), (.array .byte), .int, .char, (.array .byte)]
  staticTypes := #[.int, .int, .byte, .int, .int]
  resolved := Array.replicate 186 none
  statics := none }

def pool4 : Array CpInfo := pool [(1, .class_ 2), (0, u "java/lang/Math"), (1, .class_ 6), (1, u "java/lang/Object"), (0, u "<init>"), (0, u "()V"), (89, .class_ 100), (1, u "java/lang/Math$RandomNumberGeneratorHolder"), (23, u "abs"), (0, u "(J)J"), (46, u "negativeZeroFloatBits"), (0, u "J"), (2, u "negativeZeroDoubleBits"), (68, u "$assertionsDisabled"), (0, u "Z"), (91, u "twoToTheDoubleScaleDown"), (0, u "D"), (4, u "twoToTheDoubleScaleUp"), (9, u "E"), (3, u "PI"), (2, u "TAU"), (2, u "DEGREES_TO_RADIANS"), (0, u "RADIANS_TO_DEGREES")] 94

def k4m0 : Method := { name := "<init>", desc := "()V", sig := { parameters := [], returnType := none }, accessFlags := 2, code := none }
def k4c1 : Code := { maxStack := 4, maxLocals := 2, code := jdk_29_method_61_code, exceptionTable := #[], attributes := #[] }
def k4m1 : Method := { name := "abs", desc := "(J)J", sig := { parameters := [.long], returnType := some .long }, accessFlags := 9, code := some k4c1 }
/-- java/lang/Math -/
def k4 : Class := { plain "java/lang/Math" (some 0) with
  accessFlags := 49
  interfaces := #[]
  cf := some (fileOf pool4 1 #[.nestMembers #[98]] #[{ accessFlags := 2, nameIndex := 7, descriptorIndex := 8, attributes := #[] }, { accessFlags := 9, nameIndex := 124, descriptorIndex := 125, attributes := #[] }] 49 4 #[] #[{ accessFlags := 25, nameIndex := 354, descriptorIndex := 339, attributes := #[] }, { accessFlags := 25, nameIndex := 358, descriptorIndex := 339, attributes := #[] }, { accessFlags := 25, nameIndex := 361, descriptorIndex := 339, attributes := #[] }, { accessFlags := 26, nameIndex := 364, descriptorIndex := 339, attributes := #[] }, { accessFlags := 26, nameIndex := 365, descriptorIndex := 339, attributes := #[] }, { accessFlags := 26, nameIndex := 172, descriptorIndex := 173, attributes := #[] }, { accessFlags := 26, nameIndex := 176, descriptorIndex := 173, attributes := #[] }, { accessFlags := 8, nameIndex := 344, descriptorIndex := 339, attributes := #[] }, { accessFlags := 8, nameIndex := 338, descriptorIndex := 339, attributes := #[] }, { accessFlags := 4120, nameIndex := 245, descriptorIndex := 246, attributes := #[] }])
  fields := #[{ name := "E", type := .double, accessFlags := 25, slot := 0, constantValue := 0 }, { name := "PI", type := .double, accessFlags := 25, slot := 1, constantValue := 0 }, { name := "TAU", type := .double, accessFlags := 25, slot := 2, constantValue := 0 }, { name := "DEGREES_TO_RADIANS", type := .double, accessFlags := 26, slot := 3, constantValue := 0 }, { name := "RADIANS_TO_DEGREES", type := .double, accessFlags := 26, slot := 4, constantValue := 0 }, { name := "negativeZeroFloatBits", type := .long, accessFlags := 26, slot := 5, constantValue := 0 }, { name := "negativeZeroDoubleBits", type := .long, accessFlags := 26, slot := 6, constantValue := 0 }, { name := "twoToTheDoubleScaleUp", type := .double, accessFlags := 8, slot := 7, constantValue := 0 }, { name := "twoToTheDoubleScaleDown", type := .double, accessFlags := 8, slot := 8, constantValue := 0 }, { name := "$assertionsDisabled", type := .boolean, accessFlags := 4120, slot := 9, constantValue := 0 }]
  methods := #[k4m0, k4m1]
  instanceTypes := #[]
  staticTypes := #[.double, .double, .double, .double, .double, .long, .long, .double, .double, .boolean]
  resolved := Array.replicate 460 none
  statics := none }

def pool5 : Array CpInfo := pool [(1, u "java/lang/Cloneable"), (0, .class_ 1), (0, u "java/lang/Object"), (0, .class_ 3)] 3

/-- java/lang/Cloneable -/
def k5 : Class := { plain "java/lang/Cloneable" (some 0) with
  accessFlags := 1537
  interfaces := #[]
  cf := some (fileOf pool5 2 #[] #[] 1537 4 #[] #[])
  fields := #[]
  methods := #[]
  instanceTypes := #[]
  staticTypes := #[]
  resolved := Array.replicate 8 none
  statics := none }

def pool6 : Array CpInfo := pool [(1, u "java/io/Serializable"), (0, .class_ 1), (0, u "java/lang/Object"), (0, .class_ 3)] 3

/-- java/io/Serializable -/
def k6 : Class := { plain "java/io/Serializable" (some 0) with
  accessFlags := 1537
  interfaces := #[]
  cf := some (fileOf pool6 2 #[] #[] 1537 4 #[] #[])
  fields := #[]
  methods := #[]
  instanceTypes := #[]
  staticTypes := #[]
  resolved := Array.replicate 8 none
  statics := none }

/-- the primitive byte -/
def k7 : Class := { plain "byte" none with kind := .primitive 'B', accessFlags := 0x411 }
/-- [B -/
def k8 : Class := { plain "[B" (some 0) with kind := .array 7 .byte, interfaces := #[5, 6], accessFlags := 1041 }

/-- the primitive int -/
def k9 : Class := { plain "int" none with kind := .primitive 'I', accessFlags := 0x411 }
/-- [I -/
def k10 : Class := { plain "[I" (some 0) with kind := .array 9 .int, interfaces := #[5, 6], accessFlags := 1041 }

/-- the primitive long -/
def k11 : Class := { plain "long" none with kind := .primitive 'J', accessFlags := 0x411 }
/-- [J -/
def k12 : Class := { plain "[J" (some 0) with kind := .array 11 .long, interfaces := #[5, 6], accessFlags := 1041 }

def heap : Heap := #[]
def classes : Array Class := #[k0, k1, k2, k3, k4, k5, k6, k7, k8, k9, k10, k11, k12]
def interned : List (Array UInt16 × Addr) := []
def slotsUsed : Nat := 0
def theMethod : MethodId := ⟨1, 1⟩
def args0 : Array Value := #[.long 5, .int 2, .int 1, .int 7]
def aboutOver (below : List Frame) : State where
  vm := { classes := classes, interned := interned.toArray }
  heap := heap
  slotsUsed := slotsUsed
  threads := #[{ frames := .invoking theMethod args0 :: below }]
def below0 : List Frame := [.native { method := ⟨0, 0⟩, args := #[] }]
def about1 : State := aboutOver below0
def p0 : Program := .bare "" "" ""
def e0 : Env := launch0.env 0 0 0
theorem w_frames : about1.frames = Frame.invoking theMethod args0 :: below0 := rfl
set_option maxRecDepth 65536 in
theorem w_args : argsFit about1.vm theMethod args0 = true := by decide +kernel
set_option maxRecDepth 65536 in
theorem w_heap : heapFits about1 = true := by decide +kernel
set_option maxRecDepth 65536 in
theorem w_runnable : about1.curStatus? = some .runnable := by decide +kernel
set_option maxRecDepth 65536 in
theorem w_alone : about1.alone = true := by decide +kernel
set_option maxRecDepth 65536 in
theorem w_named : about1.methodNamed? x = some theMethod := by decide +kernel
set_option maxRecDepth 65536 in
theorem w_hears : about1.hears theMethod below0 = true := by decide +kernel
set_option maxRecDepth 65536 in
theorem w_ripe : about1.ripe theMethod args0 below0 = true := by decide +kernel
theorem w_running : about1.status = .running := rfl
set_option maxRecDepth 65536 in
theorem w_room : about1.hasRoom e0.platform room_1 = true :=
  launch0.hasRoom_least _ room_1 (by decide +kernel) (by decide +kernel) (by decide +kernel) (by decide +kernel) (by decide +kernel) (by decide +kernel)
theorem allAtoms_all (ts : List Jvm.Cond) (a : Array Jvm.Value) (st : Jvm.State) : (allAtoms ts).before a st = ts.all (fun c => c.before a st) := by
  induction ts with
  | nil => rfl
  | cons c t ih =>
    show (Jvm.Cond.and c (allAtoms t)).before a st = _
    rw [Jvm.Cond.before_and, ih, List.all_cons]
def words1 : List Jvm.Cond := Jvm.Cond.code x code maxLocals ret :: tables_1
/-- a 'code' word, met by the world's own term for the bytes: nothing is compared byte by byte -/
theorem code_word {y : MethodName} {bytes : ByteArray} {mx : Nat} {rt : Option FieldType} {a : Array Value} {s : State} {m : MethodId} {meth : Method} {c : Code} (h1 : s.methodNamed? y = some m) (h2 : s.vm.method? m = some meth) (h3 : meth.code = some c) (h4 : c.code = bytes)
    (h5 : (c.maxLocals == mx && c.exceptionTable.isEmpty && decide (c.maxStack ≤ mostOperands) && decide (meth.sig.returnType = rt) && !meth.locks && decide (parseMethodDescriptor y.desc = some meth.sig)) = true) : (Jvm.Cond.code y bytes mx rt).before a s = true := by
  simp only [Bool.and_eq_true, beq_iff_eq, Bool.not_eq_true', decide_eq_true_eq] at h5
  obtain ⟨⟨⟨⟨⟨g1, g2⟩, g3⟩, g4⟩, g5⟩, g6⟩ := h5
  simp [Cond.before, Cond.holds, Cond.value, h1, h2, h3, h4, g1, g2, g3, g4, g5, g6]
def isCode : Jvm.Cond → Bool
  | .code _ _ _ _ => true
  | _ => false
theorem all_split {L : List Jvm.Cond} {P : Jvm.Cond → Bool} (h1 : L.all (fun c => isCode c || P c) = true) (h2 : ∀ c ∈ L.filter isCode, P c = true) : L.all P = true := by
  refine List.all_eq_true.mpr fun c hc => ?_
  have h := List.all_eq_true.mp h1 c hc
  rcases Bool.eq_false_or_eq_true (isCode c) with hi | hi
  · exact h2 c (List.mem_filter.mpr ⟨hc, hi⟩)
  · simpa [hi] using h
set_option maxRecDepth 65536 in
theorem w_c0 : (Jvm.Cond.code x code maxLocals ret).before args0 about1 = true := code_word (m := ⟨1, 1⟩) (meth := k1m1) (c := k1c1) (by decide +kernel) rfl rfl rfl (by decide +kernel)
set_option maxRecDepth 65536 in
theorem w_c1 : (Jvm.Cond.code ({ cls := "com/example/firmline/firmline/TextBuffer", name := "plain", desc := "(JI[BI)I" } : Jvm.MethodName) prog_17_method_8_code (9 : Nat) (Option.some Jvm.ClassFile.FieldType.int)).before args0 about1 = true := code_word (m := ⟨3, 1⟩) (meth := k3m1) (c := k3c1) (by decide +kernel) rfl rfl rfl (by decide +kernel)
set_option maxRecDepth 65536 in
theorem w_c2 : (Jvm.Cond.code ({ cls := "java/lang/Math", name := "abs", desc := "(J)J" } : Jvm.MethodName) jdk_29_method_61_code (2 : Nat) (Option.some Jvm.ClassFile.FieldType.long)).before args0 about1 = true := code_word (m := ⟨4, 1⟩) (meth := k4m1) (c := k4c1) (by decide +kernel) rfl rfl rfl (by decide +kernel)
set_option maxRecDepth 65536 in
theorem w_c3 : (Jvm.Cond.code ({ cls := "com/example/firmline/firmline/TextBufferPlainPinLaw", name := "pow10", desc := "(I)J" } : Jvm.MethodName) method_5_code (2 : Nat) (Option.some Jvm.ClassFile.FieldType.long)).before args0 about1 = true := code_word (m := ⟨1, 4⟩) (meth := k1m4) (c := k1c4) (by decide +kernel) rfl rfl rfl (by decide +kernel)
set_option maxRecDepth 65536 in
theorem w_c4 : (Jvm.Cond.code ({ cls := "com/example/firmline/firmline/TextBufferPlainPinLaw", name := "expected", desc := "(IIIJII)I" } : Jvm.MethodName) method_3_code (8 : Nat) (Option.some Jvm.ClassFile.FieldType.int)).before args0 about1 = true := code_word (m := ⟨1, 2⟩) (meth := k1m2) (c := k1c2) (by decide +kernel) rfl rfl rfl (by decide +kernel)
set_option maxRecDepth 65536 in
theorem w_c5 : (Jvm.Cond.code ({ cls := "com/example/firmline/firmline/TextBufferPlainPinLaw", name := "digit", desc := "(JI)I" } : Jvm.MethodName) method_4_code (3 : Nat) (Option.some Jvm.ClassFile.FieldType.int)).before args0 about1 = true := code_word (m := ⟨1, 3⟩) (meth := k1m3) (c := k1c3) (by decide +kernel) rfl rfl rfl (by decide +kernel)
def codes1 : List Jvm.Cond := [Jvm.Cond.code x code maxLocals ret, Jvm.Cond.code ({ cls := "com/example/firmline/firmline/TextBuffer", name := "plain", desc := "(JI[BI)I" } : Jvm.MethodName) prog_17_method_8_code (9 : Nat) (Option.some Jvm.ClassFile.FieldType.int), Jvm.Cond.code ({ cls := "java/lang/Math", name := "abs", desc := "(J)J" } : Jvm.MethodName) jdk_29_method_61_code (2 : Nat) (Option.some Jvm.ClassFile.FieldType.long), Jvm.Cond.code ({ cls := "com/example/firmline/firmline/TextBufferPlainPinLaw", name := "pow10", desc := "(I)J" } : Jvm.MethodName) method_5_code (2 : Nat) (Option.some Jvm.ClassFile.FieldType.long), Jvm.Cond.code ({ cls := "com/example/firmline/firmline/TextBufferPlainPinLaw", name := "expected", desc := "(IIIJII)I" } : Jvm.MethodName) method_3_code (8 : Nat) (Option.some Jvm.ClassFile.FieldType.int), Jvm.Cond.code ({ cls := "com/example/firmline/firmline/TextBufferPlainPinLaw", name := "digit", desc := "(JI)I" } : Jvm.MethodName) method_4_code (3 : Nat) (Option.some Jvm.ClassFile.FieldType.int)]
set_option maxRecDepth 65536 in
theorem codes_eq : words1.filter isCode = codes1 := rfl
theorem w_codes : ∀ c ∈ words1.filter isCode, c.before args0 about1 = true := by
  rw [codes_eq]
  intro c hc
  simp only [codes1, List.mem_cons, List.not_mem_nil, or_false] at hc
  rcases hc with rfl | rfl | rfl | rfl | rfl | rfl
  · exact w_c0
  · exact w_c1
  · exact w_c2
  · exact w_c3
  · exact w_c4
  · exact w_c5
set_option maxRecDepth 65536 in
theorem w_t1 : (words1.take 24).all (fun c => isCode c || c.before args0 about1) = true := by decide +kernel
set_option maxRecDepth 65536 in
theorem w_t2 : (words1.drop 24).all (fun c => isCode c || c.before args0 about1) = true := by decide +kernel
theorem w_tables : (allAtoms (Jvm.Cond.code x code maxLocals ret :: tables_1)).before args0 about1 = true := by
  rw [allAtoms_all]
  show words1.all (fun c => c.before args0 about1) = true
  refine all_split ?_ w_codes
  rw [← List.take_append_drop 24 words1, List.all_append, w_t1, w_t2]
  rfl
set_option maxRecDepth 65536 in
theorem w_case : (Jvm.Cond.and given_1 narrow_1).before args0 about1 = true := by decide +kernel
theorem w_applies : (headSpec (Jvm.Cond.code x code maxLocals ret :: tables_1) room_1).applies x e0.platform about1 = true :=
  (Spec.applies_iff w_frames).mpr ⟨w_running, w_runnable, w_alone, w_named, w_hears, w_ripe, w_room, w_tables⟩
theorem atStart : AtStart classFile x code maxLocals ret World_1 tables_1 room_1 Calls_1 rest_1 Pre_1 launch0 p0 e0 about1 theMethod args0 below0 :=
  ⟨lists_1, trivial, launch0.admits_env _ _ _, launch0.least_env, fairChoices_fair.cas, fairChoices_fair.clock, w_frames, w_args, w_heap, w_applies, trivial, trivial, w_case⟩
end start1
theorem witness_1 : WitnessClaimed_1 := ⟨start1.p0, start1.e0, start1.about1, start1.theMethod, start1.args0, start1.below0, start1.atStart⟩
end Jvm.Pilot.@@N@@
