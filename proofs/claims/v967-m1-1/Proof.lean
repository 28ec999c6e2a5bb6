import JvmDerived
import JvmDerived.Pilot.@@N@@Statement
import JvmDerived.Pilot.@@N@@Code
set_option linter.unusedVariables false
set_option linter.unusedSimpArgs false
@@BLOCK:NumsL.lean.txt@@
namespace Jvm.RoadKit
open Sem ClassFile Op Lib Jvm.Stand Jvm.Free Jvm.LawKit
section OwnKit
variable {p : Program} {l : Launch} {e : Env} {R : Room} {s : State} {m : MethodId} {args : Array Value} {below : List Frame} {meth : Method} {c : Code} {Z : State} {y : MethodName} {bytes : ByteArray} {ml : Nat} {ret : Option FieldType} {n0 : Nat} {T : State} {h : Heap} {cells slots : Nat} {E : State → Prop} {pc : Nat} {Ls : Array Slot} {st rest : List Value} {a0 : Array Value}
/-- from here the run comes to an end of which E holds -/
def Go (p : Program) (e : Env) (below : List Frame) (E : State → Prop) (m : MethodId) (T : State) (pc : Nat) (Ls : Array Slot) (st : List Value) : Prop := ∃ u, Steps p.tables e below (T.setTop (mkF m pc Ls st)) u ∧ E u
/-- where a walk stands: the library's Stand, what was written is new, the heap, and what is known of the body -/
def SD (p : Program) (l : Launch) (e : Env) (R : Room) (s : State) (m : MethodId) (args : Array Value) (below : List Frame) (meth : Method) (c : Code) (Z : State) (y : MethodName) (bytes : ByteArray) (ml : Nat) (ret : Option FieldType) (n0 : Nat) (T : State) (h : Heap) (cells slots : Nat) : Prop :=
  (∃ locs, Stand p l e R s m args below meth c T locs cells slots ∧ Fr n0 locs) ∧ T.heap = h ∧ p.tables.exec = Jvm.exec ∧ Z.Warmed39 s.vm ∧ s.vm.findClass y.cls = some m.cls ∧ c.code = bytes ∧ c.maxLocals = ml ∧ meth.sig.returnType = ret ∧ meth.locks = false ∧ meth.name = y.name
/-- the end of a body that returns -/
def EndQ (s : State) (below : List Frame) (Q : Option Value → Heap → List Loc → Prop) (k n : Nat) (u : State) : Prop := ∃ o, u.status = .running ∧ Ended u below o ∧ ∃ v L, o = .returned v ∧ Q v u.heap L ∧ FrameEnd s o u L k n
theorem go_cut {A G : Prop} (h1 : A → G) (h2 : A) : G := h1 h2
theorem go_by {T' : State} {pc' : Nat} {Ls' : Array Slot} {st' : List Value} (k : ∀ u, Steps p.tables e below (T'.setTop (mkF m pc' Ls' st')) u → Steps p.tables e below (T.setTop (mkF m pc Ls st)) u) (g : Go p e below E m T' pc' Ls' st') : Go p e below E m T pc Ls st := by
  obtain ⟨u, h1, h2⟩ := g
  exact ⟨u, k u h1, h2⟩
theorem met_of {ws : List Cond} {rm : Room} {as : Array Value} {Q : Option Value → Heap → List Loc → Prop} {k n : Nat} (hn : plainFor y = true) (hef : ∀ m, entryFrame m as ml = mkF m 0 Ls [])
    (body : ∀ p e s m below meth c T E, E = EndQ s below Q k n → SD p l e rm s m as below meth c Z y bytes ml ret n0 T h 0 0 → Go p e below E m T 0 Ls []) :
    MetFree l y (head1 (Cond.code y bytes ml ret :: ws) rm) (fun a U => a = as ∧ Z.Warmed39 U.vm ∧ U.heap = h) (fun _ _ _ _ _ => True) (fun _ U o U' => ∃ v L, o = .returned v ∧ Q v U'.heap L ∧ FrameEnd U o U' L k n) := by
  refine MetFree.of_bodySF hn hisR ?_
  intro p e s m args below meth c s₁ Bd hml0 hP hK
  obtain ⟨rfl, hZ, hh⟩ := hP
  obtain ⟨u, h1, o, h2, h3, h4⟩ := body p e s m below meth c s₁ _ rfl ⟨⟨[], Stand.of_body Bd, Fr.nil n0⟩, by rw [← hh, Bd.state]; rfl, Bd.exec, hZ, findClass_of_methodNamed Bd.named, Bd.bytes, hml0, Bd.returns, Bd.notSynchronized, (name_of_methodNamed Bd.named Bd.method).1⟩
  exact ⟨u, o, castTop (hef m) h1, h2, h3, h4⟩
/-! ### returns -/
theorem go_end {Q : Option Value → Heap → List Loc → Prop} {kc ks : Nat} {v : Option Value} (X : SD p l e R s m args below meth c Z y bytes ml ret n0 T h cells slots) (hE : E = EndQ s below Q kc ks) (hv : meth.sig.returnType = none → v = none)
    (hstep : ∀ fs, (∀ (f : JFrame) (acts : List Action), f.method = m → f.locked = none → f.entered = [] → (doReturn e (T.setTop f) acts v).1 = T.setFrames fs) → Steps p.tables e below (T.setTop (mkF m pc Ls st)) (T.setFrames fs))
    (hQ : ∀ L, Fr n0 L → Q v h L) (hc : cells ≤ kc) (hs : slots ≤ ks) : Go p e below E m T pc Ls st := by
  subst hE
  obtain ⟨⟨locs, X, N⟩, hh, hx, hZ, hown, hby, hml, hret, hlk, hnm⟩ := X
  obtain ⟨fs, hr, hrun, hended, hW, hsame⟩ := X.leave (v := v) hv hlk
  refine ⟨_, hstep fs hr, _, hrun, hended, _, _, rfl, ?_, ⟨_, rfl⟩, hW, hsame.mono hc hs⟩
  show Q v T.heap _
  rw [hh]
  exact hQ _ N
theorem go_retI {Q : Option Value → Heap → List Loc → Prop} {kc ks : Nat} {z : Int32} (X : SD p l e R s m args below meth c Z y bytes ml (some .int) n0 T h cells slots) (hE : E = EndQ s below Q kc ks) (hd : decode bytes pc = .ok (.ireturn, 1))
    (hQ : ∀ L, Fr n0 L → Q (some (.int z)) h L) (hc : cells ≤ kc) (hs : slots ≤ ks) : Go p e below E m T pc Ls (.int z :: st) := by
  have X' := X
  obtain ⟨⟨locs, X, N⟩, hh, hx, hZ, hown, hby, hml, hret, hlk, hnm⟩ := X
  refine go_end X' hE (fun q => by rw [hret] at q; cases q) (fun fs hl => ?_) hQ hc hs
  have hm' : T.vm.method? m = some meth := X.method'
  have hn : narrow .int (.int z) = .int z := rfl
  have hd' := hb hby hd
  show Steps p.tables e below (T.setTop { method := m, pc := pc, locals := Ls, stack := _ :: st, locked := none }) _
  jvm_step X.here [X.here.top, hx, hd', hm', hret, hn]
  first | (intro acts; rw [hl _ acts rfl rfl rfl]) | rw [hl _ _ rfl rfl rfl]
  exact Steps.refl _
theorem go_retN {Q : Option Value → Heap → List Loc → Prop} {kc ks : Nat} {z : Int32} {t : FieldType} (X : SD p l e R s m args below meth c Z y bytes ml (some t) n0 T h cells slots) (hE : E = EndQ s below Q kc ks) (ht : t = .boolean ∨ t = .byte ∨ t = .char ∨ t = .short) (hd : decode bytes pc = .ok (.ireturn, 1))
    (hQ : ∀ L, Fr n0 L → Q (some (.int (nar t z))) h L) (hc : cells ≤ kc) (hs : slots ≤ ks) : Go p e below E m T pc Ls (.int z :: st) := by
  have X' := X
  obtain ⟨⟨locs, X, N⟩, hh, hx, hZ, hown, hby, hml, hret, hlk, hnm⟩ := X
  exact go_end X' hE (fun q => by rw [hret] at q; cases q) (fun fs hl => retN X hx hret ht (hb hby hd) hl) hQ hc hs
theorem go_retL {Q : Option Value → Heap → List Loc → Prop} {kc ks : Nat} {z : Int64} (X : SD p l e R s m args below meth c Z y bytes ml (some .long) n0 T h cells slots) (hE : E = EndQ s below Q kc ks) (hd : decode bytes pc = .ok (.lreturn, 1))
    (hQ : ∀ L, Fr n0 L → Q (some (.long z)) h L) (hc : cells ≤ kc) (hs : slots ≤ ks) : Go p e below E m T pc Ls (.long z :: st) := by
  have X' := X
  obtain ⟨⟨locs, X, N⟩, hh, hx, hZ, hown, hby, hml, hret, hlk, hnm⟩ := X
  exact go_end X' hE (fun q => by rw [hret] at q; cases q) (fun fs hl => retOut X hx hret rfl (Or.inr (Or.inl ⟨rfl, rfl, _, rfl⟩)) (hb hby hd) hl) hQ hc hs
theorem go_retA {Q : Option Value → Heap → List Loc → Prop} {kc ks : Nat} {w : Value} {t : FieldType} (X : SD p l e R s m args below meth c Z y bytes ml (some t) n0 T h cells slots) (hE : E = EndQ s below Q kc ks) (ht : t.isReference = true) (hw : w.isRef = true) (hd : decode bytes pc = .ok (.areturn, 1))
    (hQ : ∀ L, Fr n0 L → Q (some w) h L) (hc : cells ≤ kc) (hs : slots ≤ ks) : Go p e below E m T pc Ls (w :: st) := by
  have X' := X
  obtain ⟨⟨locs, X, N⟩, hh, hx, hZ, hown, hby, hml, hret, hlk, hnm⟩ := X
  refine go_end X' hE (fun q => by rw [hret] at q; cases q) (fun fs hl => retOut X hx hret ?_ (Or.inr (Or.inr (Or.inr (Or.inr ⟨rfl, ht, hw⟩)))) (hb hby hd) hl) hQ hc hs
  rcases ref_cases hw with rfl | ⟨a, rfl⟩ <;> (cases t <;> first | rfl | (simp [FieldType.isReference] at ht))
theorem go_retV {Q : Option Value → Heap → List Loc → Prop} {kc ks : Nat} (X : SD p l e R s m args below meth c Z y bytes ml none n0 T h cells slots) (hE : E = EndQ s below Q kc ks) (hd : decode bytes pc = .ok (.return_, 1))
    (hQ : ∀ L, Fr n0 L → Q none h L) (hc : cells ≤ kc) (hs : slots ≤ ks) : Go p e below E m T pc Ls [] := by
  have X' := X
  obtain ⟨⟨locs, X, N⟩, hh, hx, hZ, hown, hby, hml, hret, hlk, hnm⟩ := X
  exact go_end X' hE (fun _ => rfl) (fun fs hl => X.returnOut hx hret (hb hby hd) hl) hQ hc hs
/-! ### plain steps -/
theorem go_nmI {t : Int32} (k : ∀ z, z = t → Go p e below E m T pc Ls (.int z :: st)) : Go p e below E m T pc Ls (.int t :: st) := k t rfl
theorem go_nmL {t : Int64} (k : ∀ z, z = t → Go p e below E m T pc Ls (.long z :: st)) : Go p e below E m T pc Ls (.long t :: st) := k t rfl
theorem go_nmR {t : Addr} (k : ∀ z, z = t → Go p e below E m T pc Ls (.ref z :: st)) : Go p e below E m T pc Ls (.ref t :: st) := k t rfl
theorem go_eqI {t t' : Int32} (q : t = t') (k : Go p e below E m T pc Ls (.int t' :: st)) : Go p e below E m T pc Ls (.int t :: st) := q ▸ k
theorem go_eqL {t t' : Int64} (q : t = t') (k : Go p e below E m T pc Ls (.long t' :: st)) : Go p e below E m T pc Ls (.long t :: st) := q ▸ k
theorem go_iconst (X : SD p l e R s m args below meth c Z y bytes ml ret n0 T h cells slots) {i : Int} (z : Int32) (hd : decode bytes pc = .ok (.iconst i, 1)) (hz : Int32.ofInt i = z) (q : Nat) (hq : pc + 1 = q) (k : Go p e below E m T q Ls (.int z :: st)) : Go p e below E m T pc Ls st := by
  obtain ⟨⟨locs, X, N⟩, hh, hx, hZ, hown, hby, -⟩ := X
  subst hz hq
  exact go_by (fun _ r => XS.iconst X.here hx rfl (hb hby hd) r) k
theorem go_bipush (X : SD p l e R s m args below meth c Z y bytes ml ret n0 T h cells slots) {i : Int} (z : Int32) (hd : decode bytes pc = .ok (.bipush i, 2)) (hz : (Int8.ofInt i).toInt32 = z) (q : Nat) (hq : pc + 2 = q) (k : Go p e below E m T q Ls (.int z :: st)) : Go p e below E m T pc Ls st := by
  obtain ⟨⟨locs, X, N⟩, hh, hx, hZ, hown, hby, -⟩ := X
  subst hz hq
  exact go_by (fun _ r => XS.bipush X.here hx rfl (hb hby hd) r) k
theorem go_lconst (X : SD p l e R s m args below meth c Z y bytes ml ret n0 T h cells slots) {i : Fin 2} (z : Int64) (hd : decode bytes pc = .ok (.lconst i, 1)) (hz : Int64.ofNat i = z) (q : Nat) (hq : pc + 1 = q) (k : Go p e below E m T q Ls (.long z :: st)) : Go p e below E m T pc Ls st := by
  obtain ⟨⟨locs, X, N⟩, hh, hx, hZ, hown, hby, -⟩ := X
  subst hz hq
  exact go_by (fun _ r => XS.lconst X.here hx rfl (hb hby hd) r) k
theorem go_null (X : SD p l e R s m args below meth c Z y bytes ml ret n0 T h cells slots) (hd : decode bytes pc = .ok (.aconst_null, 1)) (q : Nat) (hq : pc + 1 = q) (k : Go p e below E m T q Ls (.null :: st)) : Go p e below E m T pc Ls st := by
  obtain ⟨⟨locs, X, N⟩, hh, hx, hZ, hown, hby, -⟩ := X
  subst hq
  exact go_by (fun _ r => XS.aconstNull X.here hx rfl (hb hby hd) r) k
theorem go_ldc (X : SD p l e R s m args below meth c Z y bytes ml ret n0 T h cells slots) {i : Nat} {z : Int32} (w : (Cond.constant y.cls i z).before a0 Z = true) (hd : decode bytes pc = .ok (.ldc i, 2)) (q : Nat) (hq : pc + 2 = q) (k : Go p e below E m T q Ls (.int z :: st)) : Go p e below E m T pc Ls st := by
  obtain ⟨⟨locs, X, N⟩, hh, hx, hZ, hown, hby, -⟩ := X
  subst hq
  exact go_by (fun _ r => X.ldcInt hx hown (mvT hZ w) (g := mkF m pc Ls st) rfl (hb hby hd) _ r) k
theorem go_ldc2 (X : SD p l e R s m args below meth c Z y bytes ml ret n0 T h cells slots) {i : Nat} {z : Int64} (w : (Cond.constantLong y.cls i z).before a0 Z = true) (hd : decode bytes pc = .ok (.ldc2_w i, 3)) (q : Nat) (hq : pc + 3 = q) (k : Go p e below E m T q Ls (.long z :: st)) : Go p e below E m T pc Ls st := by
  obtain ⟨⟨locs, X, N⟩, hh, hx, hZ, hown, hby, -⟩ := X
  subst hq
  exact go_by (fun _ r => X.ldc2Long hx hown (mvT hZ w) (g := mkF m pc Ls st) rfl (hb hby hd) _ r) k
theorem go_iloadN (X : SD p l e R s m args below meth c Z y bytes ml ret n0 T h cells slots) {i : Fin 4} {v : Int32} (hd : decode bytes pc = .ok (.iload_n i, 1)) (hl : Ls[i.val]? = some (.val (.int v))) (q : Nat) (hq : pc + 1 = q) (k : Go p e below E m T q Ls (.int v :: st)) : Go p e below E m T pc Ls st := by
  obtain ⟨⟨locs, X, N⟩, hh, hx, hZ, hown, hby, -⟩ := X
  subst hq
  exact go_by (fun _ r => XS.iloadN X.here hx rfl (hb hby hd) hl r) k
theorem go_iload (X : SD p l e R s m args below meth c Z y bytes ml ret n0 T h cells slots) {i : Nat} {v : Int32} (hd : decode bytes pc = .ok (.iload i, 2)) (hl : Ls[i]? = some (.val (.int v))) (q : Nat) (hq : pc + 2 = q) (k : Go p e below E m T q Ls (.int v :: st)) : Go p e below E m T pc Ls st := by
  obtain ⟨⟨locs, X, N⟩, hh, hx, hZ, hown, hby, -⟩ := X
  subst hq
  exact go_by (fun _ r => XS.iload X.here hx rfl (hb hby hd) hl r) k
theorem go_lloadN (X : SD p l e R s m args below meth c Z y bytes ml ret n0 T h cells slots) {i : Fin 4} {v : Int64} (hd : decode bytes pc = .ok (.lload_n i, 1)) (hl : Ls[i.val]? = some (.val (.long v))) (q : Nat) (hq : pc + 1 = q) (k : Go p e below E m T q Ls (.long v :: st)) : Go p e below E m T pc Ls st := by
  obtain ⟨⟨locs, X, N⟩, hh, hx, hZ, hown, hby, -⟩ := X
  subst hq
  exact go_by (fun _ r => XS.lloadN X.here hx rfl (hb hby hd) hl r) k
theorem go_lload (X : SD p l e R s m args below meth c Z y bytes ml ret n0 T h cells slots) {i : Nat} {v : Int64} (hd : decode bytes pc = .ok (.lload i, 2)) (hl : Ls[i]? = some (.val (.long v))) (q : Nat) (hq : pc + 2 = q) (k : Go p e below E m T q Ls (.long v :: st)) : Go p e below E m T pc Ls st := by
  obtain ⟨⟨locs, X, N⟩, hh, hx, hZ, hown, hby, -⟩ := X
  subst hq
  exact go_by (fun _ r => XS.lload X.here hx rfl (hb hby hd) hl r) k
theorem go_aloadN (X : SD p l e R s m args below meth c Z y bytes ml ret n0 T h cells slots) {i : Fin 4} {v : Value} (hd : decode bytes pc = .ok (.aload_n i, 1)) (hl : Ls[i.val]? = some (.val v)) (hv : v.isRef = true) (q : Nat) (hq : pc + 1 = q) (k : Go p e below E m T q Ls (v :: st)) : Go p e below E m T pc Ls st := by
  obtain ⟨⟨locs, X, N⟩, hh, hx, hZ, hown, hby, -⟩ := X
  subst hq
  exact go_by (fun _ r => XS.aloadN X.here hx rfl (hb hby hd) hl hv r) k
theorem go_aload (X : SD p l e R s m args below meth c Z y bytes ml ret n0 T h cells slots) {i : Nat} {v : Value} (hd : decode bytes pc = .ok (.aload i, 2)) (hl : Ls[i]? = some (.val v)) (hv : v.isRef = true) (q : Nat) (hq : pc + 2 = q) (k : Go p e below E m T q Ls (v :: st)) : Go p e below E m T pc Ls st := by
  obtain ⟨⟨locs, X, N⟩, hh, hx, hZ, hown, hby, -⟩ := X
  subst hq
  exact go_by (fun _ r => XS.aload X.here hx rfl (hb hby hd) hl hv r) k
theorem go_istoreN (X : SD p l e R s m args below meth c Z y bytes ml ret n0 T h cells slots) {i : Fin 4} {v : Int32} (l' : Array Slot) (hd : decode bytes pc = .ok (.istore_n i, 1)) (hl : storeLocals Ls i.val (.int v) = some l') (q : Nat) (hq : pc + 1 = q) (k : Go p e below E m T q l' st) : Go p e below E m T pc Ls (.int v :: st) := by
  obtain ⟨⟨locs, X, N⟩, hh, hx, hZ, hown, hby, -⟩ := X
  subst hq
  exact go_by (fun _ r => XS.istoreN X.here hx rfl (hb hby hd) rfl hl r) k
theorem go_istore (X : SD p l e R s m args below meth c Z y bytes ml ret n0 T h cells slots) {i : Nat} {v : Int32} (l' : Array Slot) (hd : decode bytes pc = .ok (.istore i, 2)) (hl : storeLocals Ls i (.int v) = some l') (q : Nat) (hq : pc + 2 = q) (k : Go p e below E m T q l' st) : Go p e below E m T pc Ls (.int v :: st) := by
  obtain ⟨⟨locs, X, N⟩, hh, hx, hZ, hown, hby, -⟩ := X
  subst hq
  exact go_by (fun _ r => XS.istore X.here hx rfl (hb hby hd) rfl hl r) k
theorem go_lstoreN (X : SD p l e R s m args below meth c Z y bytes ml ret n0 T h cells slots) {i : Fin 4} {v : Int64} (l' : Array Slot) (hd : decode bytes pc = .ok (.lstore_n i, 1)) (hl : storeLocals Ls i.val (.long v) = some l') (q : Nat) (hq : pc + 1 = q) (k : Go p e below E m T q l' st) : Go p e below E m T pc Ls (.long v :: st) := by
  obtain ⟨⟨locs, X, N⟩, hh, hx, hZ, hown, hby, -⟩ := X
  subst hq
  exact go_by (fun _ r => XS.lstoreN X.here hx rfl (hb hby hd) rfl hl r) k
theorem go_lstore (X : SD p l e R s m args below meth c Z y bytes ml ret n0 T h cells slots) {i : Nat} {v : Int64} (l' : Array Slot) (hd : decode bytes pc = .ok (.lstore i, 2)) (hl : storeLocals Ls i (.long v) = some l') (q : Nat) (hq : pc + 2 = q) (k : Go p e below E m T q l' st) : Go p e below E m T pc Ls (.long v :: st) := by
  obtain ⟨⟨locs, X, N⟩, hh, hx, hZ, hown, hby, -⟩ := X
  subst hq
  exact go_by (fun _ r => XS.lstore X.here hx rfl (hb hby hd) rfl hl r) k
theorem go_astoreN (X : SD p l e R s m args below meth c Z y bytes ml ret n0 T h cells slots) {i : Fin 4} {v : Value} (l' : Array Slot) (hd : decode bytes pc = .ok (.astore_n i, 1)) (hv : v.isRef = true) (hl : storeLocals Ls i.val v = some l') (q : Nat) (hq : pc + 1 = q) (k : Go p e below E m T q l' st) : Go p e below E m T pc Ls (v :: st) := by
  obtain ⟨⟨locs, X, N⟩, hh, hx, hZ, hown, hby, -⟩ := X
  subst hq
  exact go_by (fun _ r => XS.astoreN X.here hx rfl (hb hby hd) rfl hv hl r) k
theorem go_astore (X : SD p l e R s m args below meth c Z y bytes ml ret n0 T h cells slots) {i : Nat} {v : Value} (l' : Array Slot) (hd : decode bytes pc = .ok (.astore i, 2)) (hv : v.isRef = true) (hl : storeLocals Ls i v = some l') (q : Nat) (hq : pc + 2 = q) (k : Go p e below E m T q l' st) : Go p e below E m T pc Ls (v :: st) := by
  obtain ⟨⟨locs, X, N⟩, hh, hx, hZ, hown, hby, -⟩ := X
  subst hq
  exact go_by (fun _ r => XS.astore X.here hx rfl (hb hby hd) rfl hv hl r) k
theorem go_iadd (X : SD p l e R s m args below meth c Z y bytes ml ret n0 T h cells slots) {a : Int32} {b : Int32} (hd : decode bytes pc = .ok (.iadd, 1)) (q : Nat) (hq : pc + 1 = q) (k : Go p e below E m T q Ls (.int (a + b) :: st)) : Go p e below E m T pc Ls (.int b :: .int a :: st) := by
  obtain ⟨⟨locs, X, N⟩, hh, hx, hZ, hown, hby, -⟩ := X
  subst hq
  exact go_by (fun _ r => XS.iadd X.here hx rfl (hb hby hd) rfl r) k
theorem go_isub (X : SD p l e R s m args below meth c Z y bytes ml ret n0 T h cells slots) {a : Int32} {b : Int32} (hd : decode bytes pc = .ok (.isub, 1)) (q : Nat) (hq : pc + 1 = q) (k : Go p e below E m T q Ls (.int (a - b) :: st)) : Go p e below E m T pc Ls (.int b :: .int a :: st) := by
  obtain ⟨⟨locs, X, N⟩, hh, hx, hZ, hown, hby, -⟩ := X
  subst hq
  exact go_by (fun _ r => XS.isub X.here hx rfl (hb hby hd) rfl r) k
theorem go_imul (X : SD p l e R s m args below meth c Z y bytes ml ret n0 T h cells slots) {a : Int32} {b : Int32} (hd : decode bytes pc = .ok (.imul, 1)) (q : Nat) (hq : pc + 1 = q) (k : Go p e below E m T q Ls (.int (a * b) :: st)) : Go p e below E m T pc Ls (.int b :: .int a :: st) := by
  obtain ⟨⟨locs, X, N⟩, hh, hx, hZ, hown, hby, -⟩ := X
  subst hq
  exact go_by (fun _ r => XS.imul X.here hx rfl (hb hby hd) rfl r) k
theorem go_iand (X : SD p l e R s m args below meth c Z y bytes ml ret n0 T h cells slots) {a : Int32} {b : Int32} (hd : decode bytes pc = .ok (.iand, 1)) (q : Nat) (hq : pc + 1 = q) (k : Go p e below E m T q Ls (.int (a &&& b) :: st)) : Go p e below E m T pc Ls (.int b :: .int a :: st) := by
  obtain ⟨⟨locs, X, N⟩, hh, hx, hZ, hown, hby, -⟩ := X
  subst hq
  exact go_by (fun _ r => XS.iand X.here hx rfl (hb hby hd) rfl r) k
theorem go_ior (X : SD p l e R s m args below meth c Z y bytes ml ret n0 T h cells slots) {a : Int32} {b : Int32} (hd : decode bytes pc = .ok (.ior, 1)) (q : Nat) (hq : pc + 1 = q) (k : Go p e below E m T q Ls (.int (a ||| b) :: st)) : Go p e below E m T pc Ls (.int b :: .int a :: st) := by
  obtain ⟨⟨locs, X, N⟩, hh, hx, hZ, hown, hby, -⟩ := X
  subst hq
  exact go_by (fun _ r => XS.ior X.here hx rfl (hb hby hd) rfl r) k
theorem go_ixor (X : SD p l e R s m args below meth c Z y bytes ml ret n0 T h cells slots) {a : Int32} {b : Int32} (hd : decode bytes pc = .ok (.ixor, 1)) (q : Nat) (hq : pc + 1 = q) (k : Go p e below E m T q Ls (.int (a ^^^ b) :: st)) : Go p e below E m T pc Ls (.int b :: .int a :: st) := by
  obtain ⟨⟨locs, X, N⟩, hh, hx, hZ, hown, hby, -⟩ := X
  subst hq
  exact go_by (fun _ r => XS.ixor X.here hx rfl (hb hby hd) rfl r) k
theorem go_ishl (X : SD p l e R s m args below meth c Z y bytes ml ret n0 T h cells slots) {a : Int32} {b : Int32} (hd : decode bytes pc = .ok (.ishl, 1)) (q : Nat) (hq : pc + 1 = q) (k : Go p e below E m T q Ls (.int (a <<< (b &&& 31)) :: st)) : Go p e below E m T pc Ls (.int b :: .int a :: st) := by
  obtain ⟨⟨locs, X, N⟩, hh, hx, hZ, hown, hby, -⟩ := X
  subst hq
  exact go_by (fun _ r => XS.ishl X.here hx rfl (hb hby hd) rfl r) k
theorem go_ishr (X : SD p l e R s m args below meth c Z y bytes ml ret n0 T h cells slots) {a : Int32} {b : Int32} (hd : decode bytes pc = .ok (.ishr, 1)) (q : Nat) (hq : pc + 1 = q) (k : Go p e below E m T q Ls (.int (a >>> (b &&& 31)) :: st)) : Go p e below E m T pc Ls (.int b :: .int a :: st) := by
  obtain ⟨⟨locs, X, N⟩, hh, hx, hZ, hown, hby, -⟩ := X
  subst hq
  exact go_by (fun _ r => XS.ishr X.here hx rfl (hb hby hd) rfl r) k
theorem go_iushr (X : SD p l e R s m args below meth c Z y bytes ml ret n0 T h cells slots) {a : Int32} {b : Int32} (hd : decode bytes pc = .ok (.iushr, 1)) (q : Nat) (hq : pc + 1 = q) (k : Go p e below E m T q Ls (.int (XT.ushr a b) :: st)) : Go p e below E m T pc Ls (.int b :: .int a :: st) := by
  obtain ⟨⟨locs, X, N⟩, hh, hx, hZ, hown, hby, -⟩ := X
  subst hq
  exact go_by (fun _ r => XT.iushr X.here hx rfl (hb hby hd) rfl r) k
theorem go_idiv (X : SD p l e R s m args below meth c Z y bytes ml ret n0 T h cells slots) {a : Int32} {b : Int32} (hd : decode bytes pc = .ok (.idiv, 1)) (hy : b ≠ 0) (q : Nat) (hq : pc + 1 = q) (k : Go p e below E m T q Ls (.int (a / b) :: st)) : Go p e below E m T pc Ls (.int b :: .int a :: st) := by
  obtain ⟨⟨locs, X, N⟩, hh, hx, hZ, hown, hby, -⟩ := X
  subst hq
  exact go_by (fun _ r => XS.idiv X.here hx rfl (hb hby hd) rfl hy r) k
theorem go_ladd (X : SD p l e R s m args below meth c Z y bytes ml ret n0 T h cells slots) {a : Int64} {b : Int64} (hd : decode bytes pc = .ok (.ladd, 1)) (q : Nat) (hq : pc + 1 = q) (k : Go p e below E m T q Ls (.long (a + b) :: st)) : Go p e below E m T pc Ls (.long b :: .long a :: st) := by
  obtain ⟨⟨locs, X, N⟩, hh, hx, hZ, hown, hby, -⟩ := X
  subst hq
  exact go_by (fun _ r => XS.ladd X.here hx rfl (hb hby hd) rfl r) k
theorem go_lsub (X : SD p l e R s m args below meth c Z y bytes ml ret n0 T h cells slots) {a : Int64} {b : Int64} (hd : decode bytes pc = .ok (.lsub, 1)) (q : Nat) (hq : pc + 1 = q) (k : Go p e below E m T q Ls (.long (a - b) :: st)) : Go p e below E m T pc Ls (.long b :: .long a :: st) := by
  obtain ⟨⟨locs, X, N⟩, hh, hx, hZ, hown, hby, -⟩ := X
  subst hq
  exact go_by (fun _ r => XS.lsub X.here hx rfl (hb hby hd) rfl r) k
theorem go_lmul (X : SD p l e R s m args below meth c Z y bytes ml ret n0 T h cells slots) {a : Int64} {b : Int64} (hd : decode bytes pc = .ok (.lmul, 1)) (q : Nat) (hq : pc + 1 = q) (k : Go p e below E m T q Ls (.long (a * b) :: st)) : Go p e below E m T pc Ls (.long b :: .long a :: st) := by
  obtain ⟨⟨locs, X, N⟩, hh, hx, hZ, hown, hby, -⟩ := X
  subst hq
  exact go_by (fun _ r => XS.lmul X.here hx rfl (hb hby hd) rfl r) k
theorem go_land (X : SD p l e R s m args below meth c Z y bytes ml ret n0 T h cells slots) {a : Int64} {b : Int64} (hd : decode bytes pc = .ok (.land, 1)) (q : Nat) (hq : pc + 1 = q) (k : Go p e below E m T q Ls (.long (a &&& b) :: st)) : Go p e below E m T pc Ls (.long b :: .long a :: st) := by
  obtain ⟨⟨locs, X, N⟩, hh, hx, hZ, hown, hby, -⟩ := X
  subst hq
  exact go_by (fun _ r => XS.land X.here hx rfl (hb hby hd) rfl r) k
theorem go_lor (X : SD p l e R s m args below meth c Z y bytes ml ret n0 T h cells slots) {a : Int64} {b : Int64} (hd : decode bytes pc = .ok (.lor, 1)) (q : Nat) (hq : pc + 1 = q) (k : Go p e below E m T q Ls (.long (a ||| b) :: st)) : Go p e below E m T pc Ls (.long b :: .long a :: st) := by
  obtain ⟨⟨locs, X, N⟩, hh, hx, hZ, hown, hby, -⟩ := X
  subst hq
  exact go_by (fun _ r => XS.lor X.here hx rfl (hb hby hd) rfl r) k
theorem go_lxor (X : SD p l e R s m args below meth c Z y bytes ml ret n0 T h cells slots) {a : Int64} {b : Int64} (hd : decode bytes pc = .ok (.lxor, 1)) (q : Nat) (hq : pc + 1 = q) (k : Go p e below E m T q Ls (.long (a ^^^ b) :: st)) : Go p e below E m T pc Ls (.long b :: .long a :: st) := by
  obtain ⟨⟨locs, X, N⟩, hh, hx, hZ, hown, hby, -⟩ := X
  subst hq
  exact go_by (fun _ r => XS.lxor X.here hx rfl (hb hby hd) rfl r) k
theorem go_lshl (X : SD p l e R s m args below meth c Z y bytes ml ret n0 T h cells slots) {a : Int64} {b : Int32} (hd : decode bytes pc = .ok (.lshl, 1)) (q : Nat) (hq : pc + 1 = q) (k : Go p e below E m T q Ls (.long (a <<< (b.toInt64 &&& 63)) :: st)) : Go p e below E m T pc Ls (.int b :: .long a :: st) := by
  obtain ⟨⟨locs, X, N⟩, hh, hx, hZ, hown, hby, -⟩ := X
  subst hq
  exact go_by (fun _ r => XT.lshl X.here hx rfl (hb hby hd) rfl r) k
theorem go_lshr (X : SD p l e R s m args below meth c Z y bytes ml ret n0 T h cells slots) {a : Int64} {b : Int32} (hd : decode bytes pc = .ok (.lshr, 1)) (q : Nat) (hq : pc + 1 = q) (k : Go p e below E m T q Ls (.long (a >>> (b.toInt64 &&& 63)) :: st)) : Go p e below E m T pc Ls (.int b :: .long a :: st) := by
  obtain ⟨⟨locs, X, N⟩, hh, hx, hZ, hown, hby, -⟩ := X
  subst hq
  exact go_by (fun _ r => XT.lshr X.here hx rfl (hb hby hd) rfl r) k
theorem go_lushr (X : SD p l e R s m args below meth c Z y bytes ml ret n0 T h cells slots) {a : Int64} {b : Int32} (hd : decode bytes pc = .ok (.lushr, 1)) (q : Nat) (hq : pc + 1 = q) (k : Go p e below E m T q Ls (.long (XT.ushrL a b) :: st)) : Go p e below E m T pc Ls (.int b :: .long a :: st) := by
  obtain ⟨⟨locs, X, N⟩, hh, hx, hZ, hown, hby, -⟩ := X
  subst hq
  exact go_by (fun _ r => XT.lushr X.here hx rfl (hb hby hd) rfl r) k
theorem go_ldiv (X : SD p l e R s m args below meth c Z y bytes ml ret n0 T h cells slots) {a : Int64} {b : Int64} (hd : decode bytes pc = .ok (.ldiv, 1)) (hy : b ≠ 0) (q : Nat) (hq : pc + 1 = q) (k : Go p e below E m T q Ls (.long (a / b) :: st)) : Go p e below E m T pc Ls (.long b :: .long a :: st) := by
  obtain ⟨⟨locs, X, N⟩, hh, hx, hZ, hown, hby, -⟩ := X
  subst hq
  exact go_by (fun _ r => XS.ldiv X.here hx rfl (hb hby hd) rfl hy r) k
theorem go_irem (X : SD p l e R s m args below meth c Z y bytes ml ret n0 T h cells slots) {a b : Int32} (hd : decode bytes pc = .ok (.irem, 1)) (hy : b ≠ 0) (q : Nat) (hq : pc + 1 = q) (k : Go p e below E m T q Ls (.int (a % b) :: st)) : Go p e below E m T pc Ls (.int b :: .int a :: st) := by
  obtain ⟨⟨locs, X, N⟩, hh, hx, hZ, hown, hby, -⟩ := X
  subst hq
  exact go_by (fun _ r => iremM X hx rfl (hb hby hd) rfl hy r) k
theorem go_lrem (X : SD p l e R s m args below meth c Z y bytes ml ret n0 T h cells slots) {a b : Int64} (hd : decode bytes pc = .ok (.lrem, 1)) (hy : b ≠ 0) (q : Nat) (hq : pc + 1 = q) (k : Go p e below E m T q Ls (.long (a - (a / b) * b) :: st)) : Go p e below E m T pc Ls (.long b :: .long a :: st) := by
  obtain ⟨⟨locs, X, N⟩, hh, hx, hZ, hown, hby, -⟩ := X
  subst hq
  exact go_by (fun _ r => XS.lrem X.here hx rfl (hb hby hd) rfl hy r) k
theorem go_ineg (X : SD p l e R s m args below meth c Z y bytes ml ret n0 T h cells slots) {a : Int32} (hd : decode bytes pc = .ok (.ineg, 1)) (q : Nat) (hq : pc + 1 = q) (k : Go p e below E m T q Ls (.int (-a) :: st)) : Go p e below E m T pc Ls (.int a :: st) := by
  obtain ⟨⟨locs, X, N⟩, hh, hx, hZ, hown, hby, -⟩ := X
  subst hq
  exact go_by (fun _ r => XS.ineg X.here hx rfl (hb hby hd) rfl r) k
theorem go_lneg (X : SD p l e R s m args below meth c Z y bytes ml ret n0 T h cells slots) {a : Int64} (hd : decode bytes pc = .ok (.lneg, 1)) (q : Nat) (hq : pc + 1 = q) (k : Go p e below E m T q Ls (.long (-a) :: st)) : Go p e below E m T pc Ls (.long a :: st) := by
  obtain ⟨⟨locs, X, N⟩, hh, hx, hZ, hown, hby, -⟩ := X
  subst hq
  exact go_by (fun _ r => XS.lneg X.here hx rfl (hb hby hd) rfl r) k
theorem go_i2l (X : SD p l e R s m args below meth c Z y bytes ml ret n0 T h cells slots) {a : Int32} (hd : decode bytes pc = .ok (.i2l, 1)) (q : Nat) (hq : pc + 1 = q) (k : Go p e below E m T q Ls (.long (a.toInt64) :: st)) : Go p e below E m T pc Ls (.int a :: st) := by
  obtain ⟨⟨locs, X, N⟩, hh, hx, hZ, hown, hby, -⟩ := X
  subst hq
  exact go_by (fun _ r => XS.i2l X.here hx rfl (hb hby hd) rfl r) k
theorem go_l2i (X : SD p l e R s m args below meth c Z y bytes ml ret n0 T h cells slots) {a : Int64} (hd : decode bytes pc = .ok (.l2i, 1)) (q : Nat) (hq : pc + 1 = q) (k : Go p e below E m T q Ls (.int (a.toInt32) :: st)) : Go p e below E m T pc Ls (.long a :: st) := by
  obtain ⟨⟨locs, X, N⟩, hh, hx, hZ, hown, hby, -⟩ := X
  subst hq
  exact go_by (fun _ r => XS.l2i X.here hx rfl (hb hby hd) rfl r) k
theorem go_i2b (X : SD p l e R s m args below meth c Z y bytes ml ret n0 T h cells slots) {a : Int32} (hd : decode bytes pc = .ok (.i2b, 1)) (q : Nat) (hq : pc + 1 = q) (k : Go p e below E m T q Ls (.int (a.toInt8.toInt32) :: st)) : Go p e below E m T pc Ls (.int a :: st) := by
  obtain ⟨⟨locs, X, N⟩, hh, hx, hZ, hown, hby, -⟩ := X
  subst hq
  exact go_by (fun _ r => XS.i2b X.here hx rfl (hb hby hd) rfl r) k
theorem go_i2c (X : SD p l e R s m args below meth c Z y bytes ml ret n0 T h cells slots) {a : Int32} (hd : decode bytes pc = .ok (.i2c, 1)) (q : Nat) (hq : pc + 1 = q) (k : Go p e below E m T q Ls (.int (a.toUInt32.toUInt16.toUInt32.toInt32) :: st)) : Go p e below E m T pc Ls (.int a :: st) := by
  obtain ⟨⟨locs, X, N⟩, hh, hx, hZ, hown, hby, -⟩ := X
  subst hq
  exact go_by (fun _ r => XS.i2c X.here hx rfl (hb hby hd) rfl r) k
theorem go_i2s (X : SD p l e R s m args below meth c Z y bytes ml ret n0 T h cells slots) {a : Int32} (hd : decode bytes pc = .ok (.i2s, 1)) (q : Nat) (hq : pc + 1 = q) (k : Go p e below E m T q Ls (.int (a.toInt16.toInt32) :: st)) : Go p e below E m T pc Ls (.int a :: st) := by
  obtain ⟨⟨locs, X, N⟩, hh, hx, hZ, hown, hby, -⟩ := X
  subst hq
  exact go_by (fun _ r => XS.i2s X.here hx rfl (hb hby hd) rfl r) k
theorem go_sipush (X : SD p l e R s m args below meth c Z y bytes ml ret n0 T h cells slots) {i : Int} (z : Int32) (hd : decode bytes pc = .ok (.sipush i, 3)) (hz : (Int16.ofInt i).toInt32 = z) (q : Nat) (hq : pc + 3 = q) (k : Go p e below E m T q Ls (.int z :: st)) : Go p e below E m T pc Ls st := by
  obtain ⟨⟨locs, X, N⟩, hh, hx, hZ, hown, hby, -⟩ := X
  subst hz hq
  exact go_by (fun _ r => XS.sipush X.here hx rfl (hb hby hd) r) k
theorem go_iinc (X : SD p l e R s m args below meth c Z y bytes ml ret n0 T h cells slots) {i : Nat} {j : Int} {v : Int32} (z : Int32) (l' : Array Slot) (hd : decode bytes pc = .ok (.iinc i j, 3)) (hl : Ls[i]? = some (.val (.int v))) (hz : v + Int32.ofInt j = z) (hl' : storeLocals Ls i (.int z) = some l') (q : Nat) (hq : pc + 3 = q) (k : Go p e below E m T q l' st) : Go p e below E m T pc Ls st := by
  obtain ⟨⟨locs, X, N⟩, hh, hx, hZ, hown, hby, -⟩ := X
  subst hz hq
  exact go_by (fun _ r => XS.iinc X.here hx rfl (hb hby hd) hl hl' r) k
theorem go_dup (X : SD p l e R s m args below meth c Z y bytes ml ret n0 T h cells slots) {v : Value} (hd : decode bytes pc = .ok (.dup, 1)) (hv : v.category = 1) (q : Nat) (hq : pc + 1 = q) (k : Go p e below E m T q Ls (v :: v :: st)) : Go p e below E m T pc Ls (v :: st) := by
  obtain ⟨⟨locs, X, N⟩, hh, hx, hZ, hown, hby, -⟩ := X
  subst hq
  exact go_by (fun _ r => XS.dup X.here hx rfl (hb hby hd) rfl hv r) k
theorem go_pop (X : SD p l e R s m args below meth c Z y bytes ml ret n0 T h cells slots) {v : Value} (hd : decode bytes pc = .ok (.pop, 1)) (hv : v.category = 1) (q : Nat) (hq : pc + 1 = q) (k : Go p e below E m T q Ls st) : Go p e below E m T pc Ls (v :: st) := by
  obtain ⟨⟨locs, X, N⟩, hh, hx, hZ, hown, hby, -⟩ := X
  subst hq
  exact go_by (fun _ r => XS.pop X.here hx rfl (hb hby hd) rfl hv r) k
theorem go_goto (X : SD p l e R s m args below meth c Z y bytes ml ret n0 T h cells slots) {o : Int} (q : Nat) (hd : decode bytes pc = .ok (.goto o, 3)) (ho : 0 ≤ (pc : Int) + o) (hp : ((pc : Int) + o).toNat = q) (k : Go p e below E m T q Ls st) : Go p e below E m T pc Ls st := by
  obtain ⟨⟨locs, X, N⟩, hh, hx, hZ, hown, hby, -⟩ := X
  exact go_by (fun _ r => XS.goto X.here hx rfl (pc0 := pc) (pc' := q) rfl (hb hby hd) ho hp r) k
/-! ### forks -/
def icP : ClassFile.Cond → Int32 → Int32 → Prop
  | .eq, a, b => a = b
  | .ne, a, b => ¬ a = b
  | .lt, a, b => a < b
  | .ge, a, b => ¬ a < b
  | .gt, a, b => b < a
  | .le, a, b => ¬ b < a
def lcP : ClassFile.Cond → Int64 → Int64 → Prop
  | .eq, a, b => a = b
  | .ne, a, b => ¬ a = b
  | .lt, a, b => a < b
  | .ge, a, b => ¬ a < b
  | .gt, a, b => b < a
  | .le, a, b => ¬ b < a
theorem ic_holds (cd : ClassFile.Cond) (a b : Int32) : (if_icmp.holds cd a b = true → icP cd a b) ∧ (if_icmp.holds cd a b = false → ¬ icP cd a b) := by
  cases cd <;> simp [if_icmp.holds, icP, Int32.not_lt, Int32.not_le]
theorem lc_holds (cd : ClassFile.Cond) (a b : Int64) : (if_icmp.holds cd (XT.cmpL a b) 0 = true → lcP cd a b) ∧ (if_icmp.holds cd (XT.cmpL a b) 0 = false → ¬ lcP cd a b) := by
  have e : XT.cmpL a b = lcmpW a b := rfl
  rw [e]
  have h1 := lw_lt a b
  have h2 := lw_gt a b
  have h3 := lw_eq a b
  cases cd <;> simp [if_icmp.holds, lcP, Int32.not_lt, Int32.not_le, ← h1, ← h2, ← h3]
theorem go_icmp (X : SD p l e R s m args below meth c Z y bytes ml ret n0 T h cells slots) {cd : ClassFile.Cond} {o : Int} {a b : Int32} (q q' : Nat) (hd : decode bytes pc = .ok (.if_icmp cd o, 3)) (hq : pc + 3 = q) (ho : 0 ≤ (pc : Int) + o) (hp : ((pc : Int) + o).toNat = q') (k1 : icP cd a b → Go p e below E m T q' Ls st) (k2 : ¬ icP cd a b → Go p e below E m T q Ls st) : Go p e below E m T pc Ls (.int b :: .int a :: st) := by
  obtain ⟨⟨locs, X, N⟩, hh, hx, hZ, hown, hby, -⟩ := X
  subst hq
  cases hc : if_icmp.holds cd a b
  · exact go_by (fun _ r => XS.icmpNo X.here hx rfl (hb hby hd) rfl hc r) (k2 ((ic_holds cd a b).2 hc))
  · exact go_by (fun _ r => XS.icmpYes X.here hx rfl (pc0 := pc) (pc' := q') rfl (hb hby hd) rfl hc ho hp r) (k1 ((ic_holds cd a b).1 hc))
theorem go_if (X : SD p l e R s m args below meth c Z y bytes ml ret n0 T h cells slots) {cd : ClassFile.Cond} {o : Int} {a : Int32} (q q' : Nat) (hd : decode bytes pc = .ok (.ifCond cd o, 3)) (hq : pc + 3 = q) (ho : 0 ≤ (pc : Int) + o) (hp : ((pc : Int) + o).toNat = q') (k1 : icP cd a 0 → Go p e below E m T q' Ls st) (k2 : ¬ icP cd a 0 → Go p e below E m T q Ls st) : Go p e below E m T pc Ls (.int a :: st) := by
  obtain ⟨⟨locs, X, N⟩, hh, hx, hZ, hown, hby, -⟩ := X
  subst hq
  cases hc : ifCond.holds cd a
  · exact go_by (fun _ r => XS.ifNo X.here hx rfl (hb hby hd) rfl hc r) (k2 ((ic_holds cd a 0).2 ((if0 cd a).symm.trans hc)))
  · exact go_by (fun _ r => XS.ifYes X.here hx rfl (pc0 := pc) (pc' := q') rfl (hb hby hd) rfl hc ho hp r) (k1 ((ic_holds cd a 0).1 ((if0 cd a).symm.trans hc)))
theorem go_lif (X : SD p l e R s m args below meth c Z y bytes ml ret n0 T h cells slots) {cd : ClassFile.Cond} {o : Int} {a b : Int64} (pc1 q q' : Nat) (hd0 : decode bytes pc = .ok (.lcmp, 1)) (hq0 : pc + 1 = pc1) (hd : decode bytes pc1 = .ok (.ifCond cd o, 3)) (hq : pc1 + 3 = q) (ho : 0 ≤ (pc1 : Int) + o) (hp : ((pc1 : Int) + o).toNat = q') (k1 : lcP cd a b → Go p e below E m T q' Ls st) (k2 : ¬ lcP cd a b → Go p e below E m T q Ls st) : Go p e below E m T pc Ls (.long b :: .long a :: st) := by
  have X' := X
  obtain ⟨⟨locs, X, N⟩, hh, hx, hZ, hown, hby, -⟩ := X
  subst hq0
  refine go_by (fun _ r => XT.lcmp X.here hx rfl (hb hby hd0) rfl r) ?_
  refine go_if X' q q' hd hq ho hp (fun hc => k1 ?_) (fun hc => k2 ?_)
  · have := lc_holds cd a b
    revert hc this
    cases hh : if_icmp.holds cd (XT.cmpL a b) 0
    · exact fun hc _ => absurd hc ((ic_holds cd _ 0).2 hh)
    · exact fun _ t => t.1 rfl
  · have := lc_holds cd a b
    revert hc this
    cases hh : if_icmp.holds cd (XT.cmpL a b) 0
    · exact fun _ t => t.2 rfl
    · exact fun hc _ => absurd ((ic_holds cd _ 0).1 hh) hc
def acP : ACond → Value → Value → Prop
  | .eq, a, b => a = b
  | .ne, a, b => ¬ a = b
theorem go_acmp (X : SD p l e R s m args below meth c Z y bytes ml ret n0 T h cells slots) {cd : ACond} {o : Int} {a b : Value} (q q' : Nat) (hd : decode bytes pc = .ok (.if_acmp cd o, 3)) (ha : a.isRef = true) (hb' : b.isRef = true) (hq : pc + 3 = q) (ho : 0 ≤ (pc : Int) + o) (hp : ((pc : Int) + o).toNat = q') (k1 : acP cd a b → Go p e below E m T q' Ls st) (k2 : ¬ acP cd a b → Go p e below E m T q Ls st) : Go p e below E m T pc Ls (b :: a :: st) := by
  obtain ⟨⟨locs, X, N⟩, hh, hx, hZ, hown, hby, -⟩ := X
  subst hq
  by_cases hc : a = b
  · cases cd
    · exact go_by (fun _ r => Jvm.RoadKit.acmp (g := mkF m pc Ls (b :: a :: st)) X hx rfl ha hb' (pc0 := pc) (pc' := q') (same := true) rfl (hb hby hd) rfl (decide_eq_true hc) ho (by simp [acV, hp]) r) (k1 hc)
    · exact go_by (fun _ r => Jvm.RoadKit.acmp (g := mkF m pc Ls (b :: a :: st)) X hx rfl ha hb' (pc0 := pc) (pc' := pc + 3) (same := true) rfl (hb hby hd) rfl (decide_eq_true hc) ho (by simp [acV]) r) (k2 (fun z => z hc))
  · cases cd
    · exact go_by (fun _ r => Jvm.RoadKit.acmp (g := mkF m pc Ls (b :: a :: st)) X hx rfl ha hb' (pc0 := pc) (pc' := pc + 3) (same := false) rfl (hb hby hd) rfl (decide_eq_false hc) ho (by simp [acV]) r) (k2 hc)
    · exact go_by (fun _ r => Jvm.RoadKit.acmp (g := mkF m pc Ls (b :: a :: st)) X hx rfl ha hb' (pc0 := pc) (pc' := q') (same := false) rfl (hb hby hd) rfl (decide_eq_false hc) ho (by simp [acV, hp]) r) (k1 hc)
theorem go_ifnull (X : SD p l e R s m args below meth c Z y bytes ml ret n0 T h cells slots) {o : Int} {a : Value} (q q' : Nat) (hd : decode bytes pc = .ok (.ifnull o, 3)) (ha : a.isRef = true) (hq : pc + 3 = q) (ho : 0 ≤ (pc : Int) + o) (hp : ((pc : Int) + o).toNat = q') (k1 : a = .null → Go p e below E m T q' Ls st) (k2 : ¬ a = .null → Go p e below E m T q Ls st) : Go p e below E m T pc Ls (a :: st) := by
  obtain ⟨⟨locs, X, N⟩, hh, hx, hZ, hown, hby, -⟩ := X
  subst hq
  rcases ref_cases ha with rfl | ⟨a, rfl⟩
  · exact go_by (fun _ r => XS.ifnullYes X.here hx rfl (pc0 := pc) (pc' := q') rfl (hb hby hd) rfl ho hp r) (k1 rfl)
  · exact go_by (fun _ r => XS.ifnullNo X.here hx rfl (hb hby hd) rfl r) (k2 (fun z => by cases z))
theorem go_ifnonnull (X : SD p l e R s m args below meth c Z y bytes ml ret n0 T h cells slots) {o : Int} {a : Value} (q q' : Nat) (hd : decode bytes pc = .ok (.ifnonnull o, 3)) (ha : a.isRef = true) (hq : pc + 3 = q) (ho : 0 ≤ (pc : Int) + o) (hp : ((pc : Int) + o).toNat = q') (k1 : ¬ a = .null → Go p e below E m T q' Ls st) (k2 : a = .null → Go p e below E m T q Ls st) : Go p e below E m T pc Ls (a :: st) := by
  obtain ⟨⟨locs, X, N⟩, hh, hx, hZ, hown, hby, -⟩ := X
  subst hq
  rcases ref_cases ha with rfl | ⟨a, rfl⟩
  · exact go_by (fun _ r => XS.ifnonnullNo X.here hx rfl (hb hby hd) rfl r) (k2 rfl)
  · exact go_by (fun _ r => XS.ifnonnullYes X.here hx rfl (pc0 := pc) (pc' := q') rfl (hb hby hd) rfl ho hp r) (k1 (fun z => by cases z))
theorem go_ifnullR (X : SD p l e R s m args below meth c Z y bytes ml ret n0 T h cells slots) {o : Int} {a : Addr} (hd : decode bytes pc = .ok (.ifnull o, 3)) (q : Nat) (hq : pc + 3 = q) (k : Go p e below E m T q Ls st) : Go p e below E m T pc Ls (.ref a :: st) := by
  obtain ⟨⟨locs, X, N⟩, hh, hx, hZ, hown, hby, -⟩ := X
  subst hq
  exact go_by (fun _ r => XS.ifnullNo X.here hx rfl (hb hby hd) rfl r) k
theorem go_ifnullN (X : SD p l e R s m args below meth c Z y bytes ml ret n0 T h cells slots) {o : Int} (hd : decode bytes pc = .ok (.ifnull o, 3)) (q : Nat) (ho : 0 ≤ (pc : Int) + o) (hp : ((pc : Int) + o).toNat = q) (k : Go p e below E m T q Ls st) : Go p e below E m T pc Ls (.null :: st) := by
  obtain ⟨⟨locs, X, N⟩, hh, hx, hZ, hown, hby, -⟩ := X
  exact go_by (fun _ r => XS.ifnullYes X.here hx rfl (pc0 := pc) (pc' := q) rfl (hb hby hd) rfl ho hp r) k
theorem go_ifnonnullN (X : SD p l e R s m args below meth c Z y bytes ml ret n0 T h cells slots) {o : Int} (hd : decode bytes pc = .ok (.ifnonnull o, 3)) (q : Nat) (hq : pc + 3 = q) (k : Go p e below E m T q Ls st) : Go p e below E m T pc Ls (.null :: st) := by
  obtain ⟨⟨locs, X, N⟩, hh, hx, hZ, hown, hby, -⟩ := X
  subst hq
  exact go_by (fun _ r => XS.ifnonnullNo X.here hx rfl (hb hby hd) rfl r) k
theorem go_ifnonnullR (X : SD p l e R s m args below meth c Z y bytes ml ret n0 T h cells slots) {o : Int} {a : Addr} (hd : decode bytes pc = .ok (.ifnonnull o, 3)) (q : Nat) (ho : 0 ≤ (pc : Int) + o) (hp : ((pc : Int) + o).toNat = q) (k : Go p e below E m T q Ls st) : Go p e below E m T pc Ls (.ref a :: st) := by
  obtain ⟨⟨locs, X, N⟩, hh, hx, hZ, hown, hby, -⟩ := X
  exact go_by (fun _ r => XS.ifnonnullYes X.here hx rfl (pc0 := pc) (pc' := q) rfl (hb hby hd) rfl ho hp r) k
def raP : ACond → Addr → Addr → Prop
  | .eq, a, b => a = b
  | .ne, a, b => ¬ a = b
theorem go_acmpR (X : SD p l e R s m args below meth c Z y bytes ml ret n0 T h cells slots) {cd : ACond} {o : Int} {a b : Addr} (q q' : Nat) (hd : decode bytes pc = .ok (.if_acmp cd o, 3)) (hq : pc + 3 = q) (ho : 0 ≤ (pc : Int) + o) (hp : ((pc : Int) + o).toNat = q') (k1 : raP cd a b → Go p e below E m T q' Ls st) (k2 : ¬ raP cd a b → Go p e below E m T q Ls st) : Go p e below E m T pc Ls (.ref b :: .ref a :: st) := by
  refine go_acmp X q q' hd rfl rfl hq ho hp (fun z => k1 ?_) (fun z => k2 ?_)
  · cases cd
    · exact Value.ref.inj z
    · exact fun w => z (congrArg Value.ref w)
  · cases cd
    · exact fun w => z (congrArg Value.ref w)
    · exact fun w => z (fun u => w (Value.ref.inj u))
theorem own_cat {v : Value} (q : v.isRef = true) : v.category = 1 := by
  rcases ref_cases q with rfl | ⟨a, rfl⟩ <;> rfl
theorem own_iteR {q : Prop} [Decidable q] {a b : Value} (ha : a.isRef = true) (hb : b.isRef = true) : (if q then a else b).isRef = true := by split <;> assumption
theorem own_catI (x : Int32) : (Value.int x).category = 1 := rfl
theorem own_catJ (x : Int64) : (Value.long x).category = 2 := rfl
theorem own_catR (x : Addr) : (Value.ref x).category = 1 := rfl
theorem go_tsw (X : SD p l e R s m args below meth c Z y bytes ml ret n0 T h cells slots) {dflt low high o : Int} {offs : Array Int} {len : Nat} {i : Int32} (q : Nat) (hd : decode bytes pc = .ok (.tableswitch dflt low high offs, len)) (hin : ¬ (i.toInt < low ∨ i.toInt > high)) (hoff : offs[(i.toInt - low).toNat]? = some o) (ho : 0 ≤ (pc : Int) + o) (hp : ((pc : Int) + o).toNat = q) (k : Go p e below E m T q Ls st) : Go p e below E m T pc Ls (.int i :: st) := by
  obtain ⟨⟨locs, X, N⟩, hh, hx, hZ, hown, hby, -⟩ := X
  exact go_by (fun _ r => XS.tswIn X.here hx rfl (pc0 := pc) (pc' := q) rfl (hb hby hd) rfl hin hoff ho hp r) k
/-! ### fields, statics, arrays, new -/
theorem go_getS (X : SD p l e R s m args below meth c Z y bytes ml ret n0 T h cells slots) {O n d : String} {i : Nat} {v : Value} (w : (Cond.fieldLink y.cls i O n d).before a0 Z = true) (F : Sta Z h O n d v) (hd : decode bytes pc = .ok (.getstatic i, 3)) (q : Nat) (hq : pc + 3 = q)
    (k : ∀ T', SD p l e R s m args below meth c Z y bytes ml ret n0 T' h cells slots → Go p e below E m T' q Ls (v :: st)) : Go p e below E m T pc Ls st := by
  obtain ⟨⟨locs, X, N⟩, hh, hx, hZ, hown, hby, r⟩ := X
  subst hq
  obtain ⟨T', X', e', stp⟩ := getS (host := "") X hx hZ hown w Via.refl hh F (g := mkF m pc Ls st) rfl (hb hby hd)
  exact go_by (fun _ r => stp _ r) (k T' ⟨⟨locs, X', N⟩, e', hx, hZ, hown, hby, r⟩)
theorem go_getF (X : SD p l e R s m args below meth c Z y bytes ml ret n0 T h cells slots) {O n d : String} {i : Nat} {a : Addr} {v : Value} (w : (Cond.fieldLink y.cls i O n d).before a0 Z = true) (F : Fld Z h a O n d v) (hd : decode bytes pc = .ok (.getfield i, 3)) (q : Nat) (hq : pc + 3 = q)
    (k : ∀ T', SD p l e R s m args below meth c Z y bytes ml ret n0 T' h cells slots → Go p e below E m T' q Ls (v :: st)) : Go p e below E m T pc Ls (.ref a :: st) := by
  obtain ⟨⟨locs, X, N⟩, hh, hx, hZ, hown, hby, r⟩ := X
  subst hq
  obtain ⟨T', X', e', stp⟩ := getF (host := "") X hx hZ hown (Or.inl w) Via.refl hh F (g := mkF m pc Ls (.ref a :: st)) rfl rfl (hb hby hd)
  exact go_by (fun _ r => stp _ r) (k T' ⟨⟨locs, X', N⟩, e', hx, hZ, hown, hby, r⟩)
theorem go_putF (X : SD p l e R s m args below meth c Z y bytes ml ret n0 T h cells slots) {O n d C : String} {i kk : Nat} {a : Addr} {v old : Value} {ty : FieldType} (w : (Cond.fieldLink y.cls i O n d).before a0 Z = true) (F : Fld Z h a O n d old) (Ex : Exa Z h a C) (wl : (Cond.lays C O n d).before a0 Z = true ∨ ((Cond.laysFinal C O n d).before a0 Z = true ∧ y.cls = O ∧ y.name = "<init>")) (wi : (Cond.instantiable C kk).before a0 Z = true)
    (hty : parseFieldDescriptor d = some ty) (hn : narrow ty v = v) (hf : fits ty v = true) (ha : n0 ≤ a) (hd : decode bytes pc = .ok (.putfield i, 3)) (q : Nat) (hq : pc + 3 = q)
    (k : ∀ T' h', SD p l e R s m args below meth c Z y bytes ml ret n0 T' h' cells slots → Wr h h' a (slotOf Z O n d) v → Go p e below E m T' q Ls st) : Go p e below E m T pc Ls (v :: .ref a :: st) := by
  obtain ⟨⟨locs, X, N⟩, hh, hx, hZ, hown, hby, hml, hret, hlk, hnm⟩ := X
  subst hq
  obtain ⟨T', h', X', e', W, stp⟩ := putF (host := "") X hx hZ hown (Or.inl w) Via.refl hh F Ex (wl.imp id fun q => ⟨q.1, q.2.1, hnm.trans q.2.2⟩) wi hty hn hf (g := mkF m pc Ls (v :: .ref a :: st)) rfl rfl (hb hby hd)
  exact go_by (fun _ r => stp _ r) (k T' h' ⟨⟨_, X', Fr.snoc X' N ha⟩, e', hx, hZ, hown, hby, hml, hret, hlk, hnm⟩ W)
theorem go_new (X : SD p l e R s m args below meth c Z y bytes ml ret n0 T h cells slots) {C : String} {i nf : Nat} (w : (Cond.classLink y.cls i C).before a0 Z = true) (wi : (Cond.instantiable C nf).before a0 Z = true) (wz : (Cond.initialized C).before a0 Z = true) (hd : decode bytes pc = .ok (.new i, 3)) (hc : cells + 1 ≤ R.cells) (hs : slots + nf ≤ R.slots) (q : Nat) (hq : pc + 3 = q)
    (k : ∀ T' h' a, a = h.size → SD p l e R s m args below meth c Z y bytes ml ret n0 T' h' (cells + 1) (slots + nf) → Ext h h' → Exa Z h' a C → (∀ {O nm d : String} {ty : FieldType}, Laid Z a0 C O nm d → parseFieldDescriptor d = some ty → Fld Z h' a O nm d (defaultValue ty)) → Go p e below E m T' q Ls (.ref a :: st)) : Go p e below E m T pc Ls st := by
  obtain ⟨⟨locs, X, N⟩, hh, hx, hZ, hown, hby, r⟩ := X
  subst hq
  obtain ⟨T', h', X', e', E', A', D', -, stp⟩ := newO X hx hZ hown w wi wz hh (g := mkF m pc Ls st) rfl (hb hby hd) hc hs
  exact go_by (fun _ r => stp _ r) (k T' h' _ rfl ⟨⟨locs, X', N⟩, e', hx, hZ, hown, hby, r⟩ E' A' D')
theorem go_newA (X : SD p l e R s m args below meth c Z y bytes ml ret n0 T h cells slots) {aty : ArrayType} {z : Int32} (cap : Nat) (w : (Cond.arrayClass (newarray.typeOf aty)).before a0 Z = true) (hd : decode bytes pc = .ok (.newarray aty, 2)) (hn : ¬ z < 0) (hcap : z.toNatClampNeg ≤ cap) (hb8 : cap * 8 ≤ 536870912) (hc : cells + 1 ≤ R.cells) (hs : slots + cap ≤ R.slots) (q : Nat) (hq : pc + 2 = q)
    (k : ∀ T' h' a cA, a = h.size → SD p l e R s m args below meth c Z y bytes ml ret n0 T' h' (cells + 1) (slots + cap) → Ext h h' → Arr Z h' a (newA cA (newarray.typeOf aty) z) (newarray.typeOf aty) → Go p e below E m T' q Ls (.ref a :: st)) : Go p e below E m T pc Ls (.int z :: st) := by
  obtain ⟨⟨locs, X, N⟩, hh, hx, hZ, hown, hby, r⟩ := X
  subst hq
  obtain ⟨T', h', cA, X', e', E', A', stp⟩ := newP X hx hZ w hh (g := mkF m pc Ls (.int z :: st)) rfl (hb hby hd) rfl hn hcap hb8 hc hs
  exact go_by (fun _ r => stp _ r) (k T' h' _ cA rfl ⟨⟨locs, X', N⟩, e', hx, hZ, hown, hby, r⟩ E' A')
theorem go_stJ (X : SD p l e R s m args below meth c Z y bytes ml ret n0 T h cells slots) {a : Addr} {cl : Cell} {j : Int32} {x : Int64} (A : Arr Z h a cl .long) (hj : ¬ (j < 0 ∨ cl.slots.size ≤ j.toNatClampNeg)) (ha : n0 ≤ a) (hd : decode bytes pc = .ok (.lastore, 1)) (q : Nat) (hq : pc + 1 = q)
    (k : ∀ T' h', SD p l e R s m args below meth c Z y bytes ml ret n0 T' h' cells slots → Wr h h' a j.toNatClampNeg (.long x) → Go p e below E m T' q Ls st) : Go p e below E m T pc Ls (.long x :: .int j :: .ref a :: st) := by
  obtain ⟨⟨locs, X, N⟩, hh, hx, hZ, hown, hby, r⟩ := X
  subst hq
  obtain ⟨T', h', X', e', W, stp⟩ := stJ X hx hZ hh A hj (g := mkF m pc Ls (.long x :: .int j :: .ref a :: st)) rfl rfl (hb hby hd)
  exact go_by (fun _ r => stp _ r) (k T' h' ⟨⟨_, X', Fr.snoc X' N ha⟩, e', hx, hZ, hown, hby, r⟩ W)
theorem go_stB (X : SD p l e R s m args below meth c Z y bytes ml ret n0 T h cells slots) {a : Addr} {cl : Cell} {j : Int32} {x : Int32} (A : Arr Z h a cl .byte) (hj : ¬ (j < 0 ∨ cl.slots.size ≤ j.toNatClampNeg)) (ha : n0 ≤ a) (hd : decode bytes pc = .ok (.bastore, 1)) (q : Nat) (hq : pc + 1 = q)
    (k : ∀ T' h', SD p l e R s m args below meth c Z y bytes ml ret n0 T' h' cells slots → Wr h h' a j.toNatClampNeg (.int (nar .byte x)) → Go p e below E m T' q Ls st) : Go p e below E m T pc Ls (.int x :: .int j :: .ref a :: st) := by
  obtain ⟨⟨locs, X, N⟩, hh, hx, hZ, hown, hby, r⟩ := X
  subst hq
  obtain ⟨T', h', X', e', W, stp⟩ := stB X hx hZ hh A hj (g := mkF m pc Ls (.int x :: .int j :: .ref a :: st)) rfl rfl (hb hby hd)
  exact go_by (fun _ r => stp _ r) (k T' h' ⟨⟨_, X', Fr.snoc X' N ha⟩, e', hx, hZ, hown, hby, r⟩ W)
theorem go_stC (X : SD p l e R s m args below meth c Z y bytes ml ret n0 T h cells slots) {a : Addr} {cl : Cell} {j : Int32} {x : Int32} (A : Arr Z h a cl .char) (hj : ¬ (j < 0 ∨ cl.slots.size ≤ j.toNatClampNeg)) (ha : n0 ≤ a) (hd : decode bytes pc = .ok (.castore, 1)) (q : Nat) (hq : pc + 1 = q)
    (k : ∀ T' h', SD p l e R s m args below meth c Z y bytes ml ret n0 T' h' cells slots → Wr h h' a j.toNatClampNeg (.int (nar .char x)) → Go p e below E m T' q Ls st) : Go p e below E m T pc Ls (.int x :: .int j :: .ref a :: st) := by
  obtain ⟨⟨locs, X, N⟩, hh, hx, hZ, hown, hby, r⟩ := X
  subst hq
  obtain ⟨T', h', X', e', W, stp⟩ := stC X hx hZ hh A hj (g := mkF m pc Ls (.int x :: .int j :: .ref a :: st)) rfl rfl (hb hby hd)
  exact go_by (fun _ r => stp _ r) (k T' h' ⟨⟨_, X', Fr.snoc X' N ha⟩, e', hx, hZ, hown, hby, r⟩ W)
theorem go_laload (X : SD p l e R s m args below meth c Z y bytes ml ret n0 T h cells slots) {a : Addr} {cl : Cell} {j : Int32} {v : Value} (A : Arr Z h a cl .long) (hj : ¬ (j < 0 ∨ cl.slots.size ≤ j.toNatClampNeg)) (hv : cl.slots[j.toNatClampNeg]? = some v) (hd : decode bytes pc = .ok (.laload, 1)) (q : Nat) (hq : pc + 1 = q)
    (k : Go p e below E m T q Ls (v :: st)) : Go p e below E m T pc Ls (.int j :: .ref a :: st) := by
  obtain ⟨⟨locs, X, N⟩, hh, hx, hZ, hown, hby, -⟩ := X
  subst hq
  exact go_by (fun _ r => X.laload hx (by rw [hh]; exact A.1) (State.isArrayOf_alike hZ.alike A.2.1) A.2.2 hj hv (g := mkF m pc Ls (.int j :: .ref a :: st)) rfl rfl (hb hby hd) _ r) k
theorem go_baload (X : SD p l e R s m args below meth c Z y bytes ml ret n0 T h cells slots) {a : Addr} {cl : Cell} {j : Int32} {v : Value} (A : Arr Z h a cl .byte) (hj : ¬ (j < 0 ∨ cl.slots.size ≤ j.toNatClampNeg)) (hv : cl.slots[j.toNatClampNeg]? = some v) (hd : decode bytes pc = .ok (.baload, 1)) (q : Nat) (hq : pc + 1 = q)
    (k : Go p e below E m T q Ls (v :: st)) : Go p e below E m T pc Ls (.int j :: .ref a :: st) := by
  obtain ⟨⟨locs, X, N⟩, hh, hx, hZ, hown, hby, -⟩ := X
  subst hq
  exact go_by (fun _ r => X.baloadBytes hx (by rw [hh]; exact A.1) (State.isArrayOf_alike hZ.alike A.2.1) A.2.2 hj hv (g := mkF m pc Ls (.int j :: .ref a :: st)) rfl rfl (hb hby hd) _ r) k
theorem go_caload (X : SD p l e R s m args below meth c Z y bytes ml ret n0 T h cells slots) {a : Addr} {cl : Cell} {j : Int32} {v : Value} (A : Arr Z h a cl .char) (hj : ¬ (j < 0 ∨ cl.slots.size ≤ j.toNatClampNeg)) (hv : cl.slots[j.toNatClampNeg]? = some v) (hd : decode bytes pc = .ok (.caload, 1)) (q : Nat) (hq : pc + 1 = q)
    (k : Go p e below E m T q Ls (v :: st)) : Go p e below E m T pc Ls (.int j :: .ref a :: st) := by
  obtain ⟨⟨locs, X, N⟩, hh, hx, hZ, hown, hby, -⟩ := X
  subst hq
  exact go_by (fun _ r => X.caload hx (by rw [hh]; exact A.1) (State.isArrayOf_alike hZ.alike A.2.1) A.2.2 hj hv (g := mkF m pc Ls (.int j :: .ref a :: st)) rfl rfl (hb hby hd) _ r) k
theorem go_aaload (X : SD p l e R s m args below meth c Z y bytes ml ret n0 T h cells slots) {a : Addr} {cl : Cell} {j : Int32} {v : Value} {ty : FieldType} (A : Arr Z h a cl ty) (hty : ty.isReference = true) (hj : ¬ (j < 0 ∨ cl.slots.size ≤ j.toNatClampNeg)) (hv : cl.slots[j.toNatClampNeg]? = some v) (hd : decode bytes pc = .ok (.aaload, 1)) (q : Nat) (hq : pc + 1 = q)
    (k : Go p e below E m T q Ls (v :: st)) : Go p e below E m T pc Ls (.int j :: .ref a :: st) := by
  obtain ⟨⟨locs, X, N⟩, hh, hx, hZ, hown, hby, -⟩ := X
  subst hq
  exact go_by (fun _ r => X.aaload hx (by rw [hh]; exact A.1) (State.isArrayOf_alike hZ.alike A.2.1) hty A.2.2 hj hv (g := mkF m pc Ls (.int j :: .ref a :: st)) rfl rfl (hb hby hd) _ r) k
theorem go_arrlen (X : SD p l e R s m args below meth c Z y bytes ml ret n0 T h cells slots) {a : Addr} {cl : Cell} {ty : FieldType} (z : Int32) (A : Arr Z h a cl ty) (hz : cl.slots.size.toInt32 = z) (hd : decode bytes pc = .ok (.arraylength, 1)) (q : Nat) (hq : pc + 1 = q)
    (k : Go p e below E m T q Ls (.int z :: st)) : Go p e below E m T pc Ls (.ref a :: st) := by
  obtain ⟨⟨locs, X, N⟩, hh, hx, hZ, hown, hby, -⟩ := X
  subst hq hz
  exact go_by (fun _ r => X.arraylength hx (by rw [hh]; exact A.1) (State.isArrayOf_alike hZ.alike A.2.1) (g := mkF m pc Ls (.ref a :: st)) rfl rfl (hb hby hd) _ r) k
/-! ### calls -/
theorem go_callS (X : SD p l e R s m args below meth c Z y bytes ml ret n0 T h cells slots) {y' : MethodName} {bytes' : ByteArray} {ml' i : Nat} {ret' : Option FieldType} {rm : Room} {as' : Array Value} {Q : Option Value → Heap → List Loc → Prop} (W : Nat) (argsL rest : List Value)
    (w1 : (Cond.methodLink y.cls i y').before a0 Z = true) (w2 : (Cond.static y').before a0 Z = true) (w3 : (Cond.initialized y'.cls).before a0 Z = true) (w4 : (Cond.code y' bytes' ml' ret').before a0 Z = true) (hy : y'.cls ≠ "java/lang/invoke/MethodHandle" ∧ y'.cls ≠ "java/lang/invoke/VarHandle")
    (hM : MetFree l y' (head1 [Cond.code y' bytes' ml' ret'] rm) (fun a U => a = as' ∧ Z.Warmed39 U.vm ∧ U.heap = h) (fun _ _ _ _ _ => True) (fun _ U o U' => ∃ v L, o = .returned v ∧ Q v U'.heap L ∧ FrameEnd U o U' L rm.cells rm.slots))
    (hf : rm.frames + 1 ≤ R.frames) (hl : W + (ml' + 11) + rm.locals ≤ R.locals) (hsz : Ls.size = ml) (hlen : ∀ sig, parseMethodDescriptor y'.desc = some sig → argsL.length = sig.parameters.length) (has : argsL.toArray = as') (hst : st = argsL.reverse ++ rest) (hW : (rest.map fun v => v.category).sum ≤ W) (hd : decode bytes pc = .ok (.invokestatic i, 3)) (hc : cells + rm.cells ≤ R.cells) (hs : slots + rm.slots ≤ R.slots) (q : Nat) (hq : pc + 3 = q)
    (hQ : ∀ v h' L, Q v h' L → Fr n0 L)
    (k : ∀ v T' L h', SD p l e R s m args below meth c Z y bytes ml ret n0 T' h' (cells + rm.cells) (slots + rm.slots) → Q v h' L → Go p e below E m T' q Ls (v.toList ++ rest)) : Go p e below E m T pc Ls st := by
  obtain ⟨⟨locs, X, N⟩, hh, hx, hZ, hown, hby, hml, r⟩ := X
  subst hq has
  obtain ⟨v, _, ⟨T', L', k', n'⟩, -, X', ⟨Lc, hq, l1, y1, z1⟩, stp⟩ := Jvm.LawKit.callS X hx (y := y') hown (mvT hZ w1) (mvT hZ w2) (mvT hZ w3) (mvT hZ w4) hy (backOf (W := W) hM hZ w4 w3 hf hl) (g := mkF m pc Ls st) rfl (hsz.trans hml.symm) (argsL := argsL) (rest := rest) hlen hst (by show 2 * 0 + _ ≤ _; omega) (hb hby hd) (fun _ _ => ⟨rfl, hh, hc, hs⟩)
  dsimp only [Pt.U, Pt.locs, Pt.cells, Pt.slots] at X' l1 y1 z1 stp hq
  subst l1 y1 z1
  exact go_by (fun _ r => stp _ r) (k v T' Lc _ ⟨⟨_, X', Fr.app N (hQ _ _ _ hq)⟩, rfl, hx, hZ, hown, hby, hml, r⟩ hq)
theorem go_callV (X : SD p l e R s m args below meth c Z y bytes ml ret n0 T h cells slots) {C : String} {y' z' : MethodName} {bytes' : ByteArray} {ml' i : Nat} {ret' : Option FieldType} {rm : Room} {as' : Array Value} {Q : Option Value → Heap → List Loc → Prop} {a : Addr} (W : Nat) (argsL rest : List Value)
    (w1 : (Cond.methodLink y.cls i y').before a0 Z = true) (w2 : (Cond.declares y').before a0 Z = true) (w3 : (Cond.selects C y' z').before a0 Z = true) (hyz : y'.cls = C) (w4 : (Cond.instanceMethod z').before a0 Z = true) (w5 : (Cond.initialized z'.cls).before a0 Z = true) (w6 : (Cond.code z' bytes' ml' ret').before a0 Z = true) (hy : y'.cls ≠ "java/lang/invoke/MethodHandle" ∧ y'.cls ≠ "java/lang/invoke/VarHandle")
    (Ex : Exa Z h a C) (hnf : NotFace s y')
    (hM : MetFree l z' (head1 [Cond.code z' bytes' ml' ret'] rm) (fun a U => a = as' ∧ Z.Warmed39 U.vm ∧ U.heap = h) (fun _ _ _ _ _ => True) (fun _ U o U' => ∃ v L, o = .returned v ∧ Q v U'.heap L ∧ FrameEnd U o U' L rm.cells rm.slots))
    (hf : rm.frames + 1 ≤ R.frames) (hl : W + (ml' + 11) + rm.locals ≤ R.locals) (hsz : Ls.size = ml) (hlen : ∀ sig, parseMethodDescriptor y'.desc = some sig → argsL.length = sig.parameters.length) (has : (Value.ref a :: argsL).toArray = as') (hst : st = argsL.reverse ++ .ref a :: rest) (hW : (rest.map fun v => v.category).sum ≤ W) (hd : decode bytes pc = .ok (.invokevirtual i, 3)) (hc : cells + rm.cells ≤ R.cells) (hs : slots + rm.slots ≤ R.slots) (q : Nat) (hq : pc + 3 = q)
    (hQ : ∀ v h' L, Q v h' L → Fr n0 L)
    (k : ∀ v T' L h', SD p l e R s m args below meth c Z y bytes ml ret n0 T' h' (cells + rm.cells) (slots + rm.slots) → Q v h' L → Go p e below E m T' q Ls (v.toList ++ rest)) : Go p e below E m T pc Ls st := by
  obtain ⟨⟨locs, X, N⟩, hh, hx, hZ, hown, hby, hml, r⟩ := X
  subst hq has
  obtain ⟨cq, kq, q1, q2, q3⟩ := isOf hZ hh Ex
  obtain ⟨v, _, ⟨T', L', k', n'⟩, -, X', ⟨Lc, hq, l1, y1, z1⟩, stp⟩ := X.virtualBack hx (y := y') (z := z') hown (mvT hZ w1) (mvT hZ w2) hnf (mvT hZ w3) (mvT hZ w4) hy (backOf (W := W) hM hZ w6 w5 hf hl) q1 q3 (g := mkF m pc Ls st) rfl (hsz.trans hml.symm) (Steps.refl _) (argsL := argsL) (rest := rest) hlen hst (by show 2 * 0 + _ ≤ _; omega) (hb hby hd) (fun _ _ => ⟨rfl, hh, hc, hs⟩)
  dsimp only [Pt.U, Pt.locs, Pt.cells, Pt.slots] at X' l1 y1 z1 stp hq
  subst l1 y1 z1
  exact go_by (fun _ r => stp.trans r) (k v T' Lc _ ⟨⟨_, X', Fr.app N (hQ _ _ _ hq)⟩, rfl, hx, hZ, hown, hby, hml, r⟩ hq)
/-- where the class itself declares what is selected: it is no interface -/
theorem go_callVs (X : SD p l e R s m args below meth c Z y bytes ml ret n0 T h cells slots) {y' : MethodName} {bytes' : ByteArray} {ml' i : Nat} {ret' : Option FieldType} {rm : Room} {as' : Array Value} {Q : Option Value → Heap → List Loc → Prop} {a : Addr} (W : Nat) (argsL rest : List Value)
    (w1 : (Cond.methodLink y.cls i y').before a0 Z = true) (w2 : (Cond.declares y').before a0 Z = true) (w3 : (Cond.selects y'.cls y' y').before a0 Z = true) (w4 : (Cond.instanceMethod y').before a0 Z = true) (w5 : (Cond.initialized y'.cls).before a0 Z = true) (w6 : (Cond.code y' bytes' ml' ret').before a0 Z = true) (hy : y'.cls ≠ "java/lang/invoke/MethodHandle" ∧ y'.cls ≠ "java/lang/invoke/VarHandle")
    (Ex : Exa Z h a y'.cls)
    (hM : MetFree l y' (head1 [Cond.code y' bytes' ml' ret'] rm) (fun a U => a = as' ∧ Z.Warmed39 U.vm ∧ U.heap = h) (fun _ _ _ _ _ => True) (fun _ U o U' => ∃ v L, o = .returned v ∧ Q v U'.heap L ∧ FrameEnd U o U' L rm.cells rm.slots))
    (hf : rm.frames + 1 ≤ R.frames) (hl : W + (ml' + 11) + rm.locals ≤ R.locals) (hsz : Ls.size = ml) (hlen : ∀ sig, parseMethodDescriptor y'.desc = some sig → argsL.length = sig.parameters.length) (has : (Value.ref a :: argsL).toArray = as') (hst : st = argsL.reverse ++ .ref a :: rest) (hW : (rest.map fun v => v.category).sum ≤ W) (hd : decode bytes pc = .ok (.invokevirtual i, 3)) (hc : cells + rm.cells ≤ R.cells) (hs : slots + rm.slots ≤ R.slots) (q : Nat) (hq : pc + 3 = q)
    (hQ : ∀ v h' L, Q v h' L → Fr n0 L)
    (k : ∀ v T' L h', SD p l e R s m args below meth c Z y bytes ml ret n0 T' h' (cells + rm.cells) (slots + rm.slots) → Q v h' L → Go p e below E m T' q Ls (v.toList ++ rest)) : Go p e below E m T pc Ls st :=
  go_callV X W argsL rest w1 w2 w3 rfl w4 w5 w6 hy Ex (notFace_of_selects (args := #[]) (mvT X.2.2.2.1 w3)) hM hf hl hsz hlen has hst hW hd hc hs q hq hQ k
theorem go_callUp (X : SD p l e R s m args below meth c Z y bytes ml ret n0 T h cells slots) {C owner : String} {x' y' : MethodName} {bytes' : ByteArray} {ml' i : Nat} {ret' : Option FieldType} {rm : Room} {as' : Array Value} {Q : Option Value → Heap → List Loc → Prop} {a : Addr} (W : Nat) (argsL rest : List Value)
    (w1 : (Cond.methodLink y.cls i x').before a0 Z = true) (w2 : (Cond.sameMethod x'.cls owner x'.name x'.desc).before a0 Z = true) (w2b : (Cond.declares ⟨owner, x'.name, x'.desc⟩).before a0 Z = true) (w3 : (Cond.selects C x' y').before a0 Z = true) (w4 : (Cond.instanceMethod y').before a0 Z = true) (w5 : (Cond.initialized y'.cls).before a0 Z = true) (w6 : (Cond.code y' bytes' ml' ret').before a0 Z = true) (hy : owner ≠ "java/lang/invoke/MethodHandle" ∧ owner ≠ "java/lang/invoke/VarHandle")
    (Ex : Exa Z h a C)
    (hM : MetFree l y' (head1 [Cond.code y' bytes' ml' ret'] rm) (fun a U => a = as' ∧ Z.Warmed39 U.vm ∧ U.heap = h) (fun _ _ _ _ _ => True) (fun _ U o U' => ∃ v L, o = .returned v ∧ Q v U'.heap L ∧ FrameEnd U o U' L rm.cells rm.slots))
    (hf : rm.frames + 1 ≤ R.frames) (hl : W + (ml' + 11) + rm.locals ≤ R.locals) (hsz : Ls.size = ml) (hlen : ∀ sig, parseMethodDescriptor x'.desc = some sig → argsL.length = sig.parameters.length) (has : (Value.ref a :: argsL).toArray = as') (hst : st = argsL.reverse ++ .ref a :: rest) (hW : (rest.map fun v => v.category).sum ≤ W) (hd : decode bytes pc = .ok (.invokevirtual i, 3)) (hc : cells + rm.cells ≤ R.cells) (hs : slots + rm.slots ≤ R.slots) (q : Nat) (hq : pc + 3 = q)
    (hQ : ∀ v h' L, Q v h' L → Fr n0 L)
    (k : ∀ v T' L h', SD p l e R s m args below meth c Z y bytes ml ret n0 T' h' (cells + rm.cells) (slots + rm.slots) → Q v h' L → Go p e below E m T' q Ls (v.toList ++ rest)) : Go p e below E m T pc Ls st := by
  obtain ⟨⟨locs, X, N⟩, hh, hx, hZ, hown, hby, hml, r⟩ := X
  subst hq has
  obtain ⟨cq, kq, q1, q2, q3⟩ := isOf hZ hh Ex
  obtain ⟨v, _, ⟨T', L', k', n'⟩, -, X', ⟨Lc, hq, l1, y1, z1⟩, stp⟩ := X.virtualBackUp hx (x := x') (y := y') (owner := owner) hown (mvT hZ w1) (mvT hZ w2) (mvT hZ w2b) hy (mvT hZ w3) (mvT hZ w4) (backOf (W := W) hM hZ w6 w5 hf hl) q1 q3 (g := mkF m pc Ls st) rfl (hsz.trans hml.symm) (Steps.refl _) (argsL := argsL) (rest := rest) hlen hst (by show 2 * 0 + _ ≤ _; omega) (hb hby hd) (fun _ _ => ⟨rfl, hh, hc, hs⟩)
  dsimp only [Pt.U, Pt.locs, Pt.cells, Pt.slots] at X' l1 y1 z1 stp hq
  subst l1 y1 z1
  exact go_by (fun _ r => stp.trans r) (k v T' Lc _ ⟨⟨_, X', Fr.app N (hQ _ _ _ hq)⟩, rfl, hx, hZ, hown, hby, hml, r⟩ hq)
theorem go_callI (X : SD p l e R s m args below meth c Z y bytes ml ret n0 T h cells slots) {y' : MethodName} {bytes' : ByteArray} {ml' i : Nat} {rm : Room} {as' : Array Value} {Q : Option Value → Heap → List Loc → Prop} {a : Addr} (W : Nat) (argsL rest : List Value) (hy1 : y'.name = "<init>")
    (w1 : (Cond.methodLink y.cls i y').before a0 Z = true) (w2 : (Cond.instanceMethod y').before a0 Z = true) (w3 : (Cond.initialized y'.cls).before a0 Z = true) (w4 : (Cond.code y' bytes' ml' none).before a0 Z = true) (hy : y'.cls ≠ "java/lang/invoke/MethodHandle" ∧ y'.cls ≠ "java/lang/invoke/VarHandle")
    (hM : MetFree l y' (head1 [Cond.code y' bytes' ml' none] rm) (fun a U => a = as' ∧ Z.Warmed39 U.vm ∧ U.heap = h) (fun _ _ _ _ _ => True) (fun _ U o U' => ∃ v L, o = .returned v ∧ Q v U'.heap L ∧ FrameEnd U o U' L rm.cells rm.slots))
    (hf : rm.frames + 1 ≤ R.frames) (hl : W + (ml' + 11) + rm.locals ≤ R.locals) (hsz : Ls.size = ml) (hlen : ∀ sig, parseMethodDescriptor y'.desc = some sig → argsL.length = sig.parameters.length) (has : (Value.ref a :: argsL).toArray = as') (hst : st = argsL.reverse ++ .ref a :: rest) (hW : (rest.map fun v => v.category).sum ≤ W) (hd : decode bytes pc = .ok (.invokespecial i, 3)) (hc : cells + rm.cells ≤ R.cells) (hs : slots + rm.slots ≤ R.slots) (q : Nat) (hq : pc + 3 = q)
    (hQ : ∀ v h' L, Q v h' L → Fr n0 L)
    (k : ∀ v T' L h', SD p l e R s m args below meth c Z y bytes ml ret n0 T' h' (cells + rm.cells) (slots + rm.slots) → Q v h' L → Go p e below E m T' q Ls (v.toList ++ rest)) : Go p e below E m T pc Ls st := by
  obtain ⟨⟨locs, X, N⟩, hh, hx, hZ, hown, hby, hml, r⟩ := X
  subst hq has
  obtain ⟨v, _, ⟨T', L', k', n'⟩, -, X', ⟨Lc, hq, l1, y1, z1⟩, stp⟩ := X.specialBack hx (y := y') hy1 hown (mvT hZ w1) (mvT hZ w2) (mvT hZ w4) hy (backOf (W := W) hM hZ w4 w3 hf hl) (g := mkF m pc Ls st) rfl (hsz.trans hml.symm) (Steps.refl _) (a := a) (argsL := argsL) (rest := rest) hlen hst (by show 2 * 0 + _ ≤ _; omega) (hb hby hd) (fun _ _ => ⟨rfl, hh, hc, hs⟩)
  dsimp only [Pt.U, Pt.locs, Pt.cells, Pt.slots] at X' l1 y1 z1 stp hq
  subst l1 y1 z1
  exact go_by (fun _ r => stp.trans r) (k v T' Lc _ ⟨⟨_, X', Fr.app N (hQ _ _ _ hq)⟩, rfl, hx, hZ, hown, hby, hml, r⟩ hq)
/-- what a callee leaves that writes nothing -/
def PQ (r : Option Value) (h0 : Heap) (n0 : Nat) (v : Option Value) (h : Heap) (L : List Loc) : Prop := v = r ∧ Fr n0 L ∧ h = h0
theorem PQ.fr {r : Option Value} {h0 : Heap} : ∀ v h' L, PQ r h0 n0 v h' L → Fr n0 L := fun _ _ _ q => q.2.1
theorem PQ.k {r : Option Value} {cells' slots' : Nat} {q : Nat} (k : ∀ T', SD p l e R s m args below meth c Z y bytes ml ret n0 T' h cells' slots' → Go p e below E m T' q Ls (r.toList ++ rest)) : ∀ v T' L h', SD p l e R s m args below meth c Z y bytes ml ret n0 T' h' cells' slots' → PQ r h n0 v h' L → Go p e below E m T' q Ls (v.toList ++ rest) := fun v T' L h' X' hq => by
  obtain ⟨rfl, -, rfl⟩ := hq
  exact k T' X'
/-! ### from the case's words -/
theorem own_exa {t : Term} {C : String} (q : (Cond.exactly t C).value args s none s [] = some true) : ∃ a, t.eval args s none [] s = some (.ref a) ∧ Exa s s.heap a C := by
  obtain ⟨a, ev⟩ := exa_v q
  exact ⟨a, ev, Exa.start ev q⟩
theorem own_sta {C n d : String} {v : Value} (ev : (Term.static C n d).eval args s none [] s = some v) (w1 : (Cond.initialized C).before args s = true) (w2 : (Cond.laysStatic C n d).before args s = true) : Sta s s.heap C n d v := Sta.start ev (Or.inr ⟨w1, w2⟩)
theorem own_eqI {t : Term} {k : Int32} (q : (Cond.eq t (Term.int k)).value args s none s [] = some true) : t.eval args s none [] s = some (.int k) := by
  obtain ⟨x, z, h1, h2, -, h4⟩ := cmp_v (Or.inl q)
  have e2 : z = .int k := (Option.some.inj h2).symm
  subst e2
  obtain ⟨w, rfl⟩ : ∃ w, x = .int w := h4
  have q' := q
  simp only [Cond.value, h1, h2] at q'
  simp at q'
  rw [h1, q']
theorem own_fldI {t : Term} {C n d : String} {a : Addr} {k : Int32} (ev : t.eval args s none [] s = some (.ref a)) (q : (Cond.eq (Term.field t C n d) (Term.int k)).value args s none s [] = some true) : Fld s s.heap a C n d (.int k) := by
  have h1 := own_eqI q
  rw [fld_at ev] at h1
  exact Fld.start h1
theorem own_fldne {C n d : String} {a b : Addr} {j k : Int32} (F : Fld Z h a C n d (.int j)) (G : Fld Z h b C n d (.int k)) (q : j ≠ k) : a ≠ b := Fld.ne F G (fun z => q (Value.int.inj z))
theorem own_mod {x k : Int32} {n : Int} (hk : k.toInt = n) (hn : 0 < n) : 0 ≤ ((x &&& 2147483647) % k).toInt ∧ ((x &&& 2147483647) % k).toInt < n := by
  have h1 : (x &&& 2147483647).toInt = x.toInt % 2 ^ 31 := Jvm.Kit.i32_mask x 2147483647 (by decide) (by decide)
  have h2 : 0 ≤ (x &&& 2147483647).toInt := by rw [h1]; omega
  rw [Jvm.Kit.i32_rem_nonneg h2, hk]
  exact ⟨Int.emod_nonneg _ (by omega), Int.emod_lt_of_pos _ hn⟩
theorem own_lit {z k : Int32} {n : Int} (h : z.toInt = n) (hk : k.toInt = n) : z = k := Int32.toInt_inj.mp (h.trans hk.symm)
theorem own_len {t : Term} {a : Addr} {cl : Cell} {ty : FieldType} {k : Int32} (ev : t.eval args s none [] s = some (.ref a)) (A : Arr s s.heap a cl ty) (q : (Cond.eq (Term.length t) (Term.int k)).value args s none s [] = some true) : cl.slots.size.toInt32 = k := by
  have h1 := own_eqI q
  have h2 := A.fin (Vm.Alike.refl _)
  obtain ⟨a', cell, e1, e2, e3⟩ := Term.length_spec h1
  cases ev.symm.trans e1
  cases h2.symm.trans e2
  exact (Value.int.inj e3).symm
theorem own_elem {t u : Term} {a b : Addr} {cl : Cell} {ty : FieldType} {j : Int32} (ev : t.eval args s none [] s = some (.ref a)) (ev' : u.eval args s none [] s = some (.ref b)) (A : Arr s s.heap a cl ty) (q : (Cond.eq (Term.elem t (Term.int j)) u).value args s none s [] = some true) : ¬ (j < 0 ∨ cl.slots.size ≤ j.toNatClampNeg) ∧ cl.slots[j.toNatClampNeg]? = some (.ref b) := by
  obtain ⟨x, z, h1, h2, h3, h4⟩ := cmp_v (Or.inl q)
  cases h2.symm.trans ev'
  have hr : x.isRef = true := h4.2
  have e := gotT (eq_R h1 ev' hr rfl) q
  subst e
  exact elem_in h1 ev rfl A.1
/-- every place of the cell holds an int -/
def ICell (c : Cell) : Prop := ∀ i, i < c.slots.size → ∃ x, c.slots[i]? = some (.int x)
theorem ICell.new {cA : ClassId} {ty : FieldType} {n : Int32} (ht : ∃ x, defaultValue ty = .int x) : ICell (newA cA ty n) := by
  obtain ⟨x, hx⟩ := ht
  intro i hi
  refine ⟨x, ?_⟩
  rw [sz_new] at hi
  simp [newA, hx, hi]
theorem ICell.set {cl : Cell} {j : Nat} {x : Int32} (I : ICell cl) : ICell (cl.setSlot j (.int x)) := by
  intro i hi
  rw [sz_set] at hi
  obtain ⟨y, hy⟩ := I i hi
  by_cases e : j = i
  · subst e
    exact ⟨x, by simp [Cell.setSlot, hi]⟩
  · exact ⟨y, by simp only [Cell.setSlot]; rw [Array.getElem?_setIfInBounds_ne e]; exact hy⟩
theorem own_extwr {h0 h' : Heap} {a : Addr} {sl : Nat} {v : Value} (Ex : Ext h0 h) (W : Wr h h' a sl v) (q : h0.size ≤ a) : Ext h0 h' := by
  refine ⟨Nat.le_trans Ex.1 (Nat.le_of_eq W.size.symm), fun b c hb => ?_⟩
  obtain ⟨c', e1, -, -, -, e5, -⟩ := wr_at W (Ex.2 b c hb)
  rw [← e5 (fun z => Nat.lt_irrefl _ (Nat.lt_of_lt_of_le (Array.getElem?_eq_some_iff.mp hb).1 (z ▸ q)))]
  exact e1
theorem own_ext0 (h : Heap) : Ext h h := ⟨Nat.le_refl _, fun _ _ q => q⟩
theorem own_exttr {h1 h2 h3 : Heap} (A : Ext h1 h2) (B : Ext h2 h3) : Ext h1 h3 := ⟨Nat.le_trans A.1 B.1, fun a c q => B.2 a c (A.2 a c q)⟩
theorem own_in {cl : Cell} {n : Nat} {j : Int32} (z : cl.slots.size = n) (h1 : ¬ j < 0) (h2 : j.toNatClampNeg < n) : ¬ (j < 0 ∨ cl.slots.size ≤ j.toNatClampNeg) := fun q => q.elim h1 (fun r => by rw [z] at r; omega)
theorem own_in2 {cl : Cell} {n : Nat} {j : Int32} (z : cl.slots.size = n) (h0 : 0 ≤ j.toInt) (h1 : j.toInt < n) : ¬ (j < 0 ∨ cl.slots.size ≤ j.toNatClampNeg) := by
  refine own_in z (fun q => ?_) ?_
  · rw [Int32.lt_iff_toInt_lt] at q
    have e : (0 : Int32).toInt = 0 := rfl
    omega
  · show j.toInt.toNat < n
    omega
/-- what a callee leaves that writes one field of its object -/
def WQ (Z : State) (r : Option Value) (h0 : Heap) (n0 : Nat) (q : Addr) (C n d : String) (w : Value) (v : Option Value) (h : Heap) (L : List Loc) : Prop := v = r ∧ Fr n0 L ∧ Keep h0 h [q] ∧ Fld Z h q C n d w
theorem WQ.fr {r : Option Value} {h0 : Heap} {q : Addr} {C n d : String} {w : Value} : ∀ v h' L, WQ Z r h0 n0 q C n d w v h' L → Fr n0 L := fun _ _ _ z => z.2.1
/-- a private method by invokevirtual -/
theorem go_callP (X : SD p l e R s m args below meth c Z y bytes ml ret n0 T h cells slots) {y' : MethodName} {bytes' : ByteArray} {ml' i kk : Nat} {ret' : Option FieldType} {rm : Room} {as' : Array Value} {Q : Option Value → Heap → List Loc → Prop} {a : Addr} (W : Nat) (argsL rest : List Value)
    (w1 : (Cond.methodLink y.cls i y').before a0 Z = true) (w2 : (Cond.instanceMethod y').before a0 Z = true) (wp : (Cond.privateMethod y').before a0 Z = true) (wi : (Cond.instantiable y'.cls kk).before a0 Z = true) (w3 : (Cond.initialized y'.cls).before a0 Z = true) (w4 : (Cond.code y' bytes' ml' ret').before a0 Z = true) (hy : y'.cls ≠ "java/lang/invoke/MethodHandle" ∧ y'.cls ≠ "java/lang/invoke/VarHandle")
    (Ex : Exa Z h a y'.cls)
    (hM : MetFree l y' (head1 [Cond.code y' bytes' ml' ret'] rm) (fun a U => a = as' ∧ Z.Warmed39 U.vm ∧ U.heap = h) (fun _ _ _ _ _ => True) (fun _ U o U' => ∃ v L, o = .returned v ∧ Q v U'.heap L ∧ FrameEnd U o U' L rm.cells rm.slots))
    (hf : rm.frames + 1 ≤ R.frames) (hl : W + (ml' + 11) + rm.locals ≤ R.locals) (hsz : Ls.size = ml) (hlen : ∀ sig, parseMethodDescriptor y'.desc = some sig → argsL.length = sig.parameters.length) (has : (Value.ref a :: argsL).toArray = as') (hst : st = argsL.reverse ++ .ref a :: rest) (hW : (rest.map fun v => v.category).sum ≤ W) (hd : decode bytes pc = .ok (.invokevirtual i, 3)) (hc : cells + rm.cells ≤ R.cells) (hs : slots + rm.slots ≤ R.slots) (q : Nat) (hq : pc + 3 = q)
    (hQ : ∀ v h' L, Q v h' L → Fr n0 L)
    (k : ∀ v T' L h', SD p l e R s m args below meth c Z y bytes ml ret n0 T' h' (cells + rm.cells) (slots + rm.slots) → Q v h' L → Go p e below E m T' q Ls (v.toList ++ rest)) : Go p e below E m T pc Ls st := by
  obtain ⟨⟨locs, X, N⟩, hh, hx, hZ, hown, hby, hml, r⟩ := X
  subst hq has
  obtain ⟨cell, hcell, hobj⟩ := Ex.cell
  have hpriv : s.PrivateAt y' := Cond.privateMethod_at (mvP hZ wp (args := #[]))
  obtain ⟨cI, kI, i1, i2, -, i4, -⟩ := Cond.instantiable_spec (mvT (args := args) hZ wi)
  have hni : kI.isInterface = false := by
    cases hb2 : kI.isInterface
    · rfl
    · rw [hb2] at i4; cases i4
  have hsel : (Cond.selects y'.cls y' y').before args s = true := selects_self_of_private i1 i2 hni hpriv (mvT hZ w2) hy
  obtain ⟨v, _, ⟨T', L', k', n'⟩, -, X', ⟨Lc, hq, l1, y1, z1⟩, stp⟩ := X.privateBack hx (y := y') hown (mvT hZ w1) (mvT hZ w2) hsel hpriv (mvT hZ w4) hy (backOf (W := W) hM hZ w4 w3 hf hl) (g := mkF m pc Ls st) rfl (hsz.trans hml.symm) (Steps.refl _) (a := a) (cell := cell) (by rw [hh]; exact hcell) hobj (argsL := argsL) (rest := rest) hlen hst (by show 2 * 0 + _ ≤ _; omega) (hb hby hd) (fun _ _ => ⟨rfl, hh, hc, hs⟩)
  dsimp only [Pt.U, Pt.locs, Pt.cells, Pt.slots] at X' l1 y1 z1 stp hq
  subst l1 y1 z1
  exact go_by (fun _ r => stp.trans r) (k v T' Lc _ ⟨⟨_, X', Fr.app N (hQ _ _ _ hq)⟩, rfl, hx, hZ, hown, hby, hml, r⟩ hq)
theorem own_eqL {t : Term} {k : Int64} (q : (Cond.eq t (Term.long k)).value args s none s [] = some true) : t.eval args s none [] s = some (.long k) := by
  obtain ⟨x, z, h1, h2, -, h4⟩ := cmp_v (Or.inl q)
  have e2 : z = .long k := (Option.some.inj h2).symm
  subst e2
  obtain ⟨w, rfl⟩ : ∃ w, x = .long w := h4
  have e := gotT (eq_L h1 h2) q
  rw [h1, e]
/-! ### arrays by a function of the place -/
def AA (Z : State) (h : Heap) (a : Addr) (ty : FieldType) (n : Nat) (f : Nat → Value) : Prop := ∃ cl : Cell, Arr Z h a cl ty ∧ cl.slots.size = n ∧ ∀ i, i < n → cl.slots[i]? = some (f i)
theorem AA.ext {h' : Heap} {a : Addr} {ty : FieldType} {n : Nat} {f : Nat → Value} (A : AA Z h a ty n f) (Ex : Ext h h') : AA Z h' a ty n f := by
  obtain ⟨cl, A, r⟩ := A
  exact ⟨cl, A.ext Ex, r⟩
theorem AA.keep {h' : Heap} {a : Addr} {ty : FieldType} {n : Nat} {f : Nat → Value} {ws : List Addr} (A : AA Z h a ty n f) (K : Keep h h' ws) (q : a ∉ ws) : AA Z h' a ty n f := by
  obtain ⟨cl, A, r⟩ := A
  exact ⟨cl, ⟨K.2.1 a cl A.1 q, A.2⟩, r⟩
theorem AA.other {h' : Heap} {a b : Addr} {ty : FieldType} {n sl : Nat} {f : Nat → Value} {v : Value} (A : AA Z h a ty n f) (W : Wr h h' b sl v) (q : a ≠ b) : AA Z h' a ty n f := by
  obtain ⟨cl, A, r⟩ := A
  exact ⟨cl, A.other W q, r⟩
theorem AA.lt {a : Addr} {ty : FieldType} {n : Nat} {f : Nat → Value} (A : AA Z h a ty n f) : a < h.size := by
  obtain ⟨cl, A, -⟩ := A
  exact A.lt
theorem AA.fn {a : Addr} {ty : FieldType} {n : Nat} {f g : Nat → Value} (A : AA Z h a ty n f) (q : ∀ i, i < n → f i = g i) : AA Z h a ty n g := by
  obtain ⟨cl, A, hs, r⟩ := A
  exact ⟨cl, A, hs, fun i hi => by rw [← q i hi]; exact r i hi⟩
theorem AA.new {a : Addr} {cA : ClassId} {ty : FieldType} {z : Int32} {n : Nat} (A : Arr Z h a (newA cA ty z) ty) (hz : z.toNatClampNeg = n) : AA Z h a ty n (fun _ => defaultValue ty) := by
  refine ⟨_, A, (sz_new _ _ _).trans hz, fun i hi => ?_⟩
  simp [newA, hz, hi]
theorem clamp_of {j : Int32} (h0 : 0 ≤ j.toInt) : ¬ j < 0 ∧ j.toNatClampNeg = j.toInt.toNat := by
  refine ⟨fun q => ?_, rfl⟩
  rw [Int32.lt_iff_toInt_lt] at q
  have e : (0 : Int32).toInt = 0 := rfl
  omega
theorem AA.set {h' : Heap} {a : Addr} {cl : Cell} {ty : FieldType} {n : Nat} {f : Nat → Value} {j : Nat} {v : Value} (A : Arr Z h a cl ty) (hs : cl.slots.size = n) (r : ∀ i, i < n → cl.slots[i]? = some (f i)) (W : Wr h h' a j v) (hj : j < n) : AA Z h' a ty n (fun i => if i = j then v else f i) := by
  refine ⟨_, A.same W, (sz_set _ _ _).trans hs, fun i hi => ?_⟩
  by_cases e : i = j
  · subst e
    simp [Cell.setSlot, hs, hi]
  · simp only [Cell.setSlot]
    rw [Array.getElem?_setIfInBounds_ne (Ne.symm e), r i hi]
    simp [e]
theorem go_setB (X : SD p l e R s m args below meth c Z y bytes ml ret n0 T h cells slots) {a : Addr} {n : Nat} {f : Nat → Value} {j x : Int32} (A : AA Z h a .byte n f) (hj0 : 0 ≤ j.toInt) (hj1 : j.toInt < n) (ha : n0 ≤ a) (hd : decode bytes pc = .ok (.bastore, 1)) (q : Nat) (hq : pc + 1 = q)
    (k : ∀ T' h', SD p l e R s m args below meth c Z y bytes ml ret n0 T' h' cells slots → Keep h h' [a] → AA Z h' a .byte n (fun i => if i = j.toInt.toNat then .int (nar .byte x) else f i) → Go p e below E m T' q Ls st) : Go p e below E m T pc Ls (.int x :: .int j :: .ref a :: st) := by
  obtain ⟨cl, A, hs, r⟩ := A
  exact go_stB X A (own_in2 hs hj0 hj1) ha hd q hq (fun T' h' X' W => k T' h' X' (Keep.of_wr W) (AA.set A hs r W (by show j.toInt.toNat < n; omega)))
theorem go_setJ (X : SD p l e R s m args below meth c Z y bytes ml ret n0 T h cells slots) {a : Addr} {n : Nat} {f : Nat → Value} {j : Int32} {x : Int64} (A : AA Z h a .long n f) (hj0 : 0 ≤ j.toInt) (hj1 : j.toInt < n) (ha : n0 ≤ a) (hd : decode bytes pc = .ok (.lastore, 1)) (q : Nat) (hq : pc + 1 = q)
    (k : ∀ T' h', SD p l e R s m args below meth c Z y bytes ml ret n0 T' h' cells slots → Wr h h' a j.toInt.toNat (.long x) → AA Z h' a .long n (fun i => if i = j.toInt.toNat then .long x else f i) → Go p e below E m T' q Ls st) : Go p e below E m T pc Ls (.long x :: .int j :: .ref a :: st) := by
  obtain ⟨cl, A, hs, r⟩ := A
  exact go_stJ X A (own_in2 hs hj0 hj1) ha hd q hq (fun T' h' X' W => k T' h' X' W (AA.set A hs r W (by show j.toInt.toNat < n; omega)))
theorem go_getJ (X : SD p l e R s m args below meth c Z y bytes ml ret n0 T h cells slots) {a : Addr} {n : Nat} {f : Nat → Value} {j : Int32} {v : Value} (A : AA Z h a .long n f) (hj0 : 0 ≤ j.toInt) (hj1 : j.toInt < n) (hv : f j.toInt.toNat = v) (hd : decode bytes pc = .ok (.laload, 1)) (q : Nat) (hq : pc + 1 = q)
    (k : Go p e below E m T q Ls (v :: st)) : Go p e below E m T pc Ls (.int j :: .ref a :: st) := by
  obtain ⟨cl, A, hs, r⟩ := A
  exact go_laload X A (own_in2 hs hj0 hj1) (by rw [← hv]; exact r _ (by show j.toInt.toNat < n; omega)) hd q hq k
theorem go_getB (X : SD p l e R s m args below meth c Z y bytes ml ret n0 T h cells slots) {a : Addr} {n : Nat} {f : Nat → Value} {j : Int32} {v : Value} (A : AA Z h a .byte n f) (hj0 : 0 ≤ j.toInt) (hj1 : j.toInt < n) (hv : f j.toInt.toNat = v) (hd : decode bytes pc = .ok (.baload, 1)) (q : Nat) (hq : pc + 1 = q)
    (k : Go p e below E m T q Ls (v :: st)) : Go p e below E m T pc Ls (.int j :: .ref a :: st) := by
  obtain ⟨cl, A, hs, r⟩ := A
  exact go_baload X A (own_in2 hs hj0 hj1) (by rw [← hv]; exact r _ (by show j.toInt.toNat < n; omega)) hd q hq k
end OwnKit
end Jvm.RoadKit
namespace Jvm.Pilot.@@N@@
open Jvm Jvm.ClassFile Sem Op Lib Jvm.Free Jvm.Stand Jvm.LawKit Jvm.RoadKit Bundle Jvm.Pilot.@@N@@.Jvm.D
theorem go_initO {p : Program} {l : Launch} {e : Env} {R : Room} {s : State} {m : MethodId} {args : Array Value} {below : List Frame} {meth : Method} {c : Code} {Z : State} {y : MethodName} {bytes : ByteArray} {ml : Nat} {ret : Option FieldType} {n0 : Nat} {T : State} {h : Heap} {cells slots : Nat} {E : State → Prop} {pc : Nat} {Ls : Array Slot} {st : List Value} {a0 : Array Value} (X : SD p l e R s m args below meth c Z y bytes ml ret n0 T h cells slots) {i : Nat} {a : Addr} (W : Nat) (w1 : (Cond.methodLink y.cls i Lib.objectInit).before a0 Z = true) (w2 : (Cond.instanceMethod Lib.objectInit).before a0 Z = true) (w3 : (Cond.code Lib.objectInit object_method_1_code 1 none).before a0 Z = true) (hsz : Ls.size = ml) (hd : decode bytes pc = .ok (.invokespecial i, 3)) (hf : 1 ≤ R.frames) (hW : (st.map fun v => v.category).sum ≤ W) (hl : W + 12 ≤ R.locals) (q : Nat) (hq : pc + 3 = q)
    (k : ∀ T', SD p l e R s m args below meth c Z y bytes ml ret n0 T' h cells slots → Go p e below E m T' q Ls st) : Go p e below E m T pc Ls (.ref a :: st) := by
  obtain ⟨⟨locs, X, N⟩, hh, hx, hZ, hown, hby, hml, r⟩ := X
  subst hq
  obtain ⟨T', X', e', stp⟩ := initO X hx hZ hown w1 w2 w3 hh (g := mkF m pc Ls (.ref a :: st)) rfl (hsz.trans hml.symm) rfl (hb hby hd) hf (W := W) (by show 2 * 0 + _ ≤ _; omega) hl
  exact go_by (fun _ r => stp _ r) (k T' ⟨⟨locs, X', N⟩, e', hx, hZ, hown, hby, hml, r⟩)
theorem d1_0 : decode prog_10_method_1_code 0 = .ok (.aload_n 0, 1) := by decide +kernel
theorem d1_1 : decode prog_10_method_1_code 1 = .ok (.invokespecial 1, 3) := by decide +kernel
theorem d1_4 : decode prog_10_method_1_code 4 = .ok (.return_, 1) := by decide +kernel
theorem d2_0 : decode prog_10_method_4_code 0 = .ok (.aload_n 0, 1) := by decide +kernel
theorem d2_1 : decode prog_10_method_4_code 1 = .ok (.getfield 7, 3) := by decide +kernel
theorem d2_4 : decode prog_10_method_4_code 4 = .ok (.lconst 0, 1) := by decide +kernel
theorem d2_5 : decode prog_10_method_4_code 5 = .ok (.lcmp, 1) := by decide +kernel
theorem d2_6 : decode prog_10_method_4_code 6 = .ok (.ifCond .ge 7, 3) := by decide +kernel
theorem d2_9 : decode prog_10_method_4_code 9 = .ok (.iconst 1, 1) := by decide +kernel
theorem d2_10 : decode prog_10_method_4_code 10 = .ok (.goto 4, 3) := by decide +kernel
theorem d2_13 : decode prog_10_method_4_code 13 = .ok (.iconst 0, 1) := by decide +kernel
theorem d2_14 : decode prog_10_method_4_code 14 = .ok (.ireturn, 1) := by decide +kernel
theorem d3_0 : decode prog_10_method_2_code 0 = .ok (.aload_n 0, 1) := by decide +kernel
theorem d3_1 : decode prog_10_method_2_code 1 = .ok (.dup, 1) := by decide +kernel
theorem d3_2 : decode prog_10_method_2_code 2 = .ok (.getfield 7, 3) := by decide +kernel
theorem d3_5 : decode prog_10_method_2_code 5 = .ok (.lload_n 1, 1) := by decide +kernel
theorem d3_6 : decode prog_10_method_2_code 6 = .ok (.ladd, 1) := by decide +kernel
theorem d3_7 : decode prog_10_method_2_code 7 = .ok (.putfield 7, 3) := by decide +kernel
theorem d3_10 : decode prog_10_method_2_code 10 = .ok (.return_, 1) := by decide +kernel
theorem d4_0 : decode prog_10_method_3_code 0 = .ok (.aload_n 0, 1) := by decide +kernel
theorem d4_1 : decode prog_10_method_3_code 1 = .ok (.dup, 1) := by decide +kernel
theorem d4_2 : decode prog_10_method_3_code 2 = .ok (.getfield 7, 3) := by decide +kernel
theorem d4_5 : decode prog_10_method_3_code 5 = .ok (.lload_n 1, 1) := by decide +kernel
theorem d4_6 : decode prog_10_method_3_code 6 = .ok (.lsub, 1) := by decide +kernel
theorem d4_7 : decode prog_10_method_3_code 7 = .ok (.putfield 7, 3) := by decide +kernel
theorem d4_10 : decode prog_10_method_3_code 10 = .ok (.return_, 1) := by decide +kernel
theorem pd_0 : parseMethodDescriptor "()V" = some ⟨[], none⟩ := by decide +kernel
theorem pd_1 : parseMethodDescriptor "()Z" = some ⟨[], some .boolean⟩ := by decide +kernel
theorem pd_2 : parseMethodDescriptor "(J)V" = some ⟨[.long], none⟩ := by decide +kernel
theorem wd0 {a0 : Array Value} {Z : State} (hw : ∀ d ∈ tables_1, d.before a0 Z = true) : (Jvm.Cond.classLink "com/example/subpipeline/subpipeline/document/StepBudgetOverspentPinLaw" (7 : Nat) "com/example/subpipeline/subpipeline/document/StepBudget").before a0 Z = true := hw _ (List.mem_of_getElem? (i := 0) rfl)
theorem wd1 {a0 : Array Value} {Z : State} (hw : ∀ d ∈ tables_1, d.before a0 Z = true) : (Jvm.Cond.instantiable "com/example/subpipeline/subpipeline/document/StepBudget" (1 : Nat)).before a0 Z = true := hw _ (List.mem_of_getElem? (i := 1) rfl)
theorem wd2 {a0 : Array Value} {Z : State} (hw : ∀ d ∈ tables_1, d.before a0 Z = true) : (Jvm.Cond.initialized "com/example/subpipeline/subpipeline/document/StepBudget").before a0 Z = true := hw _ (List.mem_of_getElem? (i := 2) rfl)
theorem wd3 {a0 : Array Value} {Z : State} (hw : ∀ d ∈ tables_1, d.before a0 Z = true) : (Jvm.Cond.methodLink "com/example/subpipeline/subpipeline/document/StepBudgetOverspentPinLaw" (9 : Nat) ({ cls := "com/example/subpipeline/subpipeline/document/StepBudget", name := "<init>", desc := "()V" } : Jvm.MethodName)).before a0 Z = true := hw _ (List.mem_of_getElem? (i := 3) rfl)
theorem wd4 {a0 : Array Value} {Z : State} (hw : ∀ d ∈ tables_1, d.before a0 Z = true) : (Jvm.Cond.instanceMethod ({ cls := "com/example/subpipeline/subpipeline/document/StepBudget", name := "<init>", desc := "()V" } : Jvm.MethodName)).before a0 Z = true := hw _ (List.mem_of_getElem? (i := 4) rfl)
theorem wd5 {a0 : Array Value} {Z : State} (hw : ∀ d ∈ tables_1, d.before a0 Z = true) : (Jvm.Cond.code ({ cls := "com/example/subpipeline/subpipeline/document/StepBudget", name := "<init>", desc := "()V" } : Jvm.MethodName) prog_10_method_1_code (1 : Nat) (Option.none : Option Jvm.ClassFile.FieldType)).before a0 Z = true := hw _ (List.mem_of_getElem? (i := 5) rfl)
theorem wd6 {a0 : Array Value} {Z : State} (hw : ∀ d ∈ tables_1, d.before a0 Z = true) : (Jvm.Cond.methodLink "com/example/subpipeline/subpipeline/document/StepBudget" (1 : Nat) ({ cls := "java/lang/Object", name := "<init>", desc := "()V" } : Jvm.MethodName)).before a0 Z = true := hw _ (List.mem_of_getElem? (i := 6) rfl)
theorem wd7 {a0 : Array Value} {Z : State} (hw : ∀ d ∈ tables_1, d.before a0 Z = true) : (Jvm.Cond.instanceMethod ({ cls := "java/lang/Object", name := "<init>", desc := "()V" } : Jvm.MethodName)).before a0 Z = true := hw _ (List.mem_of_getElem? (i := 7) rfl)
theorem wd8 {a0 : Array Value} {Z : State} (hw : ∀ d ∈ tables_1, d.before a0 Z = true) : (Jvm.Cond.code ({ cls := "java/lang/Object", name := "<init>", desc := "()V" } : Jvm.MethodName) object_method_1_code (1 : Nat) (Option.none : Option Jvm.ClassFile.FieldType)).before a0 Z = true := hw _ (List.mem_of_getElem? (i := 8) rfl)
theorem wd9 {a0 : Array Value} {Z : State} (hw : ∀ d ∈ tables_1, d.before a0 Z = true) : (Jvm.Cond.methodLink "com/example/subpipeline/subpipeline/document/StepBudgetOverspentPinLaw" (10 : Nat) ({ cls := "com/example/subpipeline/subpipeline/document/StepBudget", name := "overspent", desc := "()Z" } : Jvm.MethodName)).before a0 Z = true := hw _ (List.mem_of_getElem? (i := 9) rfl)
theorem wd10 {a0 : Array Value} {Z : State} (hw : ∀ d ∈ tables_1, d.before a0 Z = true) : (Jvm.Cond.declares ({ cls := "com/example/subpipeline/subpipeline/document/StepBudget", name := "overspent", desc := "()Z" } : Jvm.MethodName)).before a0 Z = true := hw _ (List.mem_of_getElem? (i := 10) rfl)
theorem wd11 {a0 : Array Value} {Z : State} (hw : ∀ d ∈ tables_1, d.before a0 Z = true) : (Jvm.Cond.instanceMethod ({ cls := "com/example/subpipeline/subpipeline/document/StepBudget", name := "overspent", desc := "()Z" } : Jvm.MethodName)).before a0 Z = true := hw _ (List.mem_of_getElem? (i := 11) rfl)
theorem wd12 {a0 : Array Value} {Z : State} (hw : ∀ d ∈ tables_1, d.before a0 Z = true) : (Jvm.Cond.selects "com/example/subpipeline/subpipeline/document/StepBudget" ({ cls := "com/example/subpipeline/subpipeline/document/StepBudget", name := "overspent", desc := "()Z" } : Jvm.MethodName) ({ cls := "com/example/subpipeline/subpipeline/document/StepBudget", name := "overspent", desc := "()Z" } : Jvm.MethodName)).before a0 Z = true := hw _ (List.mem_of_getElem? (i := 12) rfl)
theorem wd13 {a0 : Array Value} {Z : State} (hw : ∀ d ∈ tables_1, d.before a0 Z = true) : (Jvm.Cond.code ({ cls := "com/example/subpipeline/subpipeline/document/StepBudget", name := "overspent", desc := "()Z" } : Jvm.MethodName) prog_10_method_4_code (1 : Nat) (Option.some Jvm.ClassFile.FieldType.boolean)).before a0 Z = true := hw _ (List.mem_of_getElem? (i := 13) rfl)
theorem wd14 {a0 : Array Value} {Z : State} (hw : ∀ d ∈ tables_1, d.before a0 Z = true) : (Jvm.Cond.fieldLink "com/example/subpipeline/subpipeline/document/StepBudget" (7 : Nat) "com/example/subpipeline/subpipeline/document/StepBudget" "left" "J").before a0 Z = true := hw _ (List.mem_of_getElem? (i := 14) rfl)
theorem wd15 {a0 : Array Value} {Z : State} (hw : ∀ d ∈ tables_1, d.before a0 Z = true) : (Jvm.Cond.lays "com/example/subpipeline/subpipeline/document/StepBudget" "com/example/subpipeline/subpipeline/document/StepBudget" "left" "J").before a0 Z = true := hw _ (List.mem_of_getElem? (i := 15) rfl)
theorem wd16 {a0 : Array Value} {Z : State} (hw : ∀ d ∈ tables_1, d.before a0 Z = true) : (Jvm.Cond.methodLink "com/example/subpipeline/subpipeline/document/StepBudgetOverspentPinLaw" (14 : Nat) ({ cls := "com/example/subpipeline/subpipeline/document/StepBudget", name := "allow", desc := "(J)V" } : Jvm.MethodName)).before a0 Z = true := hw _ (List.mem_of_getElem? (i := 16) rfl)
theorem wd17 {a0 : Array Value} {Z : State} (hw : ∀ d ∈ tables_1, d.before a0 Z = true) : (Jvm.Cond.declares ({ cls := "com/example/subpipeline/subpipeline/document/StepBudget", name := "allow", desc := "(J)V" } : Jvm.MethodName)).before a0 Z = true := hw _ (List.mem_of_getElem? (i := 17) rfl)
theorem wd18 {a0 : Array Value} {Z : State} (hw : ∀ d ∈ tables_1, d.before a0 Z = true) : (Jvm.Cond.instanceMethod ({ cls := "com/example/subpipeline/subpipeline/document/StepBudget", name := "allow", desc := "(J)V" } : Jvm.MethodName)).before a0 Z = true := hw _ (List.mem_of_getElem? (i := 18) rfl)
theorem wd19 {a0 : Array Value} {Z : State} (hw : ∀ d ∈ tables_1, d.before a0 Z = true) : (Jvm.Cond.selects "com/example/subpipeline/subpipeline/document/StepBudget" ({ cls := "com/example/subpipeline/subpipeline/document/StepBudget", name := "allow", desc := "(J)V" } : Jvm.MethodName) ({ cls := "com/example/subpipeline/subpipeline/document/StepBudget", name := "allow", desc := "(J)V" } : Jvm.MethodName)).before a0 Z = true := hw _ (List.mem_of_getElem? (i := 19) rfl)
theorem wd20 {a0 : Array Value} {Z : State} (hw : ∀ d ∈ tables_1, d.before a0 Z = true) : (Jvm.Cond.code ({ cls := "com/example/subpipeline/subpipeline/document/StepBudget", name := "allow", desc := "(J)V" } : Jvm.MethodName) prog_10_method_2_code (3 : Nat) (Option.none : Option Jvm.ClassFile.FieldType)).before a0 Z = true := hw _ (List.mem_of_getElem? (i := 20) rfl)
theorem wd21 {a0 : Array Value} {Z : State} (hw : ∀ d ∈ tables_1, d.before a0 Z = true) : (Jvm.Cond.methodLink "com/example/subpipeline/subpipeline/document/StepBudgetOverspentPinLaw" (18 : Nat) ({ cls := "com/example/subpipeline/subpipeline/document/StepBudget", name := "spend", desc := "(J)V" } : Jvm.MethodName)).before a0 Z = true := hw _ (List.mem_of_getElem? (i := 21) rfl)
theorem wd22 {a0 : Array Value} {Z : State} (hw : ∀ d ∈ tables_1, d.before a0 Z = true) : (Jvm.Cond.declares ({ cls := "com/example/subpipeline/subpipeline/document/StepBudget", name := "spend", desc := "(J)V" } : Jvm.MethodName)).before a0 Z = true := hw _ (List.mem_of_getElem? (i := 22) rfl)
theorem wd23 {a0 : Array Value} {Z : State} (hw : ∀ d ∈ tables_1, d.before a0 Z = true) : (Jvm.Cond.instanceMethod ({ cls := "com/example/subpipeline/subpipeline/document/StepBudget", name := "spend", desc := "(J)V" } : Jvm.MethodName)).before a0 Z = true := hw _ (List.mem_of_getElem? (i := 23) rfl)
theorem wd24 {a0 : Array Value} {Z : State} (hw : ∀ d ∈ tables_1, d.before a0 Z = true) : (Jvm.Cond.selects "com/example/subpipeline/subpipeline/document/StepBudget" ({ cls := "com/example/subpipeline/subpipeline/document/StepBudget", name := "spend", desc := "(J)V" } : Jvm.MethodName) ({ cls := "com/example/subpipeline/subpipeline/document/StepBudget", name := "spend", desc := "(J)V" } : Jvm.MethodName)).before a0 Z = true := hw _ (List.mem_of_getElem? (i := 24) rfl)
theorem wd25 {a0 : Array Value} {Z : State} (hw : ∀ d ∈ tables_1, d.before a0 Z = true) : (Jvm.Cond.code ({ cls := "com/example/subpipeline/subpipeline/document/StepBudget", name := "spend", desc := "(J)V" } : Jvm.MethodName) prog_10_method_3_code (3 : Nat) (Option.none : Option Jvm.ClassFile.FieldType)).before a0 Z = true := hw _ (List.mem_of_getElem? (i := 25) rfl)
abbrev y1 : MethodName := ⟨"com/example/subpipeline/subpipeline/document/StepBudget", "<init>", "()V"⟩
abbrev r1 : Room := { frames := 1, cells := 0, slots := 0, locals := 12 }
set_option maxRecDepth 65536 in
set_option maxHeartbeats 40000000 in
theorem rm1 (l : Launch) (Z : State) (a0 : Array Value) (hw : ∀ d ∈ tables_1, d.before a0 Z = true) (ws : List Jvm.Cond) (h0 : Heap) (n0 : Nat) (q : Addr)   :
    MetFree l y1 (head1 (Jvm.Cond.code y1 prog_10_method_1_code 1 none :: ws) r1) (fun a U => a = #[(.ref q)] ∧ Z.Warmed39 U.vm ∧ U.heap = h0) (fun _ _ _ _ _ => True) (fun _ U o U' => ∃ v L, o = .returned v ∧ PQ none h0 n0 v U'.heap L ∧ FrameEnd U o U' L r1.cells r1.slots) := by
  refine met_of (Z := Z) (n0 := n0) (Ls := #[.val (.ref q)]) (plainFor_of_name (by first | (simp [plainName, overriddenIn]; done) | decide +kernel)) (fun m => by first | (simp [entryFrame, mkF, argsToLocals, Value.category]; done) | rfl) ?_
  intro p e s m below meth c T0 E hE X0
  refine go_aloadN X0 d1_0 rfl rfl 1 rfl ?_
  refine go_initO X0 0 (wd6 hw) (wd7 hw) (wd8 hw) rfl d1_1 (by decide) (Nat.le_of_eq rfl) (by decide) 4 rfl (fun T1 X1 => ?_)
  exact go_retV X1 hE d1_4 (fun L N => ⟨rfl, N, rfl⟩) (by decide) (by decide)
def own_over (k : Int64) : Int32 := (if k < (0 : Int64) then (1 : Int32) else (0 : Int32))
abbrev y2 : MethodName := ⟨"com/example/subpipeline/subpipeline/document/StepBudget", "overspent", "()Z"⟩
abbrev r2 : Room := { frames := 0, cells := 0, slots := 0, locals := 0 }
set_option maxRecDepth 65536 in
set_option maxHeartbeats 40000000 in
theorem rm2 (l : Launch) (Z : State) (a0 : Array Value) (hw : ∀ d ∈ tables_1, d.before a0 Z = true) (ws : List Jvm.Cond) (h0 : Heap) (n0 : Nat) (q : Addr) (k : Int64)   (F_q : Fld Z h0 q "com/example/subpipeline/subpipeline/document/StepBudget" "left" "J" (.long k)) :
    MetFree l y2 (head1 (Jvm.Cond.code y2 prog_10_method_4_code 1 (some .boolean) :: ws) r2) (fun a U => a = #[(.ref q)] ∧ Z.Warmed39 U.vm ∧ U.heap = h0) (fun _ _ _ _ _ => True) (fun _ U o U' => ∃ v L, o = .returned v ∧ PQ (some (.int (own_over k))) h0 n0 v U'.heap L ∧ FrameEnd U o U' L r2.cells r2.slots) := by
  refine met_of (Z := Z) (n0 := n0) (Ls := #[.val (.ref q)]) (plainFor_of_name (by first | (simp [plainName, overriddenIn]; done) | decide +kernel)) (fun m => by first | (simp [entryFrame, mkF, argsToLocals, Value.category]; done) | rfl) ?_
  intro p e s m below meth c T0 E hE X0
  refine go_aloadN X0 d2_0 rfl rfl 1 rfl ?_
  refine go_getF X0 (wd14 hw) F_q d2_1 4 rfl (fun T1 X1 => ?_)
  refine go_lconst X1 (0 : Int64) d2_4 (by decide) 5 rfl ?_
  refine go_lif X1 6 9 13 d2_5 rfl d2_6 rfl (by decide) (by decide) ?_ ?_
  · intro (c2 : ¬ (k < (0 : Int64)))
    refine go_iconst X1 (0 : Int32) d2_13 (by decide) 14 rfl ?_
    exact go_retN X1 hE (by simp) d2_14 (fun L N => ⟨by rw [own_over, if_neg c2] <;> rfl, N, rfl⟩) (by decide) (by decide)
  intro c2
  replace c2 : k < (0 : Int64) := Decidable.not_not.mp c2
  refine go_iconst X1 (1 : Int32) d2_9 (by decide) 10 rfl ?_
  refine go_goto X1 14 d2_10 (by decide) (by decide) ?_
  exact go_retN X1 hE (by simp) d2_14 (fun L N => ⟨by rw [own_over, if_pos c2] <;> rfl, N, rfl⟩) (by decide) (by decide)
abbrev y3 : MethodName := ⟨"com/example/subpipeline/subpipeline/document/StepBudget", "allow", "(J)V"⟩
abbrev r3 : Room := { frames := 0, cells := 0, slots := 0, locals := 0 }
set_option maxRecDepth 65536 in
set_option maxHeartbeats 40000000 in
theorem rm3 (l : Launch) (Z : State) (a0 : Array Value) (hw : ∀ d ∈ tables_1, d.before a0 Z = true) (ws : List Jvm.Cond) (h0 : Heap) (n0 : Nat) (q : Addr) (d0 k : Int64)   (F_q : Fld Z h0 q "com/example/subpipeline/subpipeline/document/StepBudget" "left" "J" (.long k)) (E_q : Exa Z h0 q "com/example/subpipeline/subpipeline/document/StepBudget") (g_q : n0 ≤ q) :
    MetFree l y3 (head1 (Jvm.Cond.code y3 prog_10_method_2_code 3 none :: ws) r3) (fun a U => a = #[(.ref q), (.long d0)] ∧ Z.Warmed39 U.vm ∧ U.heap = h0) (fun _ _ _ _ _ => True) (fun _ U o U' => ∃ v L, o = .returned v ∧ WQ Z none h0 n0 q "com/example/subpipeline/subpipeline/document/StepBudget" "left" "J" (.long (k + d0)) v U'.heap L ∧ FrameEnd U o U' L r3.cells r3.slots) := by
  refine met_of (Z := Z) (n0 := n0) (Ls := #[.val (.ref q), .val (.long d0), .second]) (plainFor_of_name (by first | (simp [plainName, overriddenIn]; done) | decide +kernel)) (fun m => by first | (simp [entryFrame, mkF, argsToLocals, Value.category]; done) | rfl) ?_
  intro p e s m below meth c T0 E hE X0
  refine go_aloadN X0 d3_0 rfl rfl 1 rfl ?_
  refine go_dup X0 d3_1 rfl 2 rfl ?_
  refine go_getF X0 (wd14 hw) F_q d3_2 5 rfl (fun T1 X1 => ?_)
  refine go_lloadN X1 d3_5 rfl 6 rfl ?_
  refine go_ladd X1 d3_6 7 rfl ?_
  refine go_putF X1 (wd14 hw) F_q E_q (Or.inl (wd15 hw)) (wd1 hw) (ty := .long) (by decide) rfl rfl g_q d3_7 10 rfl (fun T2 h2 X2 W2 => ?_)
  exact go_retV X2 hE d3_10 (fun L N => ⟨rfl, N, Keep.of_wr W2, F_q.same W2⟩) (by decide) (by decide)
abbrev y4 : MethodName := ⟨"com/example/subpipeline/subpipeline/document/StepBudget", "spend", "(J)V"⟩
abbrev r4 : Room := { frames := 0, cells := 0, slots := 0, locals := 0 }
set_option maxRecDepth 65536 in
set_option maxHeartbeats 40000000 in
theorem rm4 (l : Launch) (Z : State) (a0 : Array Value) (hw : ∀ d ∈ tables_1, d.before a0 Z = true) (ws : List Jvm.Cond) (h0 : Heap) (n0 : Nat) (q : Addr) (d0 k : Int64)   (F_q : Fld Z h0 q "com/example/subpipeline/subpipeline/document/StepBudget" "left" "J" (.long k)) (E_q : Exa Z h0 q "com/example/subpipeline/subpipeline/document/StepBudget") (g_q : n0 ≤ q) :
    MetFree l y4 (head1 (Jvm.Cond.code y4 prog_10_method_3_code 3 none :: ws) r4) (fun a U => a = #[(.ref q), (.long d0)] ∧ Z.Warmed39 U.vm ∧ U.heap = h0) (fun _ _ _ _ _ => True) (fun _ U o U' => ∃ v L, o = .returned v ∧ WQ Z none h0 n0 q "com/example/subpipeline/subpipeline/document/StepBudget" "left" "J" (.long (k - d0)) v U'.heap L ∧ FrameEnd U o U' L r4.cells r4.slots) := by
  refine met_of (Z := Z) (n0 := n0) (Ls := #[.val (.ref q), .val (.long d0), .second]) (plainFor_of_name (by first | (simp [plainName, overriddenIn]; done) | decide +kernel)) (fun m => by first | (simp [entryFrame, mkF, argsToLocals, Value.category]; done) | rfl) ?_
  intro p e s m below meth c T0 E hE X0
  refine go_aloadN X0 d4_0 rfl rfl 1 rfl ?_
  refine go_dup X0 d4_1 rfl 2 rfl ?_
  refine go_getF X0 (wd14 hw) F_q d4_2 5 rfl (fun T1 X1 => ?_)
  refine go_lloadN X1 d4_5 rfl 6 rfl ?_
  refine go_lsub X1 d4_6 7 rfl ?_
  refine go_putF X1 (wd14 hw) F_q E_q (Or.inl (wd15 hw)) (wd1 hw) (ty := .long) (by decide) rfl rfl g_q d4_7 10 rfl (fun T2 h2 X2 W2 => ?_)
  exact go_retV X2 hE d4_10 (fun L N => ⟨rfl, N, Keep.of_wr W2, F_q.same W2⟩) (by decide) (by decide)
def Q0 (n0 : Nat) (v : Option Value) (h : Heap) (L : List Loc) : Prop := v = some (.int 1) ∧ Fr n0 L
set_option maxRecDepth 65536 in
set_option maxHeartbeats 40000000 in
theorem rm0 (l : Launch) (Z : State) (a0 : Array Value) (hw : ∀ d ∈ tables_1, d.before a0 Z = true) (ws : List Jvm.Cond) (h0 : Heap) (n0 : Nat) (Z0 : n0 ≤ h0.size) (i0 i1 i2 i3 : Int64)   :
    MetFree l x (head1 (Jvm.Cond.code x code maxLocals ret :: ws) room_1) (fun a U => a = #[(.long i0), (.long i1), (.long i2), (.long i3)] ∧ Z.Warmed39 U.vm ∧ U.heap = h0) (fun _ _ _ _ _ => True) (fun _ U o U' => ∃ v L, o = .returned v ∧ Q0 n0 v U'.heap L ∧ FrameEnd U o U' L room_1.cells room_1.slots) := by
  refine met_of (Z := Z) (n0 := n0) (Ls := #[.val (.long i0), .second, .val (.long i1), .second, .val (.long i2), .second, .val (.long i3), .second, .unset, .unset, .unset, .unset, .unset, .unset, .unset, .unset, .unset, .unset]) (plainFor_of_name (by first | (simp [plainName, overriddenIn]; done) | decide +kernel)) (fun m => by first | (simp [entryFrame, mkF, argsToLocals, Value.category, maxLocals]; done) | rfl) ?_
  intro p e s m below meth c T0 E hE X0
  refine go_new X0 (wd0 hw) (wd1 hw) (wd2 hw) at_0 (by decide) (by decide) 3 rfl (fun T1 h1 q gA X1 Ex E_q D => ?_)
  have g_q : n0 ≤ q := by rw [gA]; exact Z0
  have F_q : Fld Z h1 q "com/example/subpipeline/subpipeline/document/StepBudget" "left" "J" (.long (0 : Int64)) := D (Or.inl (wd15 hw)) (ty := .long) (by decide)
  refine go_dup X1 at_3 rfl 4 rfl ?_
  refine go_callI X1 1 [] [(.ref q)] rfl (wd3 hw) (wd4 hw) (wd2 hw) (wd5 hw) (by decide) (rm1 l Z a0 hw [] h1 n0 q) (by decide) (by decide) rfl (lenOf pd_0 rfl) rfl rfl (Nat.le_of_eq rfl) at_4 (by decide) (by decide) 7 rfl PQ.fr (PQ.k (fun T2 X2 => ?_))
  show Go p e below E m T2 7 #[.val (.long i0), .second, .val (.long i1), .second, .val (.long i2), .second, .val (.long i3), .second, .unset, .unset, .unset, .unset, .unset, .unset, .unset, .unset, .unset, .unset] [(.ref q)]
  refine go_astore X2 #[.val (.long i0), .second, .val (.long i1), .second, .val (.long i2), .second, .val (.long i3), .second, .val (.ref q), .unset, .unset, .unset, .unset, .unset, .unset, .unset, .unset, .unset] at_7 rfl rfl 9 rfl ?_
  refine go_aload X2 at_9 rfl rfl 11 rfl ?_
  refine go_callVs X2 0 [] [] (wd9 hw) (wd10 hw) (wd12 hw) (wd11 hw) (wd2 hw) (wd13 hw) (by decide) E_q (rm2 l Z a0 hw [] h1 n0 q (0 : Int64)  F_q) (by decide) (by decide) rfl (lenOf pd_1 rfl) rfl rfl (Nat.le_of_eq rfl) at_11 (by decide) (by decide) 14 rfl PQ.fr (PQ.k (fun T3 X3 => ?_))
  show Go p e below E m T3 14 #[.val (.long i0), .second, .val (.long i1), .second, .val (.long i2), .second, .val (.long i3), .second, .val (.ref q), .unset, .unset, .unset, .unset, .unset, .unset, .unset, .unset, .unset] [(.int (own_over (0 : Int64)))]
  rw [(by rw [own_over, if_neg (by decide)] <;> decide : (own_over (0 : Int64)) = (0 : Int32))]
  refine go_if X3 17 21 at_14 rfl (by decide) (by decide) (fun (hh : ¬ ((0 : Int32) = (0 : Int32))) => absurd (by decide : (0 : Int32) = (0 : Int32)) hh) (fun _ => ?_)
  refine go_iconst X3 (1 : Int32) at_17 (by decide) 18 rfl ?_
  refine go_goto X3 22 at_18 (by decide) (by decide) ?_
  refine go_istore X3 #[.val (.long i0), .second, .val (.long i1), .second, .val (.long i2), .second, .val (.long i3), .second, .val (.ref q), .val (.int (1 : Int32)), .unset, .unset, .unset, .unset, .unset, .unset, .unset, .unset] at_22 rfl 24 rfl ?_
  refine go_aload X3 at_24 rfl rfl 26 rfl ?_
  refine go_lloadN X3 at_26 rfl 27 rfl ?_
  refine go_callVs X3 0 [(.long i0)] [] (wd16 hw) (wd17 hw) (wd19 hw) (wd18 hw) (wd2 hw) (wd20 hw) (by decide) E_q (rm3 l Z a0 hw [] h1 n0 q i0 (0 : Int64) F_q E_q g_q) (by decide) (by decide) rfl (lenOf pd_2 rfl) rfl rfl (Nat.le_of_eq rfl) at_27 (by decide) (by decide) 30 rfl WQ.fr (fun w4 T4 L4 h4 X4 q4 => ?_)
  obtain ⟨rfl, -, K4, F_q⟩ := q4
  replace E_q := E_q.keep K4
  show Go p e below E m T4 30 #[.val (.long i0), .second, .val (.long i1), .second, .val (.long i2), .second, .val (.long i3), .second, .val (.ref q), .val (.int (1 : Int32)), .unset, .unset, .unset, .unset, .unset, .unset, .unset, .unset] []
  refine go_lloadN X4 at_30 rfl 31 rfl ?_
  refine go_lstore X4 #[.val (.long i0), .second, .val (.long i1), .second, .val (.long i2), .second, .val (.long i3), .second, .val (.ref q), .val (.int (1 : Int32)), .val (.long i0), .second, .unset, .unset, .unset, .unset, .unset, .unset] at_31 rfl 33 rfl ?_
  replace F_q : Fld Z h4 q "com/example/subpipeline/subpipeline/document/StepBudget" "left" "J" (.long i0) := by
      have e : ((0 : Int64) + i0) = i0 := by first | rfl | (rw [Int64.zero_add]) | (subst_vars; rfl)
      rw [← e]; exact F_q
  refine go_iload X4 at_33 rfl 35 rfl ?_
  refine go_if X4 38 62 at_35 rfl (by decide) (by decide) (fun (hh : (1 : Int32) = (0 : Int32)) => absurd hh (by decide : ¬ ((1 : Int32) = (0 : Int32)))) (fun _ => ?_)
  refine go_aload X4 at_38 rfl rfl 40 rfl ?_
  refine go_callVs X4 0 [] [] (wd9 hw) (wd10 hw) (wd12 hw) (wd11 hw) (wd2 hw) (wd13 hw) (by decide) E_q (rm2 l Z a0 hw [] h4 n0 q i0  F_q) (by decide) (by decide) rfl (lenOf pd_1 rfl) rfl rfl (Nat.le_of_eq rfl) at_40 (by decide) (by decide) 43 rfl PQ.fr (PQ.k (fun T5 X5 => ?_))
  show Go p e below E m T5 43 #[.val (.long i0), .second, .val (.long i1), .second, .val (.long i2), .second, .val (.long i3), .second, .val (.ref q), .val (.int (1 : Int32)), .val (.long i0), .second, .unset, .unset, .unset, .unset, .unset, .unset] [(.int (own_over i0))]
  refine go_lload X5 at_43 rfl 45 rfl ?_
  refine go_lconst X5 (0 : Int64) at_45 (by decide) 46 rfl ?_
  refine go_cut (A := ∀ z6 : Int32, z6 = (if i0 < (0 : Int64) then (1 : Int32) else (0 : Int32)) → Go p e below E m T5 55 #[.val (.long i0), .second, .val (.long i1), .second, .val (.long i2), .second, .val (.long i3), .second, .val (.ref q), .val (.int (1 : Int32)), .val (.long i0), .second, .unset, .unset, .unset, .unset, .unset, .unset] [(.int z6), (.int (own_over i0))]) ?_ ?_
  · intro J7
    refine go_lif X5 47 50 54 at_46 rfl at_47 rfl (by decide) (by decide) ?_ ?_
    · intro (c8 : ¬ (i0 < (0 : Int64)))
      refine go_iconst X5 (0 : Int32) at_54 (by decide) 55 rfl ?_
      exact J7 _ (by first | rw [if_neg c8] | simp only [c8, if_true, if_false, ite_self] | rfl)
    intro c8
    replace c8 : i0 < (0 : Int64) := Decidable.not_not.mp c8
    refine go_iconst X5 (1 : Int32) at_50 (by decide) 51 rfl ?_
    refine go_goto X5 55 at_51 (by decide) (by decide) ?_
    exact J7 _ (by first | rw [if_pos c8] | simp only [c8, if_true, if_false, ite_self] | rfl)
  intro z6 hz6
  refine go_icmp X5 58 62 at_55 rfl (by decide) (by decide) ?_ ?_
  · intro (c9 : ¬ ((own_over i0) = z6))
    exfalso
    exact c9 (by rw [own_over]; exact hz6.symm)
  intro (c9 : ¬ (¬ ((own_over i0) = z6)))
  replace c9 : (own_over i0) = z6 := Decidable.not_not.mp c9
  refine go_iconst X5 (1 : Int32) at_58 (by decide) 59 rfl ?_
  refine go_goto X5 63 at_59 (by decide) (by decide) ?_
  refine go_istore X5 #[.val (.long i0), .second, .val (.long i1), .second, .val (.long i2), .second, .val (.long i3), .second, .val (.ref q), .val (.int (1 : Int32)), .val (.long i0), .second, .unset, .unset, .unset, .unset, .unset, .unset] at_63 rfl 65 rfl ?_
  refine go_aload X5 at_65 rfl rfl 67 rfl ?_
  refine go_lloadN X5 at_67 rfl 68 rfl ?_
  refine go_callVs X5 0 [(.long i1)] [] (wd21 hw) (wd22 hw) (wd24 hw) (wd23 hw) (wd2 hw) (wd25 hw) (by decide) E_q (rm4 l Z a0 hw [] h4 n0 q i1 i0 F_q E_q g_q) (by decide) (by decide) rfl (lenOf pd_2 rfl) rfl rfl (Nat.le_of_eq rfl) at_68 (by decide) (by decide) 71 rfl WQ.fr (fun w10 T10 L10 h10 X10 q10 => ?_)
  obtain ⟨rfl, -, K10, F_q⟩ := q10
  replace E_q := E_q.keep K10
  show Go p e below E m T10 71 #[.val (.long i0), .second, .val (.long i1), .second, .val (.long i2), .second, .val (.long i3), .second, .val (.ref q), .val (.int (1 : Int32)), .val (.long i0), .second, .unset, .unset, .unset, .unset, .unset, .unset] []
  refine go_lload X10 at_71 rfl 73 rfl ?_
  refine go_lloadN X10 at_73 rfl 74 rfl ?_
  refine go_lsub X10 at_74 75 rfl ?_
  refine go_nmL (fun v11 hv11 => ?_)
  refine go_lstore X10 #[.val (.long i0), .second, .val (.long i1), .second, .val (.long i2), .second, .val (.long i3), .second, .val (.ref q), .val (.int (1 : Int32)), .val (.long i0), .second, .val (.long v11), .second, .unset, .unset, .unset, .unset] at_75 rfl 77 rfl ?_
  replace F_q : Fld Z h10 q "com/example/subpipeline/subpipeline/document/StepBudget" "left" "J" (.long v11) := by
      have e : (i0 - i1) = v11 := by first | rfl | (rw [Int64.zero_add]) | (subst_vars; rfl)
      rw [← e]; exact F_q
  refine go_iload X10 at_77 rfl 79 rfl ?_
  refine go_if X10 82 106 at_79 rfl (by decide) (by decide) (fun (hh : (1 : Int32) = (0 : Int32)) => absurd hh (by decide : ¬ ((1 : Int32) = (0 : Int32)))) (fun _ => ?_)
  refine go_aload X10 at_82 rfl rfl 84 rfl ?_
  refine go_callVs X10 0 [] [] (wd9 hw) (wd10 hw) (wd12 hw) (wd11 hw) (wd2 hw) (wd13 hw) (by decide) E_q (rm2 l Z a0 hw [] h10 n0 q v11  F_q) (by decide) (by decide) rfl (lenOf pd_1 rfl) rfl rfl (Nat.le_of_eq rfl) at_84 (by decide) (by decide) 87 rfl PQ.fr (PQ.k (fun T12 X12 => ?_))
  show Go p e below E m T12 87 #[.val (.long i0), .second, .val (.long i1), .second, .val (.long i2), .second, .val (.long i3), .second, .val (.ref q), .val (.int (1 : Int32)), .val (.long i0), .second, .val (.long v11), .second, .unset, .unset, .unset, .unset] [(.int (own_over v11))]
  refine go_lload X12 at_87 rfl 89 rfl ?_
  refine go_lconst X12 (0 : Int64) at_89 (by decide) 90 rfl ?_
  refine go_cut (A := ∀ z13 : Int32, z13 = (if v11 < (0 : Int64) then (1 : Int32) else (0 : Int32)) → Go p e below E m T12 99 #[.val (.long i0), .second, .val (.long i1), .second, .val (.long i2), .second, .val (.long i3), .second, .val (.ref q), .val (.int (1 : Int32)), .val (.long i0), .second, .val (.long v11), .second, .unset, .unset, .unset, .unset] [(.int z13), (.int (own_over v11))]) ?_ ?_
  · intro J14
    refine go_lif X12 91 94 98 at_90 rfl at_91 rfl (by decide) (by decide) ?_ ?_
    · intro (c15 : ¬ (v11 < (0 : Int64)))
      refine go_iconst X12 (0 : Int32) at_98 (by decide) 99 rfl ?_
      exact J14 _ (by first | rw [if_neg c15] | simp only [c15, if_true, if_false, ite_self] | rfl)
    intro c15
    replace c15 : v11 < (0 : Int64) := Decidable.not_not.mp c15
    refine go_iconst X12 (1 : Int32) at_94 (by decide) 95 rfl ?_
    refine go_goto X12 99 at_95 (by decide) (by decide) ?_
    exact J14 _ (by first | rw [if_pos c15] | simp only [c15, if_true, if_false, ite_self] | rfl)
  intro z13 hz13
  refine go_icmp X12 102 106 at_99 rfl (by decide) (by decide) ?_ ?_
  · intro (c16 : ¬ ((own_over v11) = z13))
    exfalso
    exact c16 (by rw [own_over]; exact hz13.symm)
  intro (c16 : ¬ (¬ ((own_over v11) = z13)))
  replace c16 : (own_over v11) = z13 := Decidable.not_not.mp c16
  refine go_iconst X12 (1 : Int32) at_102 (by decide) 103 rfl ?_
  refine go_goto X12 107 at_103 (by decide) (by decide) ?_
  refine go_istore X12 #[.val (.long i0), .second, .val (.long i1), .second, .val (.long i2), .second, .val (.long i3), .second, .val (.ref q), .val (.int (1 : Int32)), .val (.long i0), .second, .val (.long v11), .second, .unset, .unset, .unset, .unset] at_107 rfl 109 rfl ?_
  refine go_aload X12 at_109 rfl rfl 111 rfl ?_
  refine go_lload X12 at_111 rfl 113 rfl ?_
  refine go_callVs X12 0 [(.long i2)] [] (wd16 hw) (wd17 hw) (wd19 hw) (wd18 hw) (wd2 hw) (wd20 hw) (by decide) E_q (rm3 l Z a0 hw [] h10 n0 q i2 v11 F_q E_q g_q) (by decide) (by decide) rfl (lenOf pd_2 rfl) rfl rfl (Nat.le_of_eq rfl) at_113 (by decide) (by decide) 116 rfl WQ.fr (fun w17 T17 L17 h17 X17 q17 => ?_)
  obtain ⟨rfl, -, K17, F_q⟩ := q17
  replace E_q := E_q.keep K17
  show Go p e below E m T17 116 #[.val (.long i0), .second, .val (.long i1), .second, .val (.long i2), .second, .val (.long i3), .second, .val (.ref q), .val (.int (1 : Int32)), .val (.long i0), .second, .val (.long v11), .second, .unset, .unset, .unset, .unset] []
  refine go_lload X17 at_116 rfl 118 rfl ?_
  refine go_lload X17 at_118 rfl 120 rfl ?_
  refine go_ladd X17 at_120 121 rfl ?_
  refine go_nmL (fun v18 hv18 => ?_)
  refine go_lstore X17 #[.val (.long i0), .second, .val (.long i1), .second, .val (.long i2), .second, .val (.long i3), .second, .val (.ref q), .val (.int (1 : Int32)), .val (.long i0), .second, .val (.long v11), .second, .val (.long v18), .second, .unset, .unset] at_121 rfl 123 rfl ?_
  replace F_q : Fld Z h17 q "com/example/subpipeline/subpipeline/document/StepBudget" "left" "J" (.long v18) := by
      have e : (v11 + i2) = v18 := by first | rfl | (rw [Int64.zero_add]) | (subst_vars; rfl)
      rw [← e]; exact F_q
  refine go_iload X17 at_123 rfl 125 rfl ?_
  refine go_if X17 128 152 at_125 rfl (by decide) (by decide) (fun (hh : (1 : Int32) = (0 : Int32)) => absurd hh (by decide : ¬ ((1 : Int32) = (0 : Int32)))) (fun _ => ?_)
  refine go_aload X17 at_128 rfl rfl 130 rfl ?_
  refine go_callVs X17 0 [] [] (wd9 hw) (wd10 hw) (wd12 hw) (wd11 hw) (wd2 hw) (wd13 hw) (by decide) E_q (rm2 l Z a0 hw [] h17 n0 q v18  F_q) (by decide) (by decide) rfl (lenOf pd_1 rfl) rfl rfl (Nat.le_of_eq rfl) at_130 (by decide) (by decide) 133 rfl PQ.fr (PQ.k (fun T19 X19 => ?_))
  show Go p e below E m T19 133 #[.val (.long i0), .second, .val (.long i1), .second, .val (.long i2), .second, .val (.long i3), .second, .val (.ref q), .val (.int (1 : Int32)), .val (.long i0), .second, .val (.long v11), .second, .val (.long v18), .second, .unset, .unset] [(.int (own_over v18))]
  refine go_lload X19 at_133 rfl 135 rfl ?_
  refine go_lconst X19 (0 : Int64) at_135 (by decide) 136 rfl ?_
  refine go_cut (A := ∀ z20 : Int32, z20 = (if v18 < (0 : Int64) then (1 : Int32) else (0 : Int32)) → Go p e below E m T19 145 #[.val (.long i0), .second, .val (.long i1), .second, .val (.long i2), .second, .val (.long i3), .second, .val (.ref q), .val (.int (1 : Int32)), .val (.long i0), .second, .val (.long v11), .second, .val (.long v18), .second, .unset, .unset] [(.int z20), (.int (own_over v18))]) ?_ ?_
  · intro J21
    refine go_lif X19 137 140 144 at_136 rfl at_137 rfl (by decide) (by decide) ?_ ?_
    · intro (c22 : ¬ (v18 < (0 : Int64)))
      refine go_iconst X19 (0 : Int32) at_144 (by decide) 145 rfl ?_
      exact J21 _ (by first | rw [if_neg c22] | simp only [c22, if_true, if_false, ite_self] | rfl)
    intro c22
    replace c22 : v18 < (0 : Int64) := Decidable.not_not.mp c22
    refine go_iconst X19 (1 : Int32) at_140 (by decide) 141 rfl ?_
    refine go_goto X19 145 at_141 (by decide) (by decide) ?_
    exact J21 _ (by first | rw [if_pos c22] | simp only [c22, if_true, if_false, ite_self] | rfl)
  intro z20 hz20
  refine go_icmp X19 148 152 at_145 rfl (by decide) (by decide) ?_ ?_
  · intro (c23 : ¬ ((own_over v18) = z20))
    exfalso
    exact c23 (by rw [own_over]; exact hz20.symm)
  intro (c23 : ¬ (¬ ((own_over v18) = z20)))
  replace c23 : (own_over v18) = z20 := Decidable.not_not.mp c23
  refine go_iconst X19 (1 : Int32) at_148 (by decide) 149 rfl ?_
  refine go_goto X19 153 at_149 (by decide) (by decide) ?_
  refine go_istore X19 #[.val (.long i0), .second, .val (.long i1), .second, .val (.long i2), .second, .val (.long i3), .second, .val (.ref q), .val (.int (1 : Int32)), .val (.long i0), .second, .val (.long v11), .second, .val (.long v18), .second, .unset, .unset] at_153 rfl 155 rfl ?_
  refine go_aload X19 at_155 rfl rfl 157 rfl ?_
  refine go_lload X19 at_157 rfl 159 rfl ?_
  refine go_callVs X19 0 [(.long i3)] [] (wd21 hw) (wd22 hw) (wd24 hw) (wd23 hw) (wd2 hw) (wd25 hw) (by decide) E_q (rm4 l Z a0 hw [] h17 n0 q i3 v18 F_q E_q g_q) (by decide) (by decide) rfl (lenOf pd_2 rfl) rfl rfl (Nat.le_of_eq rfl) at_159 (by decide) (by decide) 162 rfl WQ.fr (fun w24 T24 L24 h24 X24 q24 => ?_)
  obtain ⟨rfl, -, K24, F_q⟩ := q24
  replace E_q := E_q.keep K24
  show Go p e below E m T24 162 #[.val (.long i0), .second, .val (.long i1), .second, .val (.long i2), .second, .val (.long i3), .second, .val (.ref q), .val (.int (1 : Int32)), .val (.long i0), .second, .val (.long v11), .second, .val (.long v18), .second, .unset, .unset] []
  refine go_lload X24 at_162 rfl 164 rfl ?_
  refine go_lload X24 at_164 rfl 166 rfl ?_
  refine go_lsub X24 at_166 167 rfl ?_
  refine go_nmL (fun v25 hv25 => ?_)
  refine go_lstore X24 #[.val (.long i0), .second, .val (.long i1), .second, .val (.long i2), .second, .val (.long i3), .second, .val (.ref q), .val (.int (1 : Int32)), .val (.long i0), .second, .val (.long v11), .second, .val (.long v18), .second, .val (.long v25), .second] at_167 rfl 169 rfl ?_
  replace F_q : Fld Z h24 q "com/example/subpipeline/subpipeline/document/StepBudget" "left" "J" (.long v25) := by
      have e : (v18 - i3) = v25 := by first | rfl | (rw [Int64.zero_add]) | (subst_vars; rfl)
      rw [← e]; exact F_q
  refine go_iload X24 at_169 rfl 171 rfl ?_
  refine go_if X24 174 198 at_171 rfl (by decide) (by decide) (fun (hh : (1 : Int32) = (0 : Int32)) => absurd hh (by decide : ¬ ((1 : Int32) = (0 : Int32)))) (fun _ => ?_)
  refine go_aload X24 at_174 rfl rfl 176 rfl ?_
  refine go_callVs X24 0 [] [] (wd9 hw) (wd10 hw) (wd12 hw) (wd11 hw) (wd2 hw) (wd13 hw) (by decide) E_q (rm2 l Z a0 hw [] h24 n0 q v25  F_q) (by decide) (by decide) rfl (lenOf pd_1 rfl) rfl rfl (Nat.le_of_eq rfl) at_176 (by decide) (by decide) 179 rfl PQ.fr (PQ.k (fun T26 X26 => ?_))
  show Go p e below E m T26 179 #[.val (.long i0), .second, .val (.long i1), .second, .val (.long i2), .second, .val (.long i3), .second, .val (.ref q), .val (.int (1 : Int32)), .val (.long i0), .second, .val (.long v11), .second, .val (.long v18), .second, .val (.long v25), .second] [(.int (own_over v25))]
  refine go_lload X26 at_179 rfl 181 rfl ?_
  refine go_lconst X26 (0 : Int64) at_181 (by decide) 182 rfl ?_
  refine go_cut (A := ∀ z27 : Int32, z27 = (if v25 < (0 : Int64) then (1 : Int32) else (0 : Int32)) → Go p e below E m T26 191 #[.val (.long i0), .second, .val (.long i1), .second, .val (.long i2), .second, .val (.long i3), .second, .val (.ref q), .val (.int (1 : Int32)), .val (.long i0), .second, .val (.long v11), .second, .val (.long v18), .second, .val (.long v25), .second] [(.int z27), (.int (own_over v25))]) ?_ ?_
  · intro J28
    refine go_lif X26 183 186 190 at_182 rfl at_183 rfl (by decide) (by decide) ?_ ?_
    · intro (c29 : ¬ (v25 < (0 : Int64)))
      refine go_iconst X26 (0 : Int32) at_190 (by decide) 191 rfl ?_
      exact J28 _ (by first | rw [if_neg c29] | simp only [c29, if_true, if_false, ite_self] | rfl)
    intro c29
    replace c29 : v25 < (0 : Int64) := Decidable.not_not.mp c29
    refine go_iconst X26 (1 : Int32) at_186 (by decide) 187 rfl ?_
    refine go_goto X26 191 at_187 (by decide) (by decide) ?_
    exact J28 _ (by first | rw [if_pos c29] | simp only [c29, if_true, if_false, ite_self] | rfl)
  intro z27 hz27
  refine go_icmp X26 194 198 at_191 rfl (by decide) (by decide) ?_ ?_
  · intro (c30 : ¬ ((own_over v25) = z27))
    exfalso
    exact c30 (by rw [own_over]; exact hz27.symm)
  intro (c30 : ¬ (¬ ((own_over v25) = z27)))
  replace c30 : (own_over v25) = z27 := Decidable.not_not.mp c30
  refine go_iconst X26 (1 : Int32) at_194 (by decide) 195 rfl ?_
  refine go_goto X26 199 at_195 (by decide) (by decide) ?_
  refine go_istore X26 #[.val (.long i0), .second, .val (.long i1), .second, .val (.long i2), .second, .val (.long i3), .second, .val (.ref q), .val (.int (1 : Int32)), .val (.long i0), .second, .val (.long v11), .second, .val (.long v18), .second, .val (.long v25), .second] at_199 rfl 201 rfl ?_
  refine go_iload X26 at_201 rfl 203 rfl ?_
  exact go_retN X26 hE (by simp) at_203 (fun L N => ⟨rfl, N⟩) (by decide) (by decide)
set_option maxRecDepth 65536 in
set_option maxHeartbeats 40000000 in
theorem comes_1 {Post : Tables → Env → Array Value → State → Outcome → State → Prop} (hpost : ∀ tb e args s v u, (limb_1_1.after args s (.returned v) u = true ∧ limb_1_2.after args s (.returned v) u = true ∧ True) → FrameEnd s (.returned v) u (Jvm.fieldLocs frame_1_writes args s ++ Jvm.arrayLocs frame_1_arrays args s ++ Jvm.staticLocs frame_1_statics s) 16 128 → Post tb e args s (.returned v) u) :
    ArmFor flags0 classFile x code maxLocals ret World_1 tables_1 room_1 Calls_1 rest_1 Pre_1 Post := by
  intro l hfl _ _ p e ha hc hk s m args below hf hA hF happ hP
  obtain ⟨hcalls, hrest, hpre⟩ := hP
  obtain ⟨-, -, -, hnamed, -, -, -, hat⟩ := (Spec.applies_iff hf).mp happ
  obtain ⟨hg, hn⟩ := and_e (Cond.before_iff.mp (show (Jvm.Cond.and given_1 narrow_1).before args s = true from hpre))
  obtain ⟨hcnt, hg⟩ := and_e hg
  obtain ⟨g0, hg⟩ := and_e hg
  obtain ⟨g1, hg⟩ := and_e hg
  obtain ⟨g2, hg⟩ := and_e hg
  have g3 := hg
  obtain ⟨w0, w1, w2, w3, rfl⟩ : ∃ w0 w1 w2 w3 : Value, args = #[w0, w1, w2, w3] := by
    have hs : args.size = 4 := by simpa [Cond.value, given_1] using hcnt
    obtain ⟨L⟩ := args
    match L, hs with
    | [w0, w1, w2, w3], _ => exact ⟨w0, w1, w2, w3, rfl⟩
  have hw := fun d (hd : d ∈ tables_1) => atoms_spec (ws := Jvm.Cond.code x code maxLocals ret :: tables_1) hat d (List.mem_cons_of_mem _ hd)
  obtain ⟨i0, ei0⟩ := isL_v g0
  obtain rfl : w0 = (.long i0) := Option.some.inj ei0
  obtain ⟨i1, ei1⟩ := isL_v g1
  obtain rfl : w1 = (.long i1) := Option.some.inj ei1
  obtain ⟨i2, ei2⟩ := isL_v g2
  obtain rfl : w2 = (.long i2) := Option.some.inj ei2
  obtain ⟨i3, ei3⟩ := isL_v g3
  obtain rfl : w3 = (.long i3) := Option.some.inj ei3
  obtain ⟨n, o, h1, h2, h3, _, L, rfl, ⟨rfl, N⟩, hq⟩ := rm0 l s _ hw tables_1 s.heap s.heap.size (Nat.le_refl _) i0 i1 i2 i3  p e ha hc hk s m _ below hf ((Spec.applies_iff_loose hf).mp happ).1 ⟨rfl, State.Warmed39.refl s, rfl⟩ trivial
  refine ⟨n, _, h1, h2, h3, hpost _ _ _ _ _ _ ⟨Cond.after_iff.mpr rfl, Cond.after_iff.mpr (eq_i res_at (Term.int_eval (1)) rfl), trivial⟩ ⟨hq.1, hq.2.1, (hq.2.2.sift fun y hy => Or.inr (N y hy)).mono (by decide) (by decide)⟩⟩
theorem main_1_1 : Claimed_1_1 := comes_1 fun _ _ _ _ _ _ h hF => ⟨h.1, hF⟩
theorem main_1_2 : Claimed_1_2 := comes_1 fun _ _ _ _ _ _ h hF => ⟨h.2.1, hF⟩
end Jvm.Pilot.@@N@@
namespace Jvm.Pilot.@@N@@
open Jvm Jvm.ClassFile Sem Op Lib Jvm.Free Jvm.Stand Jvm.Pilot.@@N@@.Jvm.D
/-! MADE BY PROGRAM (witnessworld.py) out of the Statement's table words and the real class files: 9 classes; the members and pool entries that the words name. The judged class is class 1, her method 1. -/
namespace start1
open Jvm.ClassFile
def u (s : String) : CpInfo := .utf8 (stringToUtf16 s)
/-- a pool by its gaps: so many unusable entries, then the entry; so many at the end -/
def gap : Nat → List CpInfo → List CpInfo
  | 0, r => r
  | n + 1, r => .unusable :: gap n r
def poolList (es : List (Nat × CpInfo)) (last : Nat) : List CpInfo := es.foldr (fun e r => gap e.1 (e.2 :: r)) (gap last [])
def pool (es : List (Nat × CpInfo)) (last : Nat) : Array CpInfo := ⟨poolList es last⟩
def fileOf (pool : Array CpInfo) (this : Nat) (attrs : Array Attribute := #[]) (ms : Array MethodInfo := #[]) (fl : Nat := 33) (sup : Nat := 0) (ifs : Array Nat := #[]) (fds : Array FieldInfo := #[]) : ClassFile where
  minorVersion := 0
  majorVersion := 65
  constantPool := pool
  accessFlags := fl
  thisClass := this
  superClass := sup
  interfaces := ifs
  fields := fds
  methods := ms
  attributes := attrs
def plain (name : String) (sup : Option ClassId) : Class where
  name := name
  kind := .ordinary
  loader := none
  accessFlags := 33
  super := sup
  interfaces := #[]
  cf := none
  fields := #[]
  methods := #[]
  instanceTypes := #[]
  staticTypes := #[]
  resolved := #[]
  callSites := []
  init := .initialized
  statics := none
  mirror := none

def pool0 : Array CpInfo := pool [(5, u "<init>"), (0, u "()V"), (1, .class_ 10), (1, u "java/lang/Object")] 113

def k0c0 : Code := { maxStack := 0, maxLocals := 1, code := object_method_1_code, exceptionTable := #[], attributes := #[] }
def k0m0 : Method := { name := "<init>", desc := "()V", sig := { parameters := [], returnType := none }, accessFlags := 1, code := some k0c0 }
/-- java/lang/Object -/
def k0 : Class := { plain "java/lang/Object" none with
  accessFlags := 33
  interfaces := #[]
  cf := some (fileOf pool0 8 #[] #[{ accessFlags := 1, nameIndex := 5, descriptorIndex := 6, attributes := #[] }] 33 0 #[] #[])
  fields := #[]
  methods := #[k0m0]
  instanceTypes := #[]
  staticTypes := #[]
  resolved := Array.replicate 124 none
  statics := none }

def pool1 : Array CpInfo := pool [(2, .class_ 4), (0, .nameAndType 5 6), (0, u "java/lang/Object"), (0, u "<init>"), (0, u "()V"), (0, .class_ 8), (0, u "com/example/subpipeline/subpipeline/document/StepBudget"), (0, .methodref 7 3), (0, .methodref 7 11), (0, .nameAndType 12 13), (0, u "overspent"), (0, u "()Z"), (0, .methodref 7 15), (0, .nameAndType 16 17), (0, u "allow"), (0, u "(J)V"), (0, .methodref 7 19), (0, .nameAndType 20 17), (0, u "spend"), (0, .class_ 22), (0, u "com/example/subpipeline/subpipeline/document/StepBudgetOverspentPinLaw"), (2, u "law"), (0, u "(JJJJ)Z")] 3

def k1m0 : Method := { name := "<init>", desc := "()V", sig := { parameters := [], returnType := none }, accessFlags := 1, code := none }
def k1c1 : Code := { maxStack := 5, maxLocals := 18, code := code, exceptionTable := #[], attributes := #[] }
def k1m1 : Method := { name := "law", desc := "(JJJJ)Z", sig := { parameters := [.long, .long, .long, .long], returnType := some .boolean }, accessFlags := 9, code := some k1c1 }
/-- com/example/subpipeline/subpipeline/document/StepBudgetOverspentPinLaw -/
def k1 : Class := { plain "com/example/subpipeline/subpipeline/document/StepBudgetOverspentPinLaw" (some 0) with
  accessFlags := 49
  interfaces := #[]
  cf := some (fileOf pool1 21 #[] #[{ accessFlags := 1, nameIndex := 5, descriptorIndex := 6, attributes := #[] }, { accessFlags := 9, nameIndex := 25, descriptorIndex := 26, attributes := #[] }] 49 2 #[] #[])
  fields := #[]
  methods := #[k1m0, k1m1]
  instanceTypes := #[]
  staticTypes := #[]
  resolved := Array.replicate 30 none
  statics := none }

def pool2 : Array CpInfo := pool [(1, .methodref 2 3), (0, .class_ 4), (0, .nameAndType 5 6), (0, u "java/lang/Object"), (0, u "<init>"), (0, u "()V"), (0, .fieldref 8 9), (0, .class_ 10), (0, .nameAndType 11 12), (0, u "com/example/subpipeline/subpipeline/document/StepBudget"), (0, u "left"), (0, u "J"), (2, u "allow"), (0, u "(J)V"), (0, u "spend"), (0, u "overspent"), (0, u "()Z")] 3

def k2c0 : Code := { maxStack := 1, maxLocals := 1, code := prog_10_method_1_code, exceptionTable := #[], attributes := #[] }
def k2m0 : Method := { name := "<init>", desc := "()V", sig := { parameters := [], returnType := none }, accessFlags := 0, code := some k2c0 }
def k2c1 : Code := { maxStack := 5, maxLocals := 3, code := prog_10_method_2_code, exceptionTable := #[], attributes := #[] }
def k2m1 : Method := { name := "allow", desc := "(J)V", sig := { parameters := [.long], returnType := none }, accessFlags := 0, code := some k2c1 }
def k2c2 : Code := { maxStack := 5, maxLocals := 3, code := prog_10_method_3_code, exceptionTable := #[], attributes := #[] }
def k2m2 : Method := { name := "spend", desc := "(J)V", sig := { parameters := [.long], returnType := none }, accessFlags := 0, code := some k2c2 }
def k2c3 : Code := { maxStack := 4, maxLocals := 1, code := prog_10_method_4_code, exceptionTable := #[], attributes := #[] }
def k2m3 : Method := { name := "overspent", desc := "()Z", sig := { parameters := [], returnType := some .boolean }, accessFlags := 0, code := some k2c3 }
/-- com/example/subpipeline/subpipeline/document/StepBudget -/
def k2 : Class := { plain "com/example/subpipeline/subpipeline/document/StepBudget" (some 0) with
  accessFlags := 32
  interfaces := #[]
  cf := some (fileOf pool2 8 #[] #[{ accessFlags := 0, nameIndex := 5, descriptorIndex := 6, attributes := #[] }, { accessFlags := 0, nameIndex := 15, descriptorIndex := 16, attributes := #[] }, { accessFlags := 0, nameIndex := 17, descriptorIndex := 16, attributes := #[] }, { accessFlags := 0, nameIndex := 18, descriptorIndex := 19, attributes := #[] }] 32 2 #[] #[{ accessFlags := 2, nameIndex := 11, descriptorIndex := 12, attributes := #[] }])
  fields := #[{ name := "left", type := .long, accessFlags := 2, slot := 0, constantValue := 0 }]
  methods := #[k2m0, k2m1, k2m2, k2m3]
  instanceTypes := #[.long]
  staticTypes := #[]
  resolved := Array.replicate 23 none
  statics := none }

def pool3 : Array CpInfo := pool [(1, u "java/lang/Cloneable"), (0, .class_ 1), (0, u "java/lang/Object"), (0, .class_ 3)] 3

/-- java/lang/Cloneable -/
def k3 : Class := { plain "java/lang/Cloneable" (some 0) with
  accessFlags := 1537
  interfaces := #[]
  cf := some (fileOf pool3 2 #[] #[] 1537 4 #[] #[])
  fields := #[]
  methods := #[]
  instanceTypes := #[]
  staticTypes := #[]
  resolved := Array.replicate 8 none
  statics := none }

def pool4 : Array CpInfo := pool [(1, u "java/io/Serializable"), (0, .class_ 1), (0, u "java/lang/Object"), (0, .class_ 3)] 3

/-- java/io/Serializable -/
def k4 : Class := { plain "java/io/Serializable" (some 0) with
  accessFlags := 1537
  interfaces := #[]
  cf := some (fileOf pool4 2 #[] #[] 1537 4 #[] #[])
  fields := #[]
  methods := #[]
  instanceTypes := #[]
  staticTypes := #[]
  resolved := Array.replicate 8 none
  statics := none }

/-- the primitive byte -/
def k5 : Class := { plain "byte" none with kind := .primitive 'B', accessFlags := 0x411 }
/-- [B -/
def k6 : Class := { plain "[B" (some 0) with kind := .array 5 .byte, interfaces := #[3, 4], accessFlags := 1041 }

/-- the primitive int -/
def k7 : Class := { plain "int" none with kind := .primitive 'I', accessFlags := 0x411 }
/-- [I -/
def k8 : Class := { plain "[I" (some 0) with kind := .array 7 .int, interfaces := #[3, 4], accessFlags := 1041 }

def heap : Heap := #[]
def classes : Array Class := #[k0, k1, k2, k3, k4, k5, k6, k7, k8]
def interned : List (Array UInt16 × Addr) := []
def slotsUsed : Nat := 0
def theMethod : MethodId := ⟨1, 1⟩
def args0 : Array Value := #[.long 5, .long 3, .long 7, .long 9]
def aboutOver (below : List Frame) : State where
  vm := { classes := classes, interned := interned.toArray }
  heap := heap
  slotsUsed := slotsUsed
  threads := #[{ frames := .invoking theMethod args0 :: below }]
def below0 : List Frame := [.native { method := ⟨0, 0⟩, args := #[] }]
def about1 : State := aboutOver below0
def p0 : Program := .bare "" "" ""
def e0 : Env := launch0.env 0 0 0
theorem w_frames : about1.frames = Frame.invoking theMethod args0 :: below0 := rfl
set_option maxRecDepth 65536 in
theorem w_args : argsFit about1.vm theMethod args0 = true := by decide +kernel
set_option maxRecDepth 65536 in
theorem w_heap : heapFits about1 = true := by decide +kernel
set_option maxRecDepth 65536 in
theorem w_runnable : about1.curStatus? = some .runnable := by decide +kernel
set_option maxRecDepth 65536 in
theorem w_alone : about1.alone = true := by decide +kernel
set_option maxRecDepth 65536 in
theorem w_named : about1.methodNamed? x = some theMethod := by decide +kernel
set_option maxRecDepth 65536 in
theorem w_hears : about1.hears theMethod below0 = true := by decide +kernel
set_option maxRecDepth 65536 in
theorem w_ripe : about1.ripe theMethod args0 below0 = true := by decide +kernel
theorem w_running : about1.status = .running := rfl
set_option maxRecDepth 65536 in
theorem w_room : about1.hasRoom e0.platform room_1 = true :=
  launch0.hasRoom_least _ room_1 (by decide +kernel) (by decide +kernel) (by decide +kernel) (by decide +kernel) (by decide +kernel) (by decide +kernel)
theorem allAtoms_all (ts : List Jvm.Cond) (a : Array Jvm.Value) (st : Jvm.State) : (allAtoms ts).before a st = ts.all (fun c => c.before a st) := by
  induction ts with
  | nil => rfl
  | cons c t ih =>
    show (Jvm.Cond.and c (allAtoms t)).before a st = _
    rw [Jvm.Cond.before_and, ih, List.all_cons]
def words1 : List Jvm.Cond := Jvm.Cond.code x code maxLocals ret :: tables_1
/-- a 'code' word, met by the world's own term for the bytes: nothing is compared byte by byte -/
theorem code_word {y : MethodName} {bytes : ByteArray} {mx : Nat} {rt : Option FieldType} {a : Array Value} {s : State} {m : MethodId} {meth : Method} {c : Code} (h1 : s.methodNamed? y = some m) (h2 : s.vm.method? m = some meth) (h3 : meth.code = some c) (h4 : c.code = bytes)
    (h5 : (c.maxLocals == mx && c.exceptionTable.isEmpty && decide (c.maxStack ≤ mostOperands) && decide (meth.sig.returnType = rt) && !meth.locks && decide (parseMethodDescriptor y.desc = some meth.sig)) = true) : (Jvm.Cond.code y bytes mx rt).before a s = true := by
  simp only [Bool.and_eq_true, beq_iff_eq, Bool.not_eq_true', decide_eq_true_eq] at h5
  obtain ⟨⟨⟨⟨⟨g1, g2⟩, g3⟩, g4⟩, g5⟩, g6⟩ := h5
  simp [Cond.before, Cond.holds, Cond.value, h1, h2, h3, h4, g1, g2, g3, g4, g5, g6]
def isCode : Jvm.Cond → Bool
  | .code _ _ _ _ => true
  | _ => false
theorem all_split {L : List Jvm.Cond} {P : Jvm.Cond → Bool} (h1 : L.all (fun c => isCode c || P c) = true) (h2 : ∀ c ∈ L.filter isCode, P c = true) : L.all P = true := by
  refine List.all_eq_true.mpr fun c hc => ?_
  have h := List.all_eq_true.mp h1 c hc
  rcases Bool.eq_false_or_eq_true (isCode c) with hi | hi
  · exact h2 c (List.mem_filter.mpr ⟨hc, hi⟩)
  · simpa [hi] using h
set_option maxRecDepth 65536 in
theorem w_c0 : (Jvm.Cond.code x code maxLocals ret).before args0 about1 = true := code_word (m := ⟨1, 1⟩) (meth := k1m1) (c := k1c1) (by decide +kernel) rfl rfl rfl (by decide +kernel)
set_option maxRecDepth 65536 in
theorem w_c1 : (Jvm.Cond.code ({ cls := "com/example/subpipeline/subpipeline/document/StepBudget", name := "<init>", desc := "()V" } : Jvm.MethodName) prog_10_method_1_code (1 : Nat) (Option.none : Option Jvm.ClassFile.FieldType)).before args0 about1 = true := code_word (m := ⟨2, 0⟩) (meth := k2m0) (c := k2c0) (by decide +kernel) rfl rfl rfl (by decide +kernel)
set_option maxRecDepth 65536 in
theorem w_c2 : (Jvm.Cond.code ({ cls := "java/lang/Object", name := "<init>", desc := "()V" } : Jvm.MethodName) object_method_1_code (1 : Nat) (Option.none : Option Jvm.ClassFile.FieldType)).before args0 about1 = true := code_word (m := ⟨0, 0⟩) (meth := k0m0) (c := k0c0) (by decide +kernel) rfl rfl rfl (by decide +kernel)
set_option maxRecDepth 65536 in
theorem w_c3 : (Jvm.Cond.code ({ cls := "com/example/subpipeline/subpipeline/document/StepBudget", name := "overspent", desc := "()Z" } : Jvm.MethodName) prog_10_method_4_code (1 : Nat) (Option.some Jvm.ClassFile.FieldType.boolean)).before args0 about1 = true := code_word (m := ⟨2, 3⟩) (meth := k2m3) (c := k2c3) (by decide +kernel) rfl rfl rfl (by decide +kernel)
set_option maxRecDepth 65536 in
theorem w_c4 : (Jvm.Cond.code ({ cls := "com/example/subpipeline/subpipeline/document/StepBudget", name := "allow", desc := "(J)V" } : Jvm.MethodName) prog_10_method_2_code (3 : Nat) (Option.none : Option Jvm.ClassFile.FieldType)).before args0 about1 = true := code_word (m := ⟨2, 1⟩) (meth := k2m1) (c := k2c1) (by decide +kernel) rfl rfl rfl (by decide +kernel)
set_option maxRecDepth 65536 in
theorem w_c5 : (Jvm.Cond.code ({ cls := "com/example/subpipeline/subpipeline/document/StepBudget", name := "spend", desc := "(J)V" } : Jvm.MethodName) prog_10_method_3_code (3 : Nat) (Option.none : Option Jvm.ClassFile.FieldType)).before args0 about1 = true := code_word (m := ⟨2, 2⟩) (meth := k2m2) (c := k2c2) (by decide +kernel) rfl rfl rfl (by decide +kernel)
def codes1 : List Jvm.Cond := [Jvm.Cond.code x code maxLocals ret, Jvm.Cond.code ({ cls := "com/example/subpipeline/subpipeline/document/StepBudget", name := "<init>", desc := "()V" } : Jvm.MethodName) prog_10_method_1_code (1 : Nat) (Option.none : Option Jvm.ClassFile.FieldType), Jvm.Cond.code ({ cls := "java/lang/Object", name := "<init>", desc := "()V" } : Jvm.MethodName) object_method_1_code (1 : Nat) (Option.none : Option Jvm.ClassFile.FieldType), Jvm.Cond.code ({ cls := "com/example/subpipeline/subpipeline/document/StepBudget", name := "overspent", desc := "()Z" } : Jvm.MethodName) prog_10_method_4_code (1 : Nat) (Option.some Jvm.ClassFile.FieldType.boolean), Jvm.Cond.code ({ cls := "com/example/subpipeline/subpipeline/document/StepBudget", name := "allow", desc := "(J)V" } : Jvm.MethodName) prog_10_method_2_code (3 : Nat) (Option.none : Option Jvm.ClassFile.FieldType), Jvm.Cond.code ({ cls := "com/example/subpipeline/subpipeline/document/StepBudget", name := "spend", desc := "(J)V" } : Jvm.MethodName) prog_10_method_3_code (3 : Nat) (Option.none : Option Jvm.ClassFile.FieldType)]
set_option maxRecDepth 65536 in
theorem codes_eq : words1.filter isCode = codes1 := rfl
theorem w_codes : ∀ c ∈ words1.filter isCode, c.before args0 about1 = true := by
  rw [codes_eq]
  intro c hc
  simp only [codes1, List.mem_cons, List.not_mem_nil, or_false] at hc
  rcases hc with rfl | rfl | rfl | rfl | rfl | rfl
  · exact w_c0
  · exact w_c1
  · exact w_c2
  · exact w_c3
  · exact w_c4
  · exact w_c5
set_option maxRecDepth 65536 in
theorem w_t1 : (words1.take 24).all (fun c => isCode c || c.before args0 about1) = true := by decide +kernel
set_option maxRecDepth 65536 in
theorem w_t2 : (words1.drop 24).all (fun c => isCode c || c.before args0 about1) = true := by decide +kernel
theorem w_tables : (allAtoms (Jvm.Cond.code x code maxLocals ret :: tables_1)).before args0 about1 = true := by
  rw [allAtoms_all]
  show words1.all (fun c => c.before args0 about1) = true
  refine all_split ?_ w_codes
  rw [← List.take_append_drop 24 words1, List.all_append, w_t1, w_t2]
  rfl
set_option maxRecDepth 65536 in
theorem w_case : (Jvm.Cond.and given_1 narrow_1).before args0 about1 = true := by decide +kernel
theorem w_applies : (headSpec (Jvm.Cond.code x code maxLocals ret :: tables_1) room_1).applies x e0.platform about1 = true :=
  (Spec.applies_iff w_frames).mpr ⟨w_running, w_runnable, w_alone, w_named, w_hears, w_ripe, w_room, w_tables⟩
theorem atStart : AtStart classFile x code maxLocals ret World_1 tables_1 room_1 Calls_1 rest_1 Pre_1 launch0 p0 e0 about1 theMethod args0 below0 :=
  ⟨lists_1, trivial, launch0.admits_env _ _ _, launch0.least_env, fairChoices_fair.cas, fairChoices_fair.clock, w_frames, w_args, w_heap, w_applies, trivial, trivial, w_case⟩
end start1
theorem witness_1 : WitnessClaimed_1 := ⟨start1.p0, start1.e0, start1.about1, start1.theMethod, start1.args0, start1.below0, start1.atStart⟩
end Jvm.Pilot.@@N@@
