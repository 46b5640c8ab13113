import JvmDerived
import JvmDerived.Pilot.@@N@@Statement
import JvmDerived.Pilot.@@N@@Code
set_option linter.unusedVariables false
set_option linter.unusedSimpArgs false
namespace Jvm.Pilot.@@N@@
open Jvm Jvm.ClassFile Sem Op Lib Jvm.Free Jvm.Stand Jvm.LawKit Jvm.RoadKit Bundle Jvm.Pilot.@@N@@.Jvm.D
section OwnGo
variable {p : Program} {l : Launch} {e : Env} {R : Room} {s : State} {m : MethodId} {args : Array Value} {below : List Frame} {meth : Method} {c : Code} {Z : State} {n0 kc ks : Nat} {Q : Option Value → Heap → Prop} {y : MethodName} {bytes : ByteArray} {maxL : Nat} {ret : Option FieldType} {h h' : Heap} {cs sl : Nat} {pc pc' : Nat} {Ls Ls' : Array Slot} {st : List Value} {a0 : Array Value}
def Ctx (p : Program) (s : State) (m : MethodId) (meth : Method) (c : Code) (Z : State) (y : MethodName) (bytes : ByteArray) (maxL : Nat) (ret : Option FieldType) : Prop :=
  p.tables.exec = Jvm.exec ∧ c.code = bytes ∧ c.maxLocals = maxL ∧ meth.sig.returnType = ret ∧ meth.locks = false ∧ Z.Warmed39 s.vm ∧ s.vm.findClass y.cls = some m.cls ∧ meth.name = y.name
def Go (p : Program) (l : Launch) (e : Env) (R : Room) (s : State) (m : MethodId) (args : Array Value) (below : List Frame) (meth : Method) (c : Code) (Z : State) (n0 : Nat) (Q : Option Value → Heap → Prop) (kc ks : Nat) (h : Heap) (cs sl : Nat) (g : JFrame) : Prop :=
  ∀ (T : State) (L : List Loc), Fr n0 L → Old Z n0 h → Stand p l e R s m args below meth c T L cs sl → T.heap = h →
    ∃ (U : State) (v : Option Value) (L' : List Loc), Steps p.tables e below (T.setTop g) U ∧ U.status = .running ∧ Ended U below (.returned v) ∧ Fr n0 L' ∧ Old Z n0 U.heap ∧ s.WarmedH U.vm ∧ s.sameButNew ({ U with vm := s.vm } : State) L' kc ks ∧ Q v U.heap
def Met (l : Launch) (Z : State) (n0 : Nat) (y : MethodName) (bytes : ByteArray) (maxL : Nat) (ret : Option FieldType) (ws : List Jvm.Cond) (rm : Room) (as : Array Value) (h : Heap) (Q : Option Value → Heap → Prop) : Prop :=
  MetFree l y (head1 (Jvm.Cond.code y bytes maxL ret :: ws) rm) (fun a U => a = as ∧ Z.Warmed39 U.vm ∧ U.heap = h) (fun _ _ _ _ _ => True) (fun _ U o U' => ∃ v L, o = .returned v ∧ (Fr n0 L ∧ Old Z n0 U'.heap ∧ Q v U'.heap) ∧ FrameEnd U o U' L rm.cells rm.slots)
theorem met_of {ws : List Jvm.Cond} {rm : Room} {as : Array Value} (hpl : plainFor y = true) (hef : ∀ m, entryFrame m as maxL = mkF m 0 Ls []) (O : Old Z n0 h)
    (body : ∀ p e s m below meth c, Ctx p s m meth c Z y bytes maxL ret → Go p l e rm s m as below meth c Z n0 Q rm.cells rm.slots h 0 0 (mkF m 0 Ls [])) : Met l Z n0 y bytes maxL ret ws rm as h Q := by
  refine MetFree.of_bodySF hpl hisR ?_
  intro p e s m args below meth c s₁ Bd hml hP hK
  obtain ⟨rfl, hZ, hh⟩ := hP
  have X0 := Stand.of_body Bd
  obtain ⟨U, v, L', h1, h2, h3, h4, h5, h6, h7, h8⟩ := body p e s m below meth c ⟨Bd.exec, Bd.bytes, hml, Bd.returns, Bd.notSynchronized, hZ, findClass_of_methodNamed Bd.named, (name_of_methodNamed Bd.named Bd.method).1⟩ s₁ [] (Fr.nil n0) O X0 (by rw [← hh, Bd.state]; rfl)
  exact ⟨U, _, castTop (hef m) h1, h2, h3, v, L', rfl, ⟨h4, h5, h8⟩, ⟨_, rfl⟩, h6, h7⟩
theorem Met.mono {ws : List Jvm.Cond} {rm : Room} {as : Array Value} {Q' : Option Value → Heap → Prop} (M : Met l Z n0 y bytes maxL ret ws rm as h Q) (q : ∀ v h', Q v h' → Q' v h') : Met l Z n0 y bytes maxL ret ws rm as h Q' := by
  unfold Met at M ⊢
  refine MetFree.mono M (fun _ _ h => h) (fun _ _ _ _ _ h => h) ?_
  rintro _ _ _ _ _ ⟨v, L, h1, ⟨h2, h3, h4⟩, h5⟩
  exact ⟨v, L, h1, ⟨h2, h3, q _ _ h4⟩, h5⟩
theorem go_step {g g' : JFrame} (K : Go p l e R s m args below meth c Z n0 Q kc ks h cs sl g') (hs : ∀ T t, At T m c below → Steps p.tables e below (T.setTop g') t → Steps p.tables e below (T.setTop g) t) : Go p l e R s m args below meth c Z n0 Q kc ks h cs sl g := fun T L hL O X eT => by
  obtain ⟨U, v, L', h1, r⟩ := K T L hL O X eT
  exact ⟨U, v, L', hs T U X.here h1, r⟩
theorem go_stepX {g g' : JFrame} (K : Go p l e R s m args below meth c Z n0 Q kc ks h cs sl g') (hs : ∀ T t L, Stand p l e R s m args below meth c T L cs sl → T.heap = h → Steps p.tables e below (T.setTop g') t → Steps p.tables e below (T.setTop g) t) : Go p l e R s m args below meth c Z n0 Q kc ks h cs sl g := fun T L hL O X eT => by
  obtain ⟨U, v, L', h1, r⟩ := K T L hL O X eT
  exact ⟨U, v, L', hs T U L X eT h1, r⟩
theorem go_stepT {g g' : JFrame} (K : Go p l e R s m args below meth c Z n0 Q kc ks h cs sl g') (hs : ∀ T L, Stand p l e R s m args below meth c T L cs sl → T.heap = h → ∃ T', Stand p l e R s m args below meth c T' L cs sl ∧ T'.heap = h ∧ ∀ t, Steps p.tables e below (T'.setTop g') t → Steps p.tables e below (T.setTop g) t) : Go p l e R s m args below meth c Z n0 Q kc ks h cs sl g := fun T L hL O X eT => by
  obtain ⟨T', X', e', hs'⟩ := hs T L X eT
  obtain ⟨U, v, L', h1, r⟩ := K T' L hL O X' e'
  exact ⟨U, v, L', hs' U h1, r⟩
theorem go_old {g : JFrame} (K : Old Z n0 h → Go p l e R s m args below meth c Z n0 Q kc ks h cs sl g) : Go p l e R s m args below meth c Z n0 Q kc ks h cs sl g := fun T L hL O => K O T L hL O
theorem go_more {g : JFrame} {cs' sl' : Nat} (hc : cs ≤ cs') (hs : sl ≤ sl') (K : Go p l e R s m args below meth c Z n0 Q kc ks h cs' sl' g) : Go p l e R s m args below meth c Z n0 Q kc ks h cs sl g := fun T L hL O X eT => K T L hL O (X.more hc hs) eT
theorem go_st {st' : List Value} (e0 : st = st') (K : Go p l e R s m args below meth c Z n0 Q kc ks h cs sl (mkF m pc Ls st')) : Go p l e R s m args below meth c Z n0 Q kc ks h cs sl (mkF m pc Ls st) := e0 ▸ K
theorem go_ls (e0 : Ls = Ls') (K : Go p l e R s m args below meth c Z n0 Q kc ks h cs sl (mkF m pc Ls' st)) : Go p l e R s m args below meth c Z n0 Q kc ks h cs sl (mkF m pc Ls st) := e0 ▸ K
theorem go_h {h' : Heap} {g : JFrame} (e0 : h = h') (K : Go p l e R s m args below meth c Z n0 Q kc ks h' cs sl g) : Go p l e R s m args below meth c Z n0 Q kc ks h cs sl g := e0 ▸ K
theorem go_iload (C : Ctx p s m meth c Z y bytes maxL ret) {k : Nat} {x : Int32} (hd : decode bytes pc = .ok (.iload k, 2)) (hl : Ls[k]? = some (.val (.int x))) (hp : pc + 2 = pc') (K : Go p l e R s m args below meth c Z n0 Q kc ks h cs sl (mkF m pc' Ls (.int x :: st))) : Go p l e R s m args below meth c Z n0 Q kc ks h cs sl (mkF m pc Ls (st)) := by
  subst hp
  exact go_step K fun T t a k => XS.iload a C.1 rfl (hb C.2.1 hd) hl k
theorem go_iloadN (C : Ctx p s m meth c Z y bytes maxL ret) {k : Fin 4} {x : Int32} (hd : decode bytes pc = .ok (.iload_n k, 1)) (hl : Ls[k.val]? = some (.val (.int x))) (hp : pc + 1 = pc') (K : Go p l e R s m args below meth c Z n0 Q kc ks h cs sl (mkF m pc' Ls (.int x :: st))) : Go p l e R s m args below meth c Z n0 Q kc ks h cs sl (mkF m pc Ls (st)) := by
  subst hp
  exact go_step K fun T t a k => XS.iloadN a C.1 rfl (hb C.2.1 hd) hl k
theorem go_lload (C : Ctx p s m meth c Z y bytes maxL ret) {k : Nat} {x : Int64} (hd : decode bytes pc = .ok (.lload k, 2)) (hl : Ls[k]? = some (.val (.long x))) (hp : pc + 2 = pc') (K : Go p l e R s m args below meth c Z n0 Q kc ks h cs sl (mkF m pc' Ls (.long x :: st))) : Go p l e R s m args below meth c Z n0 Q kc ks h cs sl (mkF m pc Ls (st)) := by
  subst hp
  exact go_step K fun T t a k => XS.lload a C.1 rfl (hb C.2.1 hd) hl k
theorem go_lloadN (C : Ctx p s m meth c Z y bytes maxL ret) {k : Fin 4} {x : Int64} (hd : decode bytes pc = .ok (.lload_n k, 1)) (hl : Ls[k.val]? = some (.val (.long x))) (hp : pc + 1 = pc') (K : Go p l e R s m args below meth c Z n0 Q kc ks h cs sl (mkF m pc' Ls (.long x :: st))) : Go p l e R s m args below meth c Z n0 Q kc ks h cs sl (mkF m pc Ls (st)) := by
  subst hp
  exact go_step K fun T t a k => XS.lloadN a C.1 rfl (hb C.2.1 hd) hl k
theorem go_aload (C : Ctx p s m meth c Z y bytes maxL ret) {k : Nat} {v : Value} (hd : decode bytes pc = .ok (.aload k, 2)) (hl : Ls[k]? = some (.val v)) (hv : v.isRef = true) (hp : pc + 2 = pc') (K : Go p l e R s m args below meth c Z n0 Q kc ks h cs sl (mkF m pc' Ls (v :: st))) : Go p l e R s m args below meth c Z n0 Q kc ks h cs sl (mkF m pc Ls (st)) := by
  subst hp
  exact go_step K fun T t a k => XS.aload a C.1 rfl (hb C.2.1 hd) hl hv k
theorem go_aloadN (C : Ctx p s m meth c Z y bytes maxL ret) {k : Fin 4} {v : Value} (hd : decode bytes pc = .ok (.aload_n k, 1)) (hl : Ls[k.val]? = some (.val v)) (hv : v.isRef = true) (hp : pc + 1 = pc') (K : Go p l e R s m args below meth c Z n0 Q kc ks h cs sl (mkF m pc' Ls (v :: st))) : Go p l e R s m args below meth c Z n0 Q kc ks h cs sl (mkF m pc Ls (st)) := by
  subst hp
  exact go_step K fun T t a k => XS.aloadN a C.1 rfl (hb C.2.1 hd) hl hv k
theorem go_istore (C : Ctx p s m meth c Z y bytes maxL ret) {k : Nat} {x : Int32} (hd : decode bytes pc = .ok (.istore k, 2)) (hl : storeLocals Ls k (.int x) = some Ls') (hp : pc + 2 = pc') (K : Go p l e R s m args below meth c Z n0 Q kc ks h cs sl (mkF m pc' Ls' (st))) : Go p l e R s m args below meth c Z n0 Q kc ks h cs sl (mkF m pc Ls (.int x :: st)) := by
  subst hp
  exact go_step K fun T t a k => XS.istore a C.1 rfl (hb C.2.1 hd) rfl hl k
theorem go_istoreN (C : Ctx p s m meth c Z y bytes maxL ret) {k : Fin 4} {x : Int32} (hd : decode bytes pc = .ok (.istore_n k, 1)) (hl : storeLocals Ls k.val (.int x) = some Ls') (hp : pc + 1 = pc') (K : Go p l e R s m args below meth c Z n0 Q kc ks h cs sl (mkF m pc' Ls' (st))) : Go p l e R s m args below meth c Z n0 Q kc ks h cs sl (mkF m pc Ls (.int x :: st)) := by
  subst hp
  exact go_step K fun T t a k => XS.istoreN a C.1 rfl (hb C.2.1 hd) rfl hl k
theorem go_lstore (C : Ctx p s m meth c Z y bytes maxL ret) {k : Nat} {x : Int64} (hd : decode bytes pc = .ok (.lstore k, 2)) (hl : storeLocals Ls k (.long x) = some Ls') (hp : pc + 2 = pc') (K : Go p l e R s m args below meth c Z n0 Q kc ks h cs sl (mkF m pc' Ls' (st))) : Go p l e R s m args below meth c Z n0 Q kc ks h cs sl (mkF m pc Ls (.long x :: st)) := by
  subst hp
  exact go_step K fun T t a k => XS.lstore a C.1 rfl (hb C.2.1 hd) rfl hl k
theorem go_lstoreN (C : Ctx p s m meth c Z y bytes maxL ret) {k : Fin 4} {x : Int64} (hd : decode bytes pc = .ok (.lstore_n k, 1)) (hl : storeLocals Ls k.val (.long x) = some Ls') (hp : pc + 1 = pc') (K : Go p l e R s m args below meth c Z n0 Q kc ks h cs sl (mkF m pc' Ls' (st))) : Go p l e R s m args below meth c Z n0 Q kc ks h cs sl (mkF m pc Ls (.long x :: st)) := by
  subst hp
  exact go_step K fun T t a k => XS.lstoreN a C.1 rfl (hb C.2.1 hd) rfl hl k
theorem go_astore (C : Ctx p s m meth c Z y bytes maxL ret) {k : Nat} {v : Value} (hd : decode bytes pc = .ok (.astore k, 2)) (hv : v.isRef = true) (hl : storeLocals Ls k v = some Ls') (hp : pc + 2 = pc') (K : Go p l e R s m args below meth c Z n0 Q kc ks h cs sl (mkF m pc' Ls' (st))) : Go p l e R s m args below meth c Z n0 Q kc ks h cs sl (mkF m pc Ls (v :: st)) := by
  subst hp
  exact go_step K fun T t a k => XS.astore a C.1 rfl (hb C.2.1 hd) rfl hv hl k
theorem go_astoreN (C : Ctx p s m meth c Z y bytes maxL ret) {k : Fin 4} {v : Value} (hd : decode bytes pc = .ok (.astore_n k, 1)) (hv : v.isRef = true) (hl : storeLocals Ls k.val v = some Ls') (hp : pc + 1 = pc') (K : Go p l e R s m args below meth c Z n0 Q kc ks h cs sl (mkF m pc' Ls' (st))) : Go p l e R s m args below meth c Z n0 Q kc ks h cs sl (mkF m pc Ls (v :: st)) := by
  subst hp
  exact go_step K fun T t a k => XS.astoreN a C.1 rfl (hb C.2.1 hd) rfl hv hl k
theorem go_iinc (C : Ctx p s m meth c Z y bytes maxL ret) {k : Nat} {cst : Int} {x : Int32} (hd : decode bytes pc = .ok (.iinc k cst, 3)) (hl : Ls[k]? = some (.val (.int x))) (hl' : storeLocals Ls k (.int (x + Int32.ofInt cst)) = some Ls') (hp : pc + 3 = pc') (K : Go p l e R s m args below meth c Z n0 Q kc ks h cs sl (mkF m pc' Ls' (st))) : Go p l e R s m args below meth c Z n0 Q kc ks h cs sl (mkF m pc Ls (st)) := by
  subst hp
  exact go_step K fun T t a k => XS.iinc a C.1 rfl (hb C.2.1 hd) hl hl' k
theorem go_iconst (C : Ctx p s m meth c Z y bytes maxL ret) {i : Int} {z : Int32} (hd : decode bytes pc = .ok (.iconst i, 1)) (hz : Int32.ofInt i = z) (hp : pc + 1 = pc') (K : Go p l e R s m args below meth c Z n0 Q kc ks h cs sl (mkF m pc' Ls (.int z :: st))) : Go p l e R s m args below meth c Z n0 Q kc ks h cs sl (mkF m pc Ls (st)) := by
  subst hp hz
  exact go_step K fun T t a k => XS.iconst a C.1 rfl (hb C.2.1 hd) k
theorem go_bipush (C : Ctx p s m meth c Z y bytes maxL ret) {i : Int} {z : Int32} (hd : decode bytes pc = .ok (.bipush i, 2)) (hz : (Int8.ofInt i).toInt32 = z) (hp : pc + 2 = pc') (K : Go p l e R s m args below meth c Z n0 Q kc ks h cs sl (mkF m pc' Ls (.int z :: st))) : Go p l e R s m args below meth c Z n0 Q kc ks h cs sl (mkF m pc Ls (st)) := by
  subst hp hz
  exact go_step K fun T t a k => XS.bipush a C.1 rfl (hb C.2.1 hd) k
theorem go_sipush (C : Ctx p s m meth c Z y bytes maxL ret) {i : Int} {z : Int32} (hd : decode bytes pc = .ok (.sipush i, 3)) (hz : (Int16.ofInt i).toInt32 = z) (hp : pc + 3 = pc') (K : Go p l e R s m args below meth c Z n0 Q kc ks h cs sl (mkF m pc' Ls (.int z :: st))) : Go p l e R s m args below meth c Z n0 Q kc ks h cs sl (mkF m pc Ls (st)) := by
  subst hp hz
  exact go_step K fun T t a k => XS.sipush a C.1 rfl (hb C.2.1 hd) k
theorem go_lconst (C : Ctx p s m meth c Z y bytes maxL ret) {k : Fin 2} {z : Int64} (hd : decode bytes pc = .ok (.lconst k, 1)) (hz : Int64.ofNat k = z) (hp : pc + 1 = pc') (K : Go p l e R s m args below meth c Z n0 Q kc ks h cs sl (mkF m pc' Ls (.long z :: st))) : Go p l e R s m args below meth c Z n0 Q kc ks h cs sl (mkF m pc Ls (st)) := by
  subst hp hz
  exact go_step K fun T t a k => XS.lconst a C.1 rfl (hb C.2.1 hd) k
theorem go_aconstNull (C : Ctx p s m meth c Z y bytes maxL ret)  (hd : decode bytes pc = .ok (.aconst_null, 1))  (hp : pc + 1 = pc') (K : Go p l e R s m args below meth c Z n0 Q kc ks h cs sl (mkF m pc' Ls (.null :: st))) : Go p l e R s m args below meth c Z n0 Q kc ks h cs sl (mkF m pc Ls (st)) := by
  subst hp
  exact go_step K fun T t a k => XS.aconstNull a C.1 rfl (hb C.2.1 hd) k
theorem go_iadd (C : Ctx p s m meth c Z y bytes maxL ret) {x y : Int32} (hd : decode bytes pc = .ok (.iadd, 1))  (hp : pc + 1 = pc') (K : Go p l e R s m args below meth c Z n0 Q kc ks h cs sl (mkF m pc' Ls (.int (x + y) :: st))) : Go p l e R s m args below meth c Z n0 Q kc ks h cs sl (mkF m pc Ls (.int y :: .int x :: st)) := by
  subst hp
  exact go_step K fun T t a k => XS.iadd a C.1 rfl (hb C.2.1 hd) rfl k
theorem go_ladd (C : Ctx p s m meth c Z y bytes maxL ret) {x y : Int64} (hd : decode bytes pc = .ok (.ladd, 1))  (hp : pc + 1 = pc') (K : Go p l e R s m args below meth c Z n0 Q kc ks h cs sl (mkF m pc' Ls (.long (x + y) :: st))) : Go p l e R s m args below meth c Z n0 Q kc ks h cs sl (mkF m pc Ls (.long y :: .long x :: st)) := by
  subst hp
  exact go_step K fun T t a k => XS.ladd a C.1 rfl (hb C.2.1 hd) rfl k
theorem go_isub (C : Ctx p s m meth c Z y bytes maxL ret) {x y : Int32} (hd : decode bytes pc = .ok (.isub, 1))  (hp : pc + 1 = pc') (K : Go p l e R s m args below meth c Z n0 Q kc ks h cs sl (mkF m pc' Ls (.int (x - y) :: st))) : Go p l e R s m args below meth c Z n0 Q kc ks h cs sl (mkF m pc Ls (.int y :: .int x :: st)) := by
  subst hp
  exact go_step K fun T t a k => XS.isub a C.1 rfl (hb C.2.1 hd) rfl k
theorem go_lsub (C : Ctx p s m meth c Z y bytes maxL ret) {x y : Int64} (hd : decode bytes pc = .ok (.lsub, 1))  (hp : pc + 1 = pc') (K : Go p l e R s m args below meth c Z n0 Q kc ks h cs sl (mkF m pc' Ls (.long (x - y) :: st))) : Go p l e R s m args below meth c Z n0 Q kc ks h cs sl (mkF m pc Ls (.long y :: .long x :: st)) := by
  subst hp
  exact go_step K fun T t a k => XS.lsub a C.1 rfl (hb C.2.1 hd) rfl k
theorem go_imul (C : Ctx p s m meth c Z y bytes maxL ret) {x y : Int32} (hd : decode bytes pc = .ok (.imul, 1))  (hp : pc + 1 = pc') (K : Go p l e R s m args below meth c Z n0 Q kc ks h cs sl (mkF m pc' Ls (.int (x * y) :: st))) : Go p l e R s m args below meth c Z n0 Q kc ks h cs sl (mkF m pc Ls (.int y :: .int x :: st)) := by
  subst hp
  exact go_step K fun T t a k => XS.imul a C.1 rfl (hb C.2.1 hd) rfl k
theorem go_lmul (C : Ctx p s m meth c Z y bytes maxL ret) {x y : Int64} (hd : decode bytes pc = .ok (.lmul, 1))  (hp : pc + 1 = pc') (K : Go p l e R s m args below meth c Z n0 Q kc ks h cs sl (mkF m pc' Ls (.long (x * y) :: st))) : Go p l e R s m args below meth c Z n0 Q kc ks h cs sl (mkF m pc Ls (.long y :: .long x :: st)) := by
  subst hp
  exact go_step K fun T t a k => XS.lmul a C.1 rfl (hb C.2.1 hd) rfl k
theorem go_iand (C : Ctx p s m meth c Z y bytes maxL ret) {x y : Int32} (hd : decode bytes pc = .ok (.iand, 1))  (hp : pc + 1 = pc') (K : Go p l e R s m args below meth c Z n0 Q kc ks h cs sl (mkF m pc' Ls (.int (x &&& y) :: st))) : Go p l e R s m args below meth c Z n0 Q kc ks h cs sl (mkF m pc Ls (.int y :: .int x :: st)) := by
  subst hp
  exact go_step K fun T t a k => XS.iand a C.1 rfl (hb C.2.1 hd) rfl k
theorem go_land (C : Ctx p s m meth c Z y bytes maxL ret) {x y : Int64} (hd : decode bytes pc = .ok (.land, 1))  (hp : pc + 1 = pc') (K : Go p l e R s m args below meth c Z n0 Q kc ks h cs sl (mkF m pc' Ls (.long (x &&& y) :: st))) : Go p l e R s m args below meth c Z n0 Q kc ks h cs sl (mkF m pc Ls (.long y :: .long x :: st)) := by
  subst hp
  exact go_step K fun T t a k => XS.land a C.1 rfl (hb C.2.1 hd) rfl k
theorem go_ior (C : Ctx p s m meth c Z y bytes maxL ret) {x y : Int32} (hd : decode bytes pc = .ok (.ior, 1))  (hp : pc + 1 = pc') (K : Go p l e R s m args below meth c Z n0 Q kc ks h cs sl (mkF m pc' Ls (.int (x ||| y) :: st))) : Go p l e R s m args below meth c Z n0 Q kc ks h cs sl (mkF m pc Ls (.int y :: .int x :: st)) := by
  subst hp
  exact go_step K fun T t a k => XS.ior a C.1 rfl (hb C.2.1 hd) rfl k
theorem go_lor (C : Ctx p s m meth c Z y bytes maxL ret) {x y : Int64} (hd : decode bytes pc = .ok (.lor, 1))  (hp : pc + 1 = pc') (K : Go p l e R s m args below meth c Z n0 Q kc ks h cs sl (mkF m pc' Ls (.long (x ||| y) :: st))) : Go p l e R s m args below meth c Z n0 Q kc ks h cs sl (mkF m pc Ls (.long y :: .long x :: st)) := by
  subst hp
  exact go_step K fun T t a k => XS.lor a C.1 rfl (hb C.2.1 hd) rfl k
theorem go_ixor (C : Ctx p s m meth c Z y bytes maxL ret) {x y : Int32} (hd : decode bytes pc = .ok (.ixor, 1))  (hp : pc + 1 = pc') (K : Go p l e R s m args below meth c Z n0 Q kc ks h cs sl (mkF m pc' Ls (.int (x ^^^ y) :: st))) : Go p l e R s m args below meth c Z n0 Q kc ks h cs sl (mkF m pc Ls (.int y :: .int x :: st)) := by
  subst hp
  exact go_step K fun T t a k => XS.ixor a C.1 rfl (hb C.2.1 hd) rfl k
theorem go_lxor (C : Ctx p s m meth c Z y bytes maxL ret) {x y : Int64} (hd : decode bytes pc = .ok (.lxor, 1))  (hp : pc + 1 = pc') (K : Go p l e R s m args below meth c Z n0 Q kc ks h cs sl (mkF m pc' Ls (.long (x ^^^ y) :: st))) : Go p l e R s m args below meth c Z n0 Q kc ks h cs sl (mkF m pc Ls (.long y :: .long x :: st)) := by
  subst hp
  exact go_step K fun T t a k => XS.lxor a C.1 rfl (hb C.2.1 hd) rfl k
theorem go_ishl (C : Ctx p s m meth c Z y bytes maxL ret) {x y : Int32} (hd : decode bytes pc = .ok (.ishl, 1))  (hp : pc + 1 = pc') (K : Go p l e R s m args below meth c Z n0 Q kc ks h cs sl (mkF m pc' Ls (.int (x <<< (y &&& 31)) :: st))) : Go p l e R s m args below meth c Z n0 Q kc ks h cs sl (mkF m pc Ls (.int y :: .int x :: st)) := by
  subst hp
  exact go_step K fun T t a k => XS.ishl a C.1 rfl (hb C.2.1 hd) rfl k
theorem go_ishr (C : Ctx p s m meth c Z y bytes maxL ret) {x y : Int32} (hd : decode bytes pc = .ok (.ishr, 1))  (hp : pc + 1 = pc') (K : Go p l e R s m args below meth c Z n0 Q kc ks h cs sl (mkF m pc' Ls (.int (x >>> (y &&& 31)) :: st))) : Go p l e R s m args below meth c Z n0 Q kc ks h cs sl (mkF m pc Ls (.int y :: .int x :: st)) := by
  subst hp
  exact go_step K fun T t a k => XS.ishr a C.1 rfl (hb C.2.1 hd) rfl k
theorem go_iushr (C : Ctx p s m meth c Z y bytes maxL ret) {x y : Int32} (hd : decode bytes pc = .ok (.iushr, 1))  (hp : pc + 1 = pc') (K : Go p l e R s m args below meth c Z n0 Q kc ks h cs sl (mkF m pc' Ls (.int ((x.toUInt32 >>> (y &&& 31).toUInt32).toInt32) :: st))) : Go p l e R s m args below meth c Z n0 Q kc ks h cs sl (mkF m pc Ls (.int y :: .int x :: st)) := by
  subst hp
  exact go_step K fun T t a k => XS.iushr a C.1 rfl (hb C.2.1 hd) rfl k
theorem go_lshl (C : Ctx p s m meth c Z y bytes maxL ret) {x : Int64} {y' : Int32} (hd : decode bytes pc = .ok (.lshl, 1))  (hp : pc + 1 = pc') (K : Go p l e R s m args below meth c Z n0 Q kc ks h cs sl (mkF m pc' Ls (.long (x <<< (y' &&& 0x3f).toInt64) :: st))) : Go p l e R s m args below meth c Z n0 Q kc ks h cs sl (mkF m pc Ls (.int y' :: .long x :: st)) := by
  subst hp
  exact go_step K fun T t a k => XS.lshl a C.1 rfl (hb C.2.1 hd) rfl k
theorem go_lshr (C : Ctx p s m meth c Z y bytes maxL ret) {x : Int64} {y' : Int32} (hd : decode bytes pc = .ok (.lshr, 1))  (hp : pc + 1 = pc') (K : Go p l e R s m args below meth c Z n0 Q kc ks h cs sl (mkF m pc' Ls (.long (x >>> (y' &&& 0x3f).toInt64) :: st))) : Go p l e R s m args below meth c Z n0 Q kc ks h cs sl (mkF m pc Ls (.int y' :: .long x :: st)) := by
  subst hp
  exact go_step K fun T t a k => XS.lshr a C.1 rfl (hb C.2.1 hd) rfl k
theorem go_lushr (C : Ctx p s m meth c Z y bytes maxL ret) {x : Int64} {y' : Int32} (hd : decode bytes pc = .ok (.lushr, 1))  (hp : pc + 1 = pc') (K : Go p l e R s m args below meth c Z n0 Q kc ks h cs sl (mkF m pc' Ls (.long ((x.toUInt64 >>> (y' &&& 0x3f).toInt64.toUInt64).toInt64) :: st))) : Go p l e R s m args below meth c Z n0 Q kc ks h cs sl (mkF m pc Ls (.int y' :: .long x :: st)) := by
  subst hp
  exact go_step K fun T t a k => XS.lushr a C.1 rfl (hb C.2.1 hd) rfl k
theorem go_lcmp (C : Ctx p s m meth c Z y bytes maxL ret) {x y' : Int64} (hd : decode bytes pc = .ok (.lcmp, 1))  (hp : pc + 1 = pc') (K : Go p l e R s m args below meth c Z n0 Q kc ks h cs sl (mkF m pc' Ls (.int (lcmpW x y') :: st))) : Go p l e R s m args below meth c Z n0 Q kc ks h cs sl (mkF m pc Ls (.long y' :: .long x :: st)) := by
  subst hp
  exact go_step K fun T t a k => XS.lcmp a C.1 rfl (hb C.2.1 hd) rfl k
theorem go_idiv (C : Ctx p s m meth c Z y bytes maxL ret) {x y' : Int32} (hd : decode bytes pc = .ok (.idiv, 1)) (hy : y' ≠ 0) (hp : pc + 1 = pc') (K : Go p l e R s m args below meth c Z n0 Q kc ks h cs sl (mkF m pc' Ls (.int (x / y') :: st))) : Go p l e R s m args below meth c Z n0 Q kc ks h cs sl (mkF m pc Ls (.int y' :: .int x :: st)) := by
  subst hp
  exact go_step K fun T t a k => XS.idiv a C.1 rfl (hb C.2.1 hd) rfl hy k
theorem go_ldiv (C : Ctx p s m meth c Z y bytes maxL ret) {x y' : Int64} (hd : decode bytes pc = .ok (.ldiv, 1)) (hy : y' ≠ 0) (hp : pc + 1 = pc') (K : Go p l e R s m args below meth c Z n0 Q kc ks h cs sl (mkF m pc' Ls (.long (x / y') :: st))) : Go p l e R s m args below meth c Z n0 Q kc ks h cs sl (mkF m pc Ls (.long y' :: .long x :: st)) := by
  subst hp
  exact go_step K fun T t a k => XS.ldiv a C.1 rfl (hb C.2.1 hd) rfl hy k
theorem go_irem (C : Ctx p s m meth c Z y bytes maxL ret) {x y' : Int32} (hd : decode bytes pc = .ok (.irem, 1)) (hy : y' ≠ 0) (hp : pc + 1 = pc') (K : Go p l e R s m args below meth c Z n0 Q kc ks h cs sl (mkF m pc' Ls (.int (x % y') :: st))) : Go p l e R s m args below meth c Z n0 Q kc ks h cs sl (mkF m pc Ls (.int y' :: .int x :: st)) := by
  subst hp
  exact go_step K fun T t a k => XS.irem a C.1 rfl (hb C.2.1 hd) rfl hy (by rw [irem_eq_mod]; exact k)
theorem go_lrem (C : Ctx p s m meth c Z y bytes maxL ret) {x y' : Int64} (hd : decode bytes pc = .ok (.lrem, 1)) (hy : y' ≠ 0) (hp : pc + 1 = pc') (K : Go p l e R s m args below meth c Z n0 Q kc ks h cs sl (mkF m pc' Ls (.long (x % y') :: st))) : Go p l e R s m args below meth c Z n0 Q kc ks h cs sl (mkF m pc Ls (.long y' :: .long x :: st)) := by
  subst hp
  exact go_step K fun T t a k => XS.lrem a C.1 rfl (hb C.2.1 hd) rfl hy (by rw [lrem_mod]; exact k)
theorem go_ineg (C : Ctx p s m meth c Z y bytes maxL ret) {x : Int32} (hd : decode bytes pc = .ok (.ineg, 1))  (hp : pc + 1 = pc') (K : Go p l e R s m args below meth c Z n0 Q kc ks h cs sl (mkF m pc' Ls (.int (-x) :: st))) : Go p l e R s m args below meth c Z n0 Q kc ks h cs sl (mkF m pc Ls (.int x :: st)) := by
  subst hp
  exact go_step K fun T t a k => XS.ineg a C.1 rfl (hb C.2.1 hd) rfl k
theorem go_lneg (C : Ctx p s m meth c Z y bytes maxL ret) {x : Int64} (hd : decode bytes pc = .ok (.lneg, 1))  (hp : pc + 1 = pc') (K : Go p l e R s m args below meth c Z n0 Q kc ks h cs sl (mkF m pc' Ls (.long (-x) :: st))) : Go p l e R s m args below meth c Z n0 Q kc ks h cs sl (mkF m pc Ls (.long x :: st)) := by
  subst hp
  exact go_step K fun T t a k => XS.lneg a C.1 rfl (hb C.2.1 hd) rfl k
theorem go_i2l (C : Ctx p s m meth c Z y bytes maxL ret) {x : Int32} (hd : decode bytes pc = .ok (.i2l, 1))  (hp : pc + 1 = pc') (K : Go p l e R s m args below meth c Z n0 Q kc ks h cs sl (mkF m pc' Ls (.long x.toInt64 :: st))) : Go p l e R s m args below meth c Z n0 Q kc ks h cs sl (mkF m pc Ls (.int x :: st)) := by
  subst hp
  exact go_step K fun T t a k => XS.i2l a C.1 rfl (hb C.2.1 hd) rfl k
theorem go_l2i (C : Ctx p s m meth c Z y bytes maxL ret) {x : Int64} (hd : decode bytes pc = .ok (.l2i, 1))  (hp : pc + 1 = pc') (K : Go p l e R s m args below meth c Z n0 Q kc ks h cs sl (mkF m pc' Ls (.int x.toInt32 :: st))) : Go p l e R s m args below meth c Z n0 Q kc ks h cs sl (mkF m pc Ls (.long x :: st)) := by
  subst hp
  exact go_step K fun T t a k => XS.l2i a C.1 rfl (hb C.2.1 hd) rfl k
theorem go_i2c (C : Ctx p s m meth c Z y bytes maxL ret) {x : Int32} (hd : decode bytes pc = .ok (.i2c, 1))  (hp : pc + 1 = pc') (K : Go p l e R s m args below meth c Z n0 Q kc ks h cs sl (mkF m pc' Ls (.int x.toUInt32.toUInt16.toUInt32.toInt32 :: st))) : Go p l e R s m args below meth c Z n0 Q kc ks h cs sl (mkF m pc Ls (.int x :: st)) := by
  subst hp
  exact go_step K fun T t a k => XS.i2c a C.1 rfl (hb C.2.1 hd) rfl k
theorem go_i2b (C : Ctx p s m meth c Z y bytes maxL ret) {x : Int32} (hd : decode bytes pc = .ok (.i2b, 1))  (hp : pc + 1 = pc') (K : Go p l e R s m args below meth c Z n0 Q kc ks h cs sl (mkF m pc' Ls (.int x.toInt8.toInt32 :: st))) : Go p l e R s m args below meth c Z n0 Q kc ks h cs sl (mkF m pc Ls (.int x :: st)) := by
  subst hp
  exact go_step K fun T t a k => XS.i2b a C.1 rfl (hb C.2.1 hd) rfl k
theorem go_dup (C : Ctx p s m meth c Z y bytes maxL ret) {v : Value} (hd : decode bytes pc = .ok (.dup, 1)) (hv : v.category = 1) (hp : pc + 1 = pc') (K : Go p l e R s m args below meth c Z n0 Q kc ks h cs sl (mkF m pc' Ls (v :: v :: st))) : Go p l e R s m args below meth c Z n0 Q kc ks h cs sl (mkF m pc Ls (v :: st)) := by
  subst hp
  exact go_step K fun T t a k => XS.dup a C.1 rfl (hb C.2.1 hd) rfl hv k
theorem go_dupX1 (C : Ctx p s m meth c Z y bytes maxL ret) {v w : Value} (hd : decode bytes pc = .ok (.dup_x1, 1)) (hv : v.category = 1) (hw : w.category = 1) (hp : pc + 1 = pc') (K : Go p l e R s m args below meth c Z n0 Q kc ks h cs sl (mkF m pc' Ls (v :: w :: v :: st))) : Go p l e R s m args below meth c Z n0 Q kc ks h cs sl (mkF m pc Ls (v :: w :: st)) := by
  subst hp
  exact go_step K fun T t a k => XS.dupX1 a C.1 rfl (hb C.2.1 hd) rfl hv hw k
theorem go_dup2 (C : Ctx p s m meth c Z y bytes maxL ret) {v w : Value} (hd : decode bytes pc = .ok (.dup2, 1)) (hv : v.category = 1) (hw : w.category = 1) (hp : pc + 1 = pc') (K : Go p l e R s m args below meth c Z n0 Q kc ks h cs sl (mkF m pc' Ls (v :: w :: v :: w :: st))) : Go p l e R s m args below meth c Z n0 Q kc ks h cs sl (mkF m pc Ls (v :: w :: st)) := by
  subst hp
  exact go_step K fun T t a k => XT.dup2 a C.1 rfl (hb C.2.1 hd) rfl hv hw k
theorem go_dup2L (C : Ctx p s m meth c Z y bytes maxL ret) {x : Int64} (hd : decode bytes pc = .ok (.dup2, 1))  (hp : pc + 1 = pc') (K : Go p l e R s m args below meth c Z n0 Q kc ks h cs sl (mkF m pc' Ls (.long x :: .long x :: st))) : Go p l e R s m args below meth c Z n0 Q kc ks h cs sl (mkF m pc Ls (.long x :: st)) := by
  subst hp
  exact go_step K fun T t a k => XT.dup2L a C.1 rfl (hb C.2.1 hd) rfl k
theorem go_pop (C : Ctx p s m meth c Z y bytes maxL ret) {v : Value} (hd : decode bytes pc = .ok (.pop, 1)) (hv : v.category = 1) (hp : pc + 1 = pc') (K : Go p l e R s m args below meth c Z n0 Q kc ks h cs sl (mkF m pc' Ls (st))) : Go p l e R s m args below meth c Z n0 Q kc ks h cs sl (mkF m pc Ls (v :: st)) := by
  subst hp
  exact go_step K fun T t a k => XS.pop a C.1 rfl (hb C.2.1 hd) rfl hv k
theorem go_goto (C : Ctx p s m meth c Z y bytes maxL ret)  {o : Int} (hd : decode bytes pc = .ok (.goto o, 3))  (ho : 0 ≤ (pc : Int) + o) (hp : ((pc : Int) + o).toNat = pc') (K : Go p l e R s m args below meth c Z n0 Q kc ks h cs sl (mkF m pc' Ls st)) : Go p l e R s m args below meth c Z n0 Q kc ks h cs sl (mkF m pc Ls (st)) :=
  go_step K fun T t a k => XS.goto a C.1 rfl rfl (hb C.2.1 hd) ho hp k
theorem go_ifYes (C : Ctx p s m meth c Z y bytes maxL ret) {cd : ClassFile.Cond} {x : Int32} {o : Int} (hd : decode bytes pc = .ok (.ifCond cd o, 3)) (hc : ifCond.holds cd x = true) (ho : 0 ≤ (pc : Int) + o) (hp : ((pc : Int) + o).toNat = pc') (K : Go p l e R s m args below meth c Z n0 Q kc ks h cs sl (mkF m pc' Ls st)) : Go p l e R s m args below meth c Z n0 Q kc ks h cs sl (mkF m pc Ls (.int x :: st)) :=
  go_step K fun T t a k => XS.ifYes a C.1 rfl rfl (hb C.2.1 hd) rfl hc ho hp k
theorem go_ifNo (C : Ctx p s m meth c Z y bytes maxL ret) {cd : ClassFile.Cond} {x : Int32} {o : Int} (hd : decode bytes pc = .ok (.ifCond cd o, 3)) (hc : ifCond.holds cd x = false) (hp : pc + 3 = pc') (K : Go p l e R s m args below meth c Z n0 Q kc ks h cs sl (mkF m pc' Ls st)) : Go p l e R s m args below meth c Z n0 Q kc ks h cs sl (mkF m pc Ls (.int x :: st)) := by
  subst hp
  exact go_step K fun T t a k => XS.ifNo a C.1 rfl (hb C.2.1 hd) rfl hc k
theorem go_icmpYes (C : Ctx p s m meth c Z y bytes maxL ret) {cd : ClassFile.Cond} {x y' : Int32} {o : Int} (hd : decode bytes pc = .ok (.if_icmp cd o, 3)) (hc : if_icmp.holds cd x y' = true) (ho : 0 ≤ (pc : Int) + o) (hp : ((pc : Int) + o).toNat = pc') (K : Go p l e R s m args below meth c Z n0 Q kc ks h cs sl (mkF m pc' Ls st)) : Go p l e R s m args below meth c Z n0 Q kc ks h cs sl (mkF m pc Ls (.int y' :: .int x :: st)) :=
  go_step K fun T t a k => XS.icmpYes a C.1 rfl rfl (hb C.2.1 hd) rfl hc ho hp k
theorem go_icmpNo (C : Ctx p s m meth c Z y bytes maxL ret) {cd : ClassFile.Cond} {x y' : Int32} {o : Int} (hd : decode bytes pc = .ok (.if_icmp cd o, 3)) (hc : if_icmp.holds cd x y' = false) (hp : pc + 3 = pc') (K : Go p l e R s m args below meth c Z n0 Q kc ks h cs sl (mkF m pc' Ls st)) : Go p l e R s m args below meth c Z n0 Q kc ks h cs sl (mkF m pc Ls (.int y' :: .int x :: st)) := by
  subst hp
  exact go_step K fun T t a k => XS.icmpNo a C.1 rfl (hb C.2.1 hd) rfl hc k
theorem go_ifnullYes (C : Ctx p s m meth c Z y bytes maxL ret)  {o : Int} (hd : decode bytes pc = .ok (.ifnull o, 3))  (ho : 0 ≤ (pc : Int) + o) (hp : ((pc : Int) + o).toNat = pc') (K : Go p l e R s m args below meth c Z n0 Q kc ks h cs sl (mkF m pc' Ls st)) : Go p l e R s m args below meth c Z n0 Q kc ks h cs sl (mkF m pc Ls (.null :: st)) :=
  go_step K fun T t a k => XS.ifnullYes a C.1 rfl rfl (hb C.2.1 hd) rfl ho hp k
theorem go_ifnullNo (C : Ctx p s m meth c Z y bytes maxL ret) {b : Addr} {o : Int} (hd : decode bytes pc = .ok (.ifnull o, 3))  (hp : pc + 3 = pc') (K : Go p l e R s m args below meth c Z n0 Q kc ks h cs sl (mkF m pc' Ls st)) : Go p l e R s m args below meth c Z n0 Q kc ks h cs sl (mkF m pc Ls (.ref b :: st)) := by
  subst hp
  exact go_step K fun T t a k => XS.ifnullNo a C.1 rfl (hb C.2.1 hd) rfl k
theorem go_ifnonnullYes (C : Ctx p s m meth c Z y bytes maxL ret) {b : Addr} {o : Int} (hd : decode bytes pc = .ok (.ifnonnull o, 3))  (ho : 0 ≤ (pc : Int) + o) (hp : ((pc : Int) + o).toNat = pc') (K : Go p l e R s m args below meth c Z n0 Q kc ks h cs sl (mkF m pc' Ls st)) : Go p l e R s m args below meth c Z n0 Q kc ks h cs sl (mkF m pc Ls (.ref b :: st)) :=
  go_step K fun T t a k => XS.ifnonnullYes a C.1 rfl rfl (hb C.2.1 hd) rfl ho hp k
theorem go_ifnonnullNo (C : Ctx p s m meth c Z y bytes maxL ret)  {o : Int} (hd : decode bytes pc = .ok (.ifnonnull o, 3))  (hp : pc + 3 = pc') (K : Go p l e R s m args below meth c Z n0 Q kc ks h cs sl (mkF m pc' Ls st)) : Go p l e R s m args below meth c Z n0 Q kc ks h cs sl (mkF m pc Ls (.null :: st)) := by
  subst hp
  exact go_step K fun T t a k => XS.ifnonnullNo a C.1 rfl (hb C.2.1 hd) rfl k
theorem go_acmpYes (C : Ctx p s m meth c Z y bytes maxL ret) {cd : ClassFile.ACond} {v w : Value} {o : Int} (hd : decode bytes pc = .ok (.if_acmp cd o, 3)) (hv : v.isRef = true) (hw : w.isRef = true) (hc : XT.acmp cd v w = true) (ho : 0 ≤ (pc : Int) + o) (hp : ((pc : Int) + o).toNat = pc') (K : Go p l e R s m args below meth c Z n0 Q kc ks h cs sl (mkF m pc' Ls st)) : Go p l e R s m args below meth c Z n0 Q kc ks h cs sl (mkF m pc Ls (w :: v :: st)) :=
  go_step K fun T t a k => XT.acmpYes a C.1 rfl rfl (hb C.2.1 hd) rfl hv hw hc ho hp k
theorem go_acmpNo (C : Ctx p s m meth c Z y bytes maxL ret) {cd : ClassFile.ACond} {v w : Value} {o : Int} (hd : decode bytes pc = .ok (.if_acmp cd o, 3)) (hv : v.isRef = true) (hw : w.isRef = true) (hc : XT.acmp cd v w = false) (hp : pc + 3 = pc') (K : Go p l e R s m args below meth c Z n0 Q kc ks h cs sl (mkF m pc' Ls st)) : Go p l e R s m args below meth c Z n0 Q kc ks h cs sl (mkF m pc Ls (w :: v :: st)) := by
  subst hp
  exact go_step K fun T t a k => XT.acmpNo a C.1 rfl (hb C.2.1 hd) rfl hv hw hc k
theorem go_tswIn (C : Ctx p s m meth c Z y bytes maxL ret) {dflt low high : Int} {offs : Array Int} {len : Nat} {o : Int} {i : Int32} (hd : decode bytes pc = .ok (.tableswitch dflt low high offs, len)) (hin : ¬ (i.toInt < low ∨ i.toInt > high)) (hoff : offs[(i.toInt - low).toNat]? = some o) (ho : 0 ≤ (pc : Int) + o) (hp : ((pc : Int) + o).toNat = pc') (K : Go p l e R s m args below meth c Z n0 Q kc ks h cs sl (mkF m pc' Ls st)) : Go p l e R s m args below meth c Z n0 Q kc ks h cs sl (mkF m pc Ls (.int i :: st)) :=
  go_step K fun T t a k => XS.tswIn a C.1 rfl rfl (hb C.2.1 hd) rfl hin hoff ho hp k
theorem go_ldcInt (C : Ctx p s m meth c Z y bytes maxL ret) {index : Nat} {v : Int32} (w : (Jvm.Cond.constant y.cls index v).before a0 Z = true) (hd : decode bytes pc = .ok (.ldc index, 2)) (hp : pc + 2 = pc') (K : Go p l e R s m args below meth c Z n0 Q kc ks h cs sl (mkF m pc' Ls (.int v :: st))) : Go p l e R s m args below meth c Z n0 Q kc ks h cs sl (mkF m pc Ls st) := by
  subst hp
  exact go_stepX K fun T t L X eT k => X.ldcInt C.1 C.2.2.2.2.2.2.1 (mvT C.2.2.2.2.2.1 w) (g := mkF m pc Ls st) rfl (hb C.2.1 hd) t k
theorem go_ldcwInt (C : Ctx p s m meth c Z y bytes maxL ret) {index : Nat} {v : Int32} (w : (Jvm.Cond.constant y.cls index v).before a0 Z = true) (hd : decode bytes pc = .ok (.ldc_w index, 3)) (hp : pc + 3 = pc') (K : Go p l e R s m args below meth c Z n0 Q kc ks h cs sl (mkF m pc' Ls (.int v :: st))) : Go p l e R s m args below meth c Z n0 Q kc ks h cs sl (mkF m pc Ls st) := by
  subst hp
  exact go_stepX K fun T t L X eT k => X.ldcwInt C.1 C.2.2.2.2.2.2.1 (mvT C.2.2.2.2.2.1 w) (g := mkF m pc Ls st) rfl (hb C.2.1 hd) t k
theorem go_ldcLong (C : Ctx p s m meth c Z y bytes maxL ret) {index : Nat} {v : Int64} (w : (Jvm.Cond.constantLong y.cls index v).before a0 Z = true) (hd : decode bytes pc = .ok (.ldc2_w index, 3)) (hp : pc + 3 = pc') (K : Go p l e R s m args below meth c Z n0 Q kc ks h cs sl (mkF m pc' Ls (.long v :: st))) : Go p l e R s m args below meth c Z n0 Q kc ks h cs sl (mkF m pc Ls st) := by
  subst hp
  exact go_stepX K fun T t L X eT k => X.ldc2Long C.1 C.2.2.2.2.2.2.1 (mvT C.2.2.2.2.2.1 w) (g := mkF m pc Ls st) rfl (hb C.2.1 hd) t k
theorem go_getF (C : Ctx p s m meth c Z y bytes maxL ret) {R0 O n d host : String} {index : Nat} {a : Addr} {v : Value} (w : (Jvm.Cond.fieldLink y.cls index R0 n d).before a0 Z = true ∨ (Jvm.Cond.fieldLinkNest y.cls index R0 n d host).before a0 Z = true) (via : Via Z R0 O n d) (F : Fld Z h a O n d v) (hd : decode bytes pc = .ok (.getfield index, 3)) (hp : pc + 3 = pc') (K : Go p l e R s m args below meth c Z n0 Q kc ks h cs sl (mkF m pc' Ls (v :: st))) : Go p l e R s m args below meth c Z n0 Q kc ks h cs sl (mkF m pc Ls (.ref a :: st)) := by
  subst hp
  exact go_stepT K fun T L X eT => getF X C.1 C.2.2.2.2.2.1 C.2.2.2.2.2.2.1 w via eT F (g := mkF m pc Ls (.ref a :: st)) rfl rfl (hb C.2.1 hd)
theorem go_getS (C : Ctx p s m meth c Z y bytes maxL ret) {R0 O n d host : String} {index : Nat} {v : Value} (w : (Jvm.Cond.fieldLink y.cls index R0 n d).before a0 Z = true ∨ (Jvm.Cond.fieldLinkNest y.cls index R0 n d host).before a0 Z = true) (via : Via Z R0 O n d) (F : Sta Z h O n d v) (hd : decode bytes pc = .ok (.getstatic index, 3)) (hp : pc + 3 = pc') (K : Go p l e R s m args below meth c Z n0 Q kc ks h cs sl (mkF m pc' Ls (v :: st))) : Go p l e R s m args below meth c Z n0 Q kc ks h cs sl (mkF m pc Ls st) := by
  subst hp
  exact go_stepT K fun T L X eT => getS2 X C.1 C.2.2.2.2.2.1 C.2.2.2.2.2.2.1 w via eT F (g := mkF m pc Ls st) rfl (hb C.2.1 hd)
theorem go_putF (C : Ctx p s m meth c Z y bytes maxL ret) {R0 O n d host K0 : String} {index kk : Nat} {ty : FieldType} {a : Addr} {v old : Value} (w : (Jvm.Cond.fieldLink y.cls index R0 n d).before a0 Z = true ∨ (Jvm.Cond.fieldLinkNest y.cls index R0 n d host).before a0 Z = true) (via : Via Z R0 O n d) (F : Fld Z h a O n d old) (E : Exa Z h a K0) (L : (Jvm.Cond.lays K0 O n d).before a0 Z = true ∨ ((Jvm.Cond.laysFinal K0 O n d).before a0 Z = true ∧ y.cls = O ∧ y.name = "<init>")) (wi : (Jvm.Cond.instantiable K0 kk).before a0 Z = true)
    (hty : parseFieldDescriptor d = some ty) (hn : narrow ty v = v) (hf : fits ty v = true) (hd : decode bytes pc = .ok (.putfield index, 3)) (hp : pc + 3 = pc') (ha : n0 ≤ a) (K : ∀ h', Wr h h' a (Jvm.RoadKit.slotOf Z O n d) v → Fld Z h' a O n d v → Go p l e R s m args below meth c Z n0 Q kc ks h' cs sl (mkF m pc' Ls st)) : Go p l e R s m args below meth c Z n0 Q kc ks h cs sl (mkF m pc Ls (v :: .ref a :: st)) := fun T L0 hL O X eT => by
  subst hp
  obtain ⟨T', h', X', e', W, hs⟩ := putF X C.1 C.2.2.2.2.2.1 C.2.2.2.2.2.2.1 w via eT F E (L.imp id fun q => ⟨q.1, q.2.1, C.2.2.2.2.2.2.2.trans q.2.2⟩) wi hty hn hf (g := mkF m pc Ls (v :: .ref a :: st)) rfl rfl (hb C.2.1 hd)
  obtain ⟨U, v, L', h1, r⟩ := K h' W (F.same W) T' _ (Fr.snoc X' hL ha) (O.wr W ha) X' e'
  exact ⟨U, v, L', hs U h1, r⟩
theorem go_putFN (C : Ctx p s m meth c Z y bytes maxL ret) {R0 O n d K0 : String} {index kk : Nat} {ty : FieldType} {a : Addr} {v v' old : Value} (w : (Jvm.Cond.fieldLink y.cls index R0 n d).before a0 Z = true) (via : Via Z R0 O n d) (F : Fld Z h a O n d old) (E : Exa Z h a K0) (L : (Jvm.Cond.lays K0 O n d).before a0 Z = true ∨ ((Jvm.Cond.laysFinal K0 O n d).before a0 Z = true ∧ y.cls = O ∧ y.name = "<init>")) (wi : (Jvm.Cond.instantiable K0 kk).before a0 Z = true)
    (hty : parseFieldDescriptor d = some ty) (hn : narrow ty v = v') (hf : fits ty v' = true) (hd : decode bytes pc = .ok (.putfield index, 3)) (hp : pc + 3 = pc') (ha : n0 ≤ a) (K : ∀ h', Wr h h' a (Jvm.RoadKit.slotOf Z O n d) v' → Fld Z h' a O n d v' → Go p l e R s m args below meth c Z n0 Q kc ks h' cs sl (mkF m pc' Ls st)) : Go p l e R s m args below meth c Z n0 Q kc ks h cs sl (mkF m pc Ls (v :: .ref a :: st)) := fun T L0 hL O X eT => by
  subst hp
  obtain ⟨T', h', X', e', W, hs⟩ := putFN X C.1 C.2.2.2.2.2.1 C.2.2.2.2.2.2.1 w via eT F E (L.imp id fun q => ⟨q.1, q.2.1, C.2.2.2.2.2.2.2.trans q.2.2⟩) wi hty hn hf (g := mkF m pc Ls (v :: .ref a :: st)) rfl rfl (hb C.2.1 hd)
  obtain ⟨U, v, L', h1, r⟩ := K h' W (F.same W) T' _ (Fr.snoc X' hL ha) (O.wr W ha) X' e'
  exact ⟨U, v, L', hs U h1, r⟩
theorem go_new (C : Ctx p s m meth c Z y bytes maxL ret) {K0 : String} {index n : Nat} (w : (Jvm.Cond.classLink y.cls index K0).before a0 Z = true) (wi : (Jvm.Cond.instantiable K0 n).before a0 Z = true) (wz : (Jvm.Cond.initialized K0).before a0 Z = true) (hd : decode bytes pc = .ok (.new index, 3)) (hp : pc + 3 = pc') (hc : cs + 1 ≤ R.cells) (hl : sl + n ≤ R.slots)
    (K : ∀ h' a, a = h.size → n0 ≤ a → Ext h h' → Exa Z h' a K0 → (∀ {O nm d : String} {ty : FieldType}, Laid Z a0 K0 O nm d → parseFieldDescriptor d = some ty → Fld Z h' a O nm d (defaultValue ty)) → Go p l e R s m args below meth c Z n0 Q kc ks h' (cs + 1) (sl + n) (mkF m pc' Ls (.ref a :: st))) : Go p l e R s m args below meth c Z n0 Q kc ks h cs sl (mkF m pc Ls st) := fun T L0 hL O X eT => by
  subst hp
  obtain ⟨T', h', X', e', E, A, D, -, hs⟩ := newO X C.1 C.2.2.2.2.2.1 C.2.2.2.2.2.2.1 w wi wz eT (g := mkF m pc Ls st) rfl (hb C.2.1 hd) hc hl
  obtain ⟨U, v, L', h1, r⟩ := K h' h.size rfl (O.1 ▸ O.2.1) E A D T' _ hL (O.ext E) X' e'
  exact ⟨U, v, L', hs U h1, r⟩
theorem go_newP (C : Ctx p s m meth c Z y bytes maxL ret) {aty : ArrayType} {n : Int32} {cap : Nat} (w : (Jvm.Cond.arrayClass (newarray.typeOf aty)).before a0 Z = true) (hd : decode bytes pc = .ok (.newarray aty, 2)) (hp : pc + 2 = pc') (hn : ¬ n < 0) (hcap : n.toNatClampNeg ≤ cap) (hb' : cap * 8 ≤ 536870912) (hc : cs + 1 ≤ R.cells) (hl : sl + cap ≤ R.slots)
    (K : ∀ h' a k, a = h.size → n0 ≤ a → Ext h h' → Arr Z h' a (newA k (newarray.typeOf aty) n) (newarray.typeOf aty) → Go p l e R s m args below meth c Z n0 Q kc ks h' (cs + 1) (sl + cap) (mkF m pc' Ls (.ref a :: st))) : Go p l e R s m args below meth c Z n0 Q kc ks h cs sl (mkF m pc Ls (.int n :: st)) := fun T L0 hL O X eT => by
  subst hp
  obtain ⟨T', h', k, X', e', E, A, hs⟩ := newP X C.1 C.2.2.2.2.2.1 w eT (g := mkF m pc Ls (.int n :: st)) rfl (hb C.2.1 hd) rfl hn hcap hb' hc hl
  obtain ⟨U, v, L', h1, r⟩ := K h' h.size k rfl (O.1 ▸ O.2.1) E A T' _ hL (O.ext E) X' e'
  exact ⟨U, v, L', hs U h1, r⟩
theorem go_newR (C : Ctx p s m meth c Z y bytes maxL ret) {K0 : String} {index : Nat} {n : Int32} {cap : Nat} (w1 : (Jvm.Cond.classLink y.cls index K0).before a0 Z = true) (w2 : (Jvm.Cond.arrayOver (.object K0)).before a0 Z = true) (hd : decode bytes pc = .ok (.anewarray index, 3)) (hp : pc + 3 = pc') (hn : ¬ n < 0) (hcap : n.toNatClampNeg ≤ cap) (hb' : cap * 8 ≤ 536870912) (hc : cs + 1 ≤ R.cells) (hl : sl + cap ≤ R.slots)
    (K : ∀ h' a k, a = h.size → n0 ≤ a → Ext h h' → Arr Z h' a (newA k (.object K0) n) (.object K0) → Ovr Z k K0 → Go p l e R s m args below meth c Z n0 Q kc ks h' (cs + 1) (sl + cap) (mkF m pc' Ls (.ref a :: st))) : Go p l e R s m args below meth c Z n0 Q kc ks h cs sl (mkF m pc Ls (.int n :: st)) := fun T L0 hL O X eT => by
  subst hp
  obtain ⟨T', h', k, X', e', E, A, V, hs⟩ := newR X C.1 C.2.2.2.2.2.1 C.2.2.2.2.2.2.1 w1 w2 eT (g := mkF m pc Ls (.int n :: st)) rfl (hb C.2.1 hd) rfl hn hcap hb' hc hl
  obtain ⟨U, v, L', h1, r⟩ := K h' h.size k rfl (O.1 ▸ O.2.1) E A V T' _ hL (O.ext E) X' e'
  exact ⟨U, v, L', hs U h1, r⟩
theorem go_stI (C : Ctx p s m meth c Z y bytes maxL ret) {a : Addr} {cl : Cell} {j : Int32} {x : Int32} (A : Arr Z h a cl .int) (hj : ¬ (j < 0 ∨ cl.slots.size ≤ j.toNatClampNeg)) (hd : decode bytes pc = .ok (.iastore, 1)) (hp : pc + 1 = pc') (ha : n0 ≤ a)
    (K : ∀ h', Wr h h' a j.toNatClampNeg (.int x) → Arr Z h' a (cl.setSlot j.toNatClampNeg (.int x)) .int → Go p l e R s m args below meth c Z n0 Q kc ks h' cs sl (mkF m pc' Ls st)) : Go p l e R s m args below meth c Z n0 Q kc ks h cs sl (mkF m pc Ls (.int x :: .int j :: .ref a :: st)) := fun T L0 hL O X eT => by
  subst hp
  obtain ⟨T', h', X', e', W, hs⟩ := stI X C.1 C.2.2.2.2.2.1 eT A hj (g := mkF m pc Ls (.int x :: .int j :: .ref a :: st)) rfl rfl (hb C.2.1 hd)
  obtain ⟨U, v, L', h1, r⟩ := K h' W (A.same W) T' _ (Fr.snoc X' hL ha) (O.wr W ha) X' e'
  exact ⟨U, v, L', hs U h1, r⟩
theorem go_stJ (C : Ctx p s m meth c Z y bytes maxL ret) {a : Addr} {cl : Cell} {j : Int32} {x : Int64} (A : Arr Z h a cl .long) (hj : ¬ (j < 0 ∨ cl.slots.size ≤ j.toNatClampNeg)) (hd : decode bytes pc = .ok (.lastore, 1)) (hp : pc + 1 = pc') (ha : n0 ≤ a)
    (K : ∀ h', Wr h h' a j.toNatClampNeg (.long x) → Arr Z h' a (cl.setSlot j.toNatClampNeg (.long x)) .long → Go p l e R s m args below meth c Z n0 Q kc ks h' cs sl (mkF m pc' Ls st)) : Go p l e R s m args below meth c Z n0 Q kc ks h cs sl (mkF m pc Ls (.long x :: .int j :: .ref a :: st)) := fun T L0 hL O X eT => by
  subst hp
  obtain ⟨T', h', X', e', W, hs⟩ := stJ X C.1 C.2.2.2.2.2.1 eT A hj (g := mkF m pc Ls (.long x :: .int j :: .ref a :: st)) rfl rfl (hb C.2.1 hd)
  obtain ⟨U, v, L', h1, r⟩ := K h' W (A.same W) T' _ (Fr.snoc X' hL ha) (O.wr W ha) X' e'
  exact ⟨U, v, L', hs U h1, r⟩
theorem go_stC (C : Ctx p s m meth c Z y bytes maxL ret) {a : Addr} {cl : Cell} {j : Int32} {x : Int32} (A : Arr Z h a cl .char) (hj : ¬ (j < 0 ∨ cl.slots.size ≤ j.toNatClampNeg)) (hd : decode bytes pc = .ok (.castore, 1)) (hp : pc + 1 = pc') (ha : n0 ≤ a)
    (K : ∀ h', Wr h h' a j.toNatClampNeg (.int (nar .char x)) → Arr Z h' a (cl.setSlot j.toNatClampNeg (.int (nar .char x))) .char → Go p l e R s m args below meth c Z n0 Q kc ks h' cs sl (mkF m pc' Ls st)) : Go p l e R s m args below meth c Z n0 Q kc ks h cs sl (mkF m pc Ls (.int x :: .int j :: .ref a :: st)) := fun T L0 hL O X eT => by
  subst hp
  obtain ⟨T', h', X', e', W, hs⟩ := stC X C.1 C.2.2.2.2.2.1 eT A hj (g := mkF m pc Ls (.int x :: .int j :: .ref a :: st)) rfl rfl (hb C.2.1 hd)
  obtain ⟨U, v, L', h1, r⟩ := K h' W (A.same W) T' _ (Fr.snoc X' hL ha) (O.wr W ha) X' e'
  exact ⟨U, v, L', hs U h1, r⟩
theorem go_stB (C : Ctx p s m meth c Z y bytes maxL ret) {a : Addr} {cl : Cell} {j : Int32} {x : Int32} (A : Arr Z h a cl .byte) (hj : ¬ (j < 0 ∨ cl.slots.size ≤ j.toNatClampNeg)) (hd : decode bytes pc = .ok (.bastore, 1)) (hp : pc + 1 = pc') (ha : n0 ≤ a)
    (K : ∀ h', Wr h h' a j.toNatClampNeg (.int (nar .byte x)) → Arr Z h' a (cl.setSlot j.toNatClampNeg (.int (nar .byte x))) .byte → Go p l e R s m args below meth c Z n0 Q kc ks h' cs sl (mkF m pc' Ls st)) : Go p l e R s m args below meth c Z n0 Q kc ks h cs sl (mkF m pc Ls (.int x :: .int j :: .ref a :: st)) := fun T L0 hL O X eT => by
  subst hp
  obtain ⟨T', h', X', e', W, hs⟩ := stB X C.1 C.2.2.2.2.2.1 eT A hj (g := mkF m pc Ls (.int x :: .int j :: .ref a :: st)) rfl rfl (hb C.2.1 hd)
  obtain ⟨U, v, L', h1, r⟩ := K h' W (A.same W) T' _ (Fr.snoc X' hL ha) (O.wr W ha) X' e'
  exact ⟨U, v, L', hs U h1, r⟩
theorem go_stZ (C : Ctx p s m meth c Z y bytes maxL ret) {a : Addr} {cl : Cell} {j : Int32} {x : Int32} (A : Arr Z h a cl .boolean) (hj : ¬ (j < 0 ∨ cl.slots.size ≤ j.toNatClampNeg)) (hd : decode bytes pc = .ok (.bastore, 1)) (hp : pc + 1 = pc') (ha : n0 ≤ a)
    (K : ∀ h', Wr h h' a j.toNatClampNeg (.int (nar .boolean x)) → Arr Z h' a (cl.setSlot j.toNatClampNeg (.int (nar .boolean x))) .boolean → Go p l e R s m args below meth c Z n0 Q kc ks h' cs sl (mkF m pc' Ls st)) : Go p l e R s m args below meth c Z n0 Q kc ks h cs sl (mkF m pc Ls (.int x :: .int j :: .ref a :: st)) := fun T L0 hL O X eT => by
  subst hp
  obtain ⟨T', h', X', e', W, hs⟩ := stZ X C.1 C.2.2.2.2.2.1 eT A hj (g := mkF m pc Ls (.int x :: .int j :: .ref a :: st)) rfl rfl (hb C.2.1 hd)
  obtain ⟨U, v, L', h1, r⟩ := K h' W (A.same W) T' _ (Fr.snoc X' hL ha) (O.wr W ha) X' e'
  exact ⟨U, v, L', hs U h1, r⟩
theorem go_stR (C : Ctx p s m meth c Z y bytes maxL ret) {a : Addr} {cl : Cell} {j : Int32} {ty : FieldType} {w : Value} (A : Arr Z h a cl ty) (hj : ¬ (j < 0 ∨ cl.slots.size ≤ j.toNatClampNeg)) (hty : ty.isReference = true) (F : Sto Z h a w) (hd : decode bytes pc = .ok (.aastore, 1)) (hp : pc + 1 = pc') (ha : n0 ≤ a)
    (K : ∀ h', Wr h h' a j.toNatClampNeg w → Arr Z h' a (cl.setSlot j.toNatClampNeg w) ty → Go p l e R s m args below meth c Z n0 Q kc ks h' cs sl (mkF m pc' Ls st)) : Go p l e R s m args below meth c Z n0 Q kc ks h cs sl (mkF m pc Ls (w :: .int j :: .ref a :: st)) := fun T L0 hL O X eT => by
  subst hp
  obtain ⟨T', h', X', e', W, hs⟩ := stR X C.1 C.2.2.2.2.2.1 eT A hj hty F (g := mkF m pc Ls (w :: .int j :: .ref a :: st)) rfl rfl (hb C.2.1 hd)
  obtain ⟨U, v, L', h1, r⟩ := K h' W (A.same W) T' _ (Fr.snoc X' hL ha) (O.wr W ha) X' e'
  exact ⟨U, v, L', hs U h1, r⟩
theorem go_arraylength (C : Ctx p s m meth c Z y bytes maxL ret) {a : Addr} {cl : Cell} {ty : FieldType} {z : Int32} (A : Arr Z h a cl ty) (hz : cl.slots.size.toInt32 = z) (hd : decode bytes pc = .ok (.arraylength, 1)) (hp : pc + 1 = pc') (K : Go p l e R s m args below meth c Z n0 Q kc ks h cs sl (mkF m pc' Ls (.int z :: st))) : Go p l e R s m args below meth c Z n0 Q kc ks h cs sl (mkF m pc Ls (.ref a :: st)) := by
  subst hp hz
  exact go_stepX K fun T t L X eT k => X.arraylength C.1 (by rw [eT]; exact A.1) (State.isArrayOf_alike C.2.2.2.2.2.1.alike A.2.1) (g := mkF m pc Ls (.ref a :: st)) rfl rfl (hb C.2.1 hd) t k
theorem go_aaload (C : Ctx p s m meth c Z y bytes maxL ret) {a : Addr} {cl : Cell} {j : Int32} {v : Value} {ty : FieldType} (A : Arr Z h a cl ty) (hty : ty.isReference = true) (hin : ¬ (j < 0 ∨ cl.slots.size ≤ j.toNatClampNeg)) (hv : cl.slots[j.toNatClampNeg]? = some v) (hd : decode bytes pc = .ok (.aaload, 1)) (hp : pc + 1 = pc') (K : Go p l e R s m args below meth c Z n0 Q kc ks h cs sl (mkF m pc' Ls (v :: st))) : Go p l e R s m args below meth c Z n0 Q kc ks h cs sl (mkF m pc Ls (.int j :: .ref a :: st)) := by
  subst hp
  exact go_stepX K fun T t L X eT k => X.aaload C.1 (by rw [eT]; exact A.1) (State.isArrayOf_alike C.2.2.2.2.2.1.alike A.2.1) hty A.2.2 hin hv (g := mkF m pc Ls (.int j :: .ref a :: st)) rfl rfl (hb C.2.1 hd) t k
theorem go_iaload (C : Ctx p s m meth c Z y bytes maxL ret) {a : Addr} {cl : Cell} {j : Int32} {v : Value} (A : Arr Z h a cl .int) (hin : ¬ (j < 0 ∨ cl.slots.size ≤ j.toNatClampNeg)) (hv : cl.slots[j.toNatClampNeg]? = some v) (hd : decode bytes pc = .ok (.iaload, 1)) (hp : pc + 1 = pc') (K : Go p l e R s m args below meth c Z n0 Q kc ks h cs sl (mkF m pc' Ls (v :: st))) : Go p l e R s m args below meth c Z n0 Q kc ks h cs sl (mkF m pc Ls (.int j :: .ref a :: st)) := by
  subst hp
  exact go_stepX K fun T t L X eT k => X.iaload C.1 (by rw [eT]; exact A.1) (State.isArrayOf_alike C.2.2.2.2.2.1.alike A.2.1) A.2.2 hin hv (g := mkF m pc Ls (.int j :: .ref a :: st)) rfl rfl (hb C.2.1 hd) t k
theorem go_laload (C : Ctx p s m meth c Z y bytes maxL ret) {a : Addr} {cl : Cell} {j : Int32} {v : Value} (A : Arr Z h a cl .long) (hin : ¬ (j < 0 ∨ cl.slots.size ≤ j.toNatClampNeg)) (hv : cl.slots[j.toNatClampNeg]? = some v) (hd : decode bytes pc = .ok (.laload, 1)) (hp : pc + 1 = pc') (K : Go p l e R s m args below meth c Z n0 Q kc ks h cs sl (mkF m pc' Ls (v :: st))) : Go p l e R s m args below meth c Z n0 Q kc ks h cs sl (mkF m pc Ls (.int j :: .ref a :: st)) := by
  subst hp
  exact go_stepX K fun T t L X eT k => X.laload C.1 (by rw [eT]; exact A.1) (State.isArrayOf_alike C.2.2.2.2.2.1.alike A.2.1) A.2.2 hin hv (g := mkF m pc Ls (.int j :: .ref a :: st)) rfl rfl (hb C.2.1 hd) t k
theorem go_caload (C : Ctx p s m meth c Z y bytes maxL ret) {a : Addr} {cl : Cell} {j : Int32} {v : Value} (A : Arr Z h a cl .char) (hin : ¬ (j < 0 ∨ cl.slots.size ≤ j.toNatClampNeg)) (hv : cl.slots[j.toNatClampNeg]? = some v) (hd : decode bytes pc = .ok (.caload, 1)) (hp : pc + 1 = pc') (K : Go p l e R s m args below meth c Z n0 Q kc ks h cs sl (mkF m pc' Ls (v :: st))) : Go p l e R s m args below meth c Z n0 Q kc ks h cs sl (mkF m pc Ls (.int j :: .ref a :: st)) := by
  subst hp
  exact go_stepX K fun T t L X eT k => X.caload C.1 (by rw [eT]; exact A.1) (State.isArrayOf_alike C.2.2.2.2.2.1.alike A.2.1) A.2.2 hin hv (g := mkF m pc Ls (.int j :: .ref a :: st)) rfl rfl (hb C.2.1 hd) t k
theorem go_castY (C : Ctx p s m meth c Z y bytes maxL ret) {K0 : String} {index : Nat} {a : Addr} (w : (Jvm.Cond.classLink y.cls index K0).before a0 Z = true) (F : Ins Z h a K0 true) (hd : decode bytes pc = .ok (.checkcast index, 3)) (hp : pc + 3 = pc') (K : Go p l e R s m args below meth c Z n0 Q kc ks h cs sl (mkF m pc' Ls (.ref a :: st))) : Go p l e R s m args below meth c Z n0 Q kc ks h cs sl (mkF m pc Ls (.ref a :: st)) := by
  subst hp
  exact go_stepT K fun T L X eT => castY X C.1 C.2.2.2.2.2.1 C.2.2.2.2.2.2.1 w eT F (g := mkF m pc Ls (.ref a :: st)) rfl rfl (hb C.2.1 hd)
theorem go_castNull (C : Ctx p s m meth c Z y bytes maxL ret) {index : Nat} (hd : decode bytes pc = .ok (.checkcast index, 3)) (hp : pc + 3 = pc') (K : Go p l e R s m args below meth c Z n0 Q kc ks h cs sl (mkF m pc' Ls (.null :: st))) : Go p l e R s m args below meth c Z n0 Q kc ks h cs sl (mkF m pc Ls (.null :: st)) := by
  subst hp
  exact go_stepX K fun T t L X eT k => X.checkcastNull C.1 (g := mkF m pc Ls (.null :: st)) rfl rfl (hb C.2.1 hd) t k
theorem go_instY (C : Ctx p s m meth c Z y bytes maxL ret) {K0 : String} {index : Nat} {a : Addr} (w : (Jvm.Cond.classLink y.cls index K0).before a0 Z = true) (F : Ins Z h a K0 true) (hd : decode bytes pc = .ok (.instanceof index, 3)) (hp : pc + 3 = pc') (K : Go p l e R s m args below meth c Z n0 Q kc ks h cs sl (mkF m pc' Ls (.int 1 :: st))) : Go p l e R s m args below meth c Z n0 Q kc ks h cs sl (mkF m pc Ls (.ref a :: st)) := by
  subst hp
  exact go_stepT K fun T L X eT => instY X C.1 C.2.2.2.2.2.1 C.2.2.2.2.2.2.1 w eT F (g := mkF m pc Ls (.ref a :: st)) rfl rfl (hb C.2.1 hd)
theorem go_instNo (C : Ctx p s m meth c Z y bytes maxL ret) {K0 K1 : String} {index : Nat} {a : Addr} (w : (Jvm.Cond.classLink y.cls index K0).before a0 Z = true) (E : Exa Z h a K1) (F : ∃ c t, Z.vm.findClass K1 = some c ∧ Z.vm.findClass K0 = some t ∧ Z.vm.assignable c t = false) (hd : decode bytes pc = .ok (.instanceof index, 3)) (hp : pc + 3 = pc') (K : Go p l e R s m args below meth c Z n0 Q kc ks h cs sl (mkF m pc' Ls (.int 0 :: st))) : Go p l e R s m args below meth c Z n0 Q kc ks h cs sl (mkF m pc Ls (.ref a :: st)) := by
  subst hp
  exact go_stepT K fun T L X eT => instNo X C.1 C.2.2.2.2.2.1 C.2.2.2.2.2.2.1 w eT E F (g := mkF m pc Ls (.ref a :: st)) rfl rfl (hb C.2.1 hd)
theorem go_initO (C : Ctx p s m meth c Z y bytes maxL ret) {idx : Nat} {a : Addr} (w1 : (Jvm.Cond.methodLink y.cls idx Lib.objectInit).before a0 Z = true) (w2 : (Jvm.Cond.instanceMethod Lib.objectInit).before a0 Z = true) (w3 : (Jvm.Cond.code Lib.objectInit ⟨#[0xb1]⟩ 1 none).before a0 Z = true) (hsz : Ls.size = maxL) (hd : decode bytes pc = .ok (.invokespecial idx, 3)) (hp : pc + 3 = pc') (hf : 1 ≤ R.frames) (hl : (st.map fun v => v.category).sum + 12 ≤ R.locals) (K : Go p l e R s m args below meth c Z n0 Q kc ks h cs sl (mkF m pc' Ls st)) : Go p l e R s m args below meth c Z n0 Q kc ks h cs sl (mkF m pc Ls (.ref a :: st)) := by
  subst hp
  exact go_stepT K fun T L X eT => initO X C.1 C.2.2.2.2.2.1 C.2.2.2.2.2.2.1 w1 w2 w3 eT (g := mkF m pc Ls (.ref a :: st)) rfl (hsz.trans C.2.2.1.symm) rfl (hb C.2.1 hd) hf (W := (st.map fun v => v.category).sum) (by show 2 * 0 + _ ≤ _; omega) hl
theorem go_ret0 (C : Ctx p s m meth c Z y bytes maxL none) (hd : decode bytes pc = .ok (.return_, 1)) (hc : cs ≤ kc) (hs : sl ≤ ks) (q : Q none h) : Go p l e R s m args below meth c Z n0 Q kc ks h cs sl (mkF m pc Ls []) := fun T L hL O X eT => by
  obtain ⟨fs, hr, hrun, hended, hW, hsame⟩ := X.leave (v := none) (fun _ => rfl) C.2.2.2.2.1
  subst eT
  exact ⟨_, _, L, X.returnOut C.1 C.2.2.2.1 (hb C.2.1 hd) hr, hrun, hended, hL, O, hW, hsame.mono hc hs, q⟩
theorem go_retI (C : Ctx p s m meth c Z y bytes maxL (some .int)) {z : Int32} (hd : decode bytes pc = .ok (.ireturn, 1)) (hc : cs ≤ kc) (hs : sl ≤ ks) (q : Q (some (.int z)) h) : Go p l e R s m args below meth c Z n0 Q kc ks h cs sl (mkF m pc Ls (.int z :: st)) := fun T L hL O X eT => by
  obtain ⟨fs, hr, hrun, hended, hW, hsame⟩ := X.leave (v := some (.int z)) (fun h => by rw [C.2.2.2.1] at h; cases h) C.2.2.2.2.1
  subst eT
  exact ⟨_, _, L, retOut X C.1 C.2.2.2.1 rfl (Or.inl ⟨rfl, Or.inl rfl, _, rfl⟩) (hb C.2.1 hd) hr, hrun, hended, hL, O, hW, hsame.mono hc hs, q⟩
theorem go_retL (C : Ctx p s m meth c Z y bytes maxL (some .long)) {z : Int64} (hd : decode bytes pc = .ok (.lreturn, 1)) (hc : cs ≤ kc) (hs : sl ≤ ks) (q : Q (some (.long z)) h) : Go p l e R s m args below meth c Z n0 Q kc ks h cs sl (mkF m pc Ls (.long z :: st)) := fun T L hL O X eT => by
  obtain ⟨fs, hr, hrun, hended, hW, hsame⟩ := X.leave (v := some (.long z)) (fun h => by rw [C.2.2.2.1] at h; cases h) C.2.2.2.2.1
  subst eT
  exact ⟨_, _, L, retOut X C.1 C.2.2.2.1 rfl (Or.inr (Or.inl ⟨rfl, rfl, _, rfl⟩)) (hb C.2.1 hd) hr, hrun, hended, hL, O, hW, hsame.mono hc hs, q⟩
theorem go_retN {t : FieldType} (C : Ctx p s m meth c Z y bytes maxL (some t)) {z z' : Int32} (ht : t = .boolean ∨ t = .byte ∨ t = .char ∨ t = .short) (hz : nar t z = z') (hd : decode bytes pc = .ok (.ireturn, 1)) (hc : cs ≤ kc) (hs : sl ≤ ks) (q : Q (some (.int z')) h) : Go p l e R s m args below meth c Z n0 Q kc ks h cs sl (mkF m pc Ls (.int z :: st)) := fun T L hL O X eT => by
  subst hz
  obtain ⟨fs, hr, hrun, hended, hW, hsame⟩ := X.leave (v := some (.int (nar t z))) (fun h => by rw [C.2.2.2.1] at h; cases h) C.2.2.2.2.1
  subst eT
  exact ⟨_, _, L, retN X C.1 C.2.2.2.1 ht (hb C.2.1 hd) hr, hrun, hended, hL, O, hW, hsame.mono hc hs, q⟩
theorem go_retA {t : FieldType} (C : Ctx p s m meth c Z y bytes maxL (some t)) {w : Value} (ht : t.isReference = true) (hw : w.isRef = true) (hd : decode bytes pc = .ok (.areturn, 1)) (hc : cs ≤ kc) (hs : sl ≤ ks) (q : Q (some w) h) : Go p l e R s m args below meth c Z n0 Q kc ks h cs sl (mkF m pc Ls (w :: st)) := fun T L hL O X eT => by
  obtain ⟨fs, hr, hrun, hended, hW, hsame⟩ := X.leave (v := some w) (fun h => by rw [C.2.2.2.1] at h; cases h) C.2.2.2.2.1
  subst eT
  exact ⟨_, _, L, retOut X C.1 C.2.2.2.1 (by cases t <;> first | (cases ht; done) | (cases w <;> first | rfl | cases hw)) (Or.inr (Or.inr (Or.inr (Or.inr ⟨rfl, ht, hw⟩)))) (hb C.2.1 hd) hr, hrun, hended, hL, O, hW, hsame.mono hc hs, q⟩
theorem go_callS (C : Ctx p s m meth c Z y bytes maxL ret) {y' : MethodName} {bytes' : ByteArray} {maxL' : Nat} {ret' : Option FieldType} {rm' : Room} {as' : Array Value} {Q' : Option Value → Heap → Prop} {index W : Nat} {argsL rest : List Value} {ps : List FieldType} {r' : Option FieldType} (w1 : (Jvm.Cond.methodLink y.cls index y').before a0 Z = true) (w2 : (Jvm.Cond.static y').before a0 Z = true) (M : Met l Z n0 y' bytes' maxL' ret' [] rm' as' h Q') (wc : (Jvm.Cond.code y' bytes' maxL' ret').before a0 Z = true) (wz : (Jvm.Cond.initialized y'.cls).before a0 Z = true) (hy : y'.cls ≠ "java/lang/invoke/MethodHandle" ∧ y'.cls ≠ "java/lang/invoke/VarHandle") (hf : rm'.frames + 1 ≤ R.frames) (hW : (rest.map fun v => v.category).sum ≤ W) (hl : W + (maxL' + 11) + rm'.locals ≤ R.locals) (hc : cs + rm'.cells ≤ R.cells) (hs : sl + rm'.slots ≤ R.slots) (hsz : Ls.size = maxL)  (hlen : parseMethodDescriptor y'.desc = some ⟨ps, r'⟩) (hal : argsL.length = ps.length) (hst : st = argsL.reverse ++ rest) (has : as' = argsL.toArray) (hd : decode bytes pc = .ok (.invokestatic index, 3)) (hp : pc + 3 = pc')
    (K : ∀ v h', Q' v h' → Go p l e R s m args below meth c Z n0 Q kc ks h' (cs + rm'.cells) (sl + rm'.slots) (mkF m pc' Ls (v.toList ++ rest))) : Go p l e R s m args below meth c Z n0 Q kc ks h cs sl (mkF m pc Ls st) := fun T L0 hL O X eT => by
  subst hp has hst
  obtain ⟨v, _, ⟨T1, L1, k1, n1⟩, -, X1, ⟨Lc1, q1, l1, y1, z1⟩, s1⟩ := Jvm.LawKit.callS X C.1 (y := y') C.2.2.2.2.2.2.1 (mvT C.2.2.2.2.2.1 w1) (mvT C.2.2.2.2.2.1 w2) (mvT C.2.2.2.2.2.1 wz) (mvT C.2.2.2.2.2.1 wc) hy (backOf (W := W) (R := R) (p := p) (e := e) (below := below) (args := args) (len := 3) (Q := fun v h L => Fr n0 L ∧ Old Z n0 h ∧ Q' v h) M C.2.2.2.2.2.1 wc wz hf hl) (g := mkF m pc Ls (argsL.reverse ++ rest)) rfl (hsz.trans C.2.2.1.symm) (argsL := argsL) (rest := rest) (lenOf hlen hal) rfl (by show 2 * 0 + _ ≤ _; omega) (hb C.2.1 hd) (fun _ _ => ⟨rfl, eT, hc, hs⟩)
  dsimp only [Pt.U, Pt.locs, Pt.cells, Pt.slots] at X1 l1 y1 z1 s1 q1
  subst l1 y1 z1
  obtain ⟨N, O', q⟩ := q1
  obtain ⟨U, w, L', h1, r⟩ := K v _ q T1 _ (Fr.app hL N) O' X1 rfl
  exact ⟨U, w, L', s1 _ h1, r⟩
theorem go_callC (C : Ctx p s m meth c Z y bytes maxL ret) {y' : MethodName} {bytes' : ByteArray} {maxL' : Nat} {ret' : Option FieldType} {rm' : Room} {as' : Array Value} {Q' : Option Value → Heap → Prop} {index W : Nat} {argsL rest : List Value} {ps : List FieldType} {r' : Option FieldType} (w1 : (Jvm.Cond.methodLink y.cls index y').before a0 Z = true) (w2 : (Jvm.Cond.instanceMethod y').before a0 Z = true) (hin : y'.name = "<init>") (hr0 : ret' = none) (M : Met l Z n0 y' bytes' maxL' ret' [] rm' as' h Q') (wc : (Jvm.Cond.code y' bytes' maxL' ret').before a0 Z = true) (wz : (Jvm.Cond.initialized y'.cls).before a0 Z = true) (hy : y'.cls ≠ "java/lang/invoke/MethodHandle" ∧ y'.cls ≠ "java/lang/invoke/VarHandle") (hf : rm'.frames + 1 ≤ R.frames) (hW : (rest.map fun v => v.category).sum ≤ W) (hl : W + (maxL' + 11) + rm'.locals ≤ R.locals) (hc : cs + rm'.cells ≤ R.cells) (hs : sl + rm'.slots ≤ R.slots) (hsz : Ls.size = maxL) {a : Addr} (hlen : parseMethodDescriptor y'.desc = some ⟨ps, r'⟩) (hal : argsL.length = ps.length) (hst : st = argsL.reverse ++ .ref a :: rest) (has : as' = (.ref a :: argsL).toArray) (hd : decode bytes pc = .ok (.invokespecial index, 3)) (hp : pc + 3 = pc')
    (K : ∀ v h', Q' v h' → Go p l e R s m args below meth c Z n0 Q kc ks h' (cs + rm'.cells) (sl + rm'.slots) (mkF m pc' Ls (v.toList ++ rest))) : Go p l e R s m args below meth c Z n0 Q kc ks h cs sl (mkF m pc Ls st) := fun T L0 hL O X eT => by
  subst hp has hst
  subst hr0
  obtain ⟨v, _, ⟨T1, L1, k1, n1⟩, -, X1, ⟨Lc1, q1, l1, y1, z1⟩, s1⟩ := X.specialBack C.1 (y := y') hin C.2.2.2.2.2.2.1 (mvT C.2.2.2.2.2.1 w1) (mvT C.2.2.2.2.2.1 w2) (mvT C.2.2.2.2.2.1 wc) hy (backOf (W := W) (R := R) (p := p) (e := e) (below := below) (args := args) (len := 3) (Q := fun v h L => Fr n0 L ∧ Old Z n0 h ∧ Q' v h) M C.2.2.2.2.2.1 wc wz hf hl) (g := mkF m pc Ls (argsL.reverse ++ .ref a :: rest)) rfl (hsz.trans C.2.2.1.symm) (Steps.refl _) (a := a) (argsL := argsL) (rest := rest) (lenOf hlen hal) rfl (by show 2 * 0 + _ ≤ _; omega) (hb C.2.1 hd) (fun _ _ => ⟨rfl, eT, hc, hs⟩)
  dsimp only [Pt.U, Pt.locs, Pt.cells, Pt.slots] at X1 l1 y1 z1 s1 q1
  subst l1 y1 z1
  obtain ⟨N, O', q⟩ := q1
  obtain ⟨U, w, L', h1, r⟩ := K v _ q T1 _ (Fr.app hL N) O' X1 rfl
  exact ⟨U, w, L', s1.trans h1, r⟩
theorem go_callV (C : Ctx p s m meth c Z y bytes maxL ret) {y' : MethodName} {bytes' : ByteArray} {maxL' : Nat} {ret' : Option FieldType} {rm' : Room} {as' : Array Value} {Q' : Option Value → Heap → Prop} {index W : Nat} {argsL rest : List Value} {ps : List FieldType} {r' : Option FieldType} (w1 : (Jvm.Cond.methodLink y.cls index y').before a0 Z = true) (w2 : (Jvm.Cond.declares y').before a0 Z = true) {K0 : String} (w3 : (Jvm.Cond.selects K0 y' y').before a0 Z = true) (w4 : (Jvm.Cond.instanceMethod y').before a0 Z = true) (M : Met l Z n0 y' bytes' maxL' ret' [] rm' as' h Q') (wc : (Jvm.Cond.code y' bytes' maxL' ret').before a0 Z = true) (wz : (Jvm.Cond.initialized y'.cls).before a0 Z = true) (hy : y'.cls ≠ "java/lang/invoke/MethodHandle" ∧ y'.cls ≠ "java/lang/invoke/VarHandle") (hf : rm'.frames + 1 ≤ R.frames) (hW : (rest.map fun v => v.category).sum ≤ W) (hl : W + (maxL' + 11) + rm'.locals ≤ R.locals) (hc : cs + rm'.cells ≤ R.cells) (hs : sl + rm'.slots ≤ R.slots) (hsz : Ls.size = maxL) {a : Addr} (E : Exa Z h a K0) (hlen : parseMethodDescriptor y'.desc = some ⟨ps, r'⟩) (hal : argsL.length = ps.length) (hst : st = argsL.reverse ++ .ref a :: rest) (has : as' = (.ref a :: argsL).toArray) (hd : decode bytes pc = .ok (.invokevirtual index, 3)) (hp : pc + 3 = pc')
    (K : ∀ v h', Q' v h' → Go p l e R s m args below meth c Z n0 Q kc ks h' (cs + rm'.cells) (sl + rm'.slots) (mkF m pc' Ls (v.toList ++ rest))) : Go p l e R s m args below meth c Z n0 Q kc ks h cs sl (mkF m pc Ls st) := fun T L0 hL O X eT => by
  subst hp has hst
  obtain ⟨cq, kq, qa, qb, qc⟩ := isOf C.2.2.2.2.2.1 eT E
  obtain ⟨v, _, ⟨T1, L1, k1, n1⟩, -, X1, ⟨Lc1, q1, l1, y1, z1⟩, s1⟩ := X.virtualBack C.1 (y := y') (z := y') C.2.2.2.2.2.2.1 (mvT C.2.2.2.2.2.1 w1) (mvT C.2.2.2.2.2.1 w2) (notFace_of_selects (args := #[]) (mvT C.2.2.2.2.2.1 w3)) (mvT C.2.2.2.2.2.1 w3) (mvT C.2.2.2.2.2.1 w4) hy (backOf (W := W) (R := R) (p := p) (e := e) (below := below) (args := args) (len := 3) (Q := fun v h L => Fr n0 L ∧ Old Z n0 h ∧ Q' v h) M C.2.2.2.2.2.1 wc wz hf hl) qa qc (g := mkF m pc Ls (argsL.reverse ++ .ref a :: rest)) rfl (hsz.trans C.2.2.1.symm) (Steps.refl _) (argsL := argsL) (rest := rest) (lenOf hlen hal) rfl (by show 2 * 0 + _ ≤ _; omega) (hb C.2.1 hd) (fun _ _ => ⟨rfl, eT, hc, hs⟩)
  dsimp only [Pt.U, Pt.locs, Pt.cells, Pt.slots] at X1 l1 y1 z1 s1 q1
  subst l1 y1 z1
  obtain ⟨N, O', q⟩ := q1
  obtain ⟨U, w, L', h1, r⟩ := K v _ q T1 _ (Fr.app hL N) O' X1 rfl
  exact ⟨U, w, L', s1.trans h1, r⟩
theorem go_callU (C : Ctx p s m meth c Z y bytes maxL ret) {y' : MethodName} {bytes' : ByteArray} {maxL' : Nat} {ret' : Option FieldType} {rm' : Room} {as' : Array Value} {Q' : Option Value → Heap → Prop} {index W : Nat} {argsL rest : List Value} {ps : List FieldType} {r' : Option FieldType} {K1 : String} (w1 : (Jvm.Cond.methodLink y.cls index ⟨K1, y'.name, y'.desc⟩).before a0 Z = true) (w2 : (Jvm.Cond.sameMethod K1 y'.cls y'.name y'.desc).before a0 Z = true) (w3 : (Jvm.Cond.declares y').before a0 Z = true) {K0 : String} (w4 : (Jvm.Cond.selects K0 ⟨K1, y'.name, y'.desc⟩ y').before a0 Z = true) (w5 : (Jvm.Cond.instanceMethod y').before a0 Z = true) (M : Met l Z n0 y' bytes' maxL' ret' [] rm' as' h Q') (wc : (Jvm.Cond.code y' bytes' maxL' ret').before a0 Z = true) (wz : (Jvm.Cond.initialized y'.cls).before a0 Z = true) (hy : y'.cls ≠ "java/lang/invoke/MethodHandle" ∧ y'.cls ≠ "java/lang/invoke/VarHandle") (hf : rm'.frames + 1 ≤ R.frames) (hW : (rest.map fun v => v.category).sum ≤ W) (hl : W + (maxL' + 11) + rm'.locals ≤ R.locals) (hc : cs + rm'.cells ≤ R.cells) (hs : sl + rm'.slots ≤ R.slots) (hsz : Ls.size = maxL) {a : Addr} (E : Exa Z h a K0) (hlen : parseMethodDescriptor y'.desc = some ⟨ps, r'⟩) (hal : argsL.length = ps.length) (hst : st = argsL.reverse ++ .ref a :: rest) (has : as' = (.ref a :: argsL).toArray) (hd : decode bytes pc = .ok (.invokevirtual index, 3)) (hp : pc + 3 = pc')
    (K : ∀ v h', Q' v h' → Go p l e R s m args below meth c Z n0 Q kc ks h' (cs + rm'.cells) (sl + rm'.slots) (mkF m pc' Ls (v.toList ++ rest))) : Go p l e R s m args below meth c Z n0 Q kc ks h cs sl (mkF m pc Ls st) := fun T L0 hL O X eT => by
  subst hp has hst
  obtain ⟨cq, kq, qa, qb, qc⟩ := isOf C.2.2.2.2.2.1 eT E
  obtain ⟨v, _, ⟨T1, L1, k1, n1⟩, -, X1, ⟨Lc1, q1, l1, y1, z1⟩, s1⟩ := X.virtualBackUp C.1 (x := ⟨K1, y'.name, y'.desc⟩) (y := y') (owner := y'.cls) C.2.2.2.2.2.2.1 (mvT C.2.2.2.2.2.1 w1) (mvT C.2.2.2.2.2.1 w2) (mvT C.2.2.2.2.2.1 w3) hy (mvT C.2.2.2.2.2.1 w4) (mvT C.2.2.2.2.2.1 w5) (backOf (W := W) (R := R) (p := p) (e := e) (below := below) (args := args) (len := 3) (Q := fun v h L => Fr n0 L ∧ Old Z n0 h ∧ Q' v h) M C.2.2.2.2.2.1 wc wz hf hl) qa qc (g := mkF m pc Ls (argsL.reverse ++ .ref a :: rest)) rfl (hsz.trans C.2.2.1.symm) (Steps.refl _) (argsL := argsL) (rest := rest) (lenOf hlen hal) rfl (by show 2 * 0 + _ ≤ _; omega) (hb C.2.1 hd) (fun _ _ => ⟨rfl, eT, hc, hs⟩)
  dsimp only [Pt.U, Pt.locs, Pt.cells, Pt.slots] at X1 l1 y1 z1 s1 q1
  subst l1 y1 z1
  obtain ⟨N, O', q⟩ := q1
  obtain ⟨U, w, L', h1, r⟩ := K v _ q T1 _ (Fr.app hL N) O' X1 rfl
  exact ⟨U, w, L', s1.trans h1, r⟩
theorem go_callI (C : Ctx p s m meth c Z y bytes maxL ret) {y' : MethodName} {bytes' : ByteArray} {maxL' : Nat} {ret' : Option FieldType} {rm' : Room} {as' : Array Value} {Q' : Option Value → Heap → Prop} {index W : Nat} {argsL rest : List Value} {ps : List FieldType} {r' : Option FieldType} {xi : MethodName} {count : Nat} (w1 : (Jvm.Cond.methodLink y.cls index xi).before a0 Z = true) (w2 : (Jvm.Cond.declares xi).before a0 Z = true) (w3 : (Jvm.Cond.interfaceMethod xi.cls xi.cls xi.name xi.desc).before a0 Z = true) {K0 : String} (w4 : (Jvm.Cond.selects K0 xi y').before a0 Z = true) (w5 : (Jvm.Cond.instanceMethod y').before a0 Z = true) (w6 : (Jvm.Cond.publicMethod y').before a0 Z = true) (w7 : (Jvm.Cond.unhidden K0 xi.name xi.desc).before a0 Z = true) (w8 : (Jvm.Cond.castable K0 xi.cls).before a0 Z = true) (hfa : (Jvm.Cond.interfaceMethod xi.cls xi.cls xi.name xi.desc).faceAtom = true) (hyi : xi.cls ≠ "java/lang/invoke/MethodHandle" ∧ xi.cls ≠ "java/lang/invoke/VarHandle") (M : Met l Z n0 y' bytes' maxL' ret' [] rm' as' h Q') (wc : (Jvm.Cond.code y' bytes' maxL' ret').before a0 Z = true) (wz : (Jvm.Cond.initialized y'.cls).before a0 Z = true) (hy : y'.cls ≠ "java/lang/invoke/MethodHandle" ∧ y'.cls ≠ "java/lang/invoke/VarHandle") (hf : rm'.frames + 1 ≤ R.frames) (hW : (rest.map fun v => v.category).sum ≤ W) (hl : W + (maxL' + 11) + rm'.locals ≤ R.locals) (hc : cs + rm'.cells ≤ R.cells) (hs : sl + rm'.slots ≤ R.slots) (hsz : Ls.size = maxL) {a : Addr} (E : Exa Z h a K0) (hlen : parseMethodDescriptor xi.desc = some ⟨ps, r'⟩) (hal : argsL.length = ps.length) (hst : st = argsL.reverse ++ .ref a :: rest) (has : as' = (.ref a :: argsL).toArray) (hd : decode bytes pc = .ok (.invokeinterface index count, 5)) (hp : pc + 5 = pc')
    (K : ∀ v h', Q' v h' → Go p l e R s m args below meth c Z n0 Q kc ks h' (cs + rm'.cells) (sl + rm'.slots) (mkF m pc' Ls (v.toList ++ rest))) : Go p l e R s m args below meth c Z n0 Q kc ks h cs sl (mkF m pc Ls st) := fun T L0 hL O X eT => by
  subst hp has hst
  obtain ⟨cq, kq, qa, qb, qc⟩ := isOf C.2.2.2.2.2.1 eT E
  obtain ⟨v, _, ⟨T1, L1, k1, n1⟩, -, X1, ⟨Lc1, q1, l1, y1, z1⟩, s1⟩ := X.interfaceBack C.1 (xi := xi) (y := y') C.2.2.2.2.2.2.1 (mvT C.2.2.2.2.2.1 w1) (mvT C.2.2.2.2.2.1 w2) (mvT C.2.2.2.2.2.1 w3 (by simp [Cond.onTables, Cond.keepsFace, Cond.keeps, Cond.steady, hfa])) (mvT C.2.2.2.2.2.1 w4) (mvT C.2.2.2.2.2.1 w5) (mvT C.2.2.2.2.2.1 w6) (mvT C.2.2.2.2.2.1 w7) (mvT C.2.2.2.2.2.1 w8) hyi (backOf (W := W) (R := R) (p := p) (e := e) (below := below) (args := args) (len := 5) (Q := fun v h L => Fr n0 L ∧ Old Z n0 h ∧ Q' v h) M C.2.2.2.2.2.1 wc wz hf hl) qa qb qc (g := mkF m pc Ls (argsL.reverse ++ .ref a :: rest)) rfl (hsz.trans C.2.2.1.symm) (Steps.refl _) (argsL := argsL) (rest := rest) (lenOf hlen hal) rfl (by show 2 * 0 + _ ≤ _; omega) (hb C.2.1 hd) (fun _ _ => ⟨rfl, eT, hc, hs⟩)
  dsimp only [Pt.U, Pt.locs, Pt.cells, Pt.slots] at X1 l1 y1 z1 s1 q1
  subst l1 y1 z1
  obtain ⟨N, O', q⟩ := q1
  obtain ⟨U, w, L', h1, r⟩ := K v _ q T1 _ (Fr.app hL N) O' X1 rfl
  exact ⟨U, w, L', s1.trans h1, r⟩
def Ar (Z : State) (h : Heap) (a : Addr) (ty : FieldType) (k : ClassId) (vs : List Value) : Prop := ∃ cl : Cell, Arr Z h a cl ty ∧ cl.cls = k ∧ cl.slots.toList = vs
theorem Ar.ext {a : Addr} {ty : FieldType} {k : ClassId} {vs : List Value} (F : Ar Z h a ty k vs) (E : Ext h h') : Ar Z h' a ty k vs := by obtain ⟨cl, A, r⟩ := F; exact ⟨cl, A.ext E, r⟩
theorem Ar.other {a b : Addr} {sl : Nat} {v : Value} {ty : FieldType} {k : ClassId} {vs : List Value} (F : Ar Z h b ty k vs) (W : Wr h h' a sl v) (q : b ≠ a) : Ar Z h' b ty k vs := by obtain ⟨cl, A, r⟩ := F; exact ⟨cl, A.other W q, r⟩
theorem Ar.keep {a : Addr} {ty : FieldType} {k : ClassId} {vs : List Value} {ws : List Addr} (F : Ar Z h a ty k vs) (K : Keep h h' ws) (q : a ∉ ws) : Ar Z h' a ty k vs := by obtain ⟨cl, A, r⟩ := F; exact ⟨cl, ⟨K.2.1 a cl A.1 q, A.2⟩, r⟩
theorem Ar.lt {a : Addr} {ty : FieldType} {k : ClassId} {vs : List Value} (F : Ar Z h a ty k vs) : a < h.size := by obtain ⟨cl, A, r⟩ := F; exact A.lt
theorem Ar.new {a : Addr} {ty : FieldType} {k : ClassId} {n : Int32} {len : Nat} (A : Arr Z h a (newA k ty n) ty) (hn : n.toNatClampNeg = len) : Ar Z h a ty k (List.replicate len (defaultValue ty)) := ⟨_, A, rfl, by subst hn; simp [newA]⟩
theorem Ar.inb {cl : Cell} {vs : List Value} {j : Int32} {i : Nat} (hn : ¬ j < 0) (hj : j.toNatClampNeg = i) (e0 : cl.slots.toList = vs) (hi : i < vs.length) : ¬ (j < 0 ∨ cl.slots.size ≤ j.toNatClampNeg) := by
  subst e0 hj
  rw [Array.length_toList] at hi
  exact fun q => q.elim hn (fun q => absurd hi (Nat.not_lt.mpr q))
theorem Ar.upd {a : Addr} {ty : FieldType} {cl : Cell} {vs : List Value} {j : Int32} {i : Nat} {v : Value} (A : Arr Z h a (cl.setSlot j.toNatClampNeg v) ty) (hj : j.toNatClampNeg = i) (e0 : cl.slots.toList = vs) : Ar Z h a ty cl.cls (vs.set i v) := ⟨_, A, rfl, by subst hj e0; simp [Cell.setSlot]⟩
theorem go_newPA (C : Ctx p s m meth c Z y bytes maxL ret) {aty : ArrayType} {n : Int32} {len : Nat} {ty : FieldType} (hty : newarray.typeOf aty = ty) (w : (Jvm.Cond.arrayClass ty).before a0 Z = true) (hd : decode bytes pc = .ok (.newarray aty, 2)) (hp : pc + 2 = pc') (hn : ¬ n < 0) (hlen : n.toNatClampNeg = len) (hb' : len * 8 ≤ 536870912) (hc : cs + 1 ≤ R.cells) (hl : sl + len ≤ R.slots)
    (K : ∀ h' a k, a = h.size → n0 ≤ a → Ext h h' → Ar Z h' a ty k (List.replicate len (defaultValue ty)) → Go p l e R s m args below meth c Z n0 Q kc ks h' (cs + 1) (sl + len) (mkF m pc' Ls (.ref a :: st))) : Go p l e R s m args below meth c Z n0 Q kc ks h cs sl (mkF m pc Ls (.int n :: st)) := by
  subst hty
  exact go_newP C w hd hp hn (Nat.le_of_eq hlen) hb' hc hl fun h' a k e1 e2 E A => K h' a k e1 e2 E (Ar.new A hlen)
theorem go_newRA (C : Ctx p s m meth c Z y bytes maxL ret) {K0 : String} {index : Nat} {n : Int32} {len : Nat} (w1 : (Jvm.Cond.classLink y.cls index K0).before a0 Z = true) (w2 : (Jvm.Cond.arrayOver (.object K0)).before a0 Z = true) (hd : decode bytes pc = .ok (.anewarray index, 3)) (hp : pc + 3 = pc') (hn : ¬ n < 0) (hlen : n.toNatClampNeg = len) (hb' : len * 8 ≤ 536870912) (hc : cs + 1 ≤ R.cells) (hl : sl + len ≤ R.slots)
    (K : ∀ h' a k, a = h.size → n0 ≤ a → Ext h h' → Ar Z h' a (.object K0) k (List.replicate len .null) → Ovr Z k K0 → Go p l e R s m args below meth c Z n0 Q kc ks h' (cs + 1) (sl + len) (mkF m pc' Ls (.ref a :: st))) : Go p l e R s m args below meth c Z n0 Q kc ks h cs sl (mkF m pc Ls (.int n :: st)) :=
  go_newR C w1 w2 hd hp hn (Nat.le_of_eq hlen) hb' hc hl fun h' a k e1 e2 E A O => K h' a k e1 e2 E (Ar.new A hlen) O
theorem go_iaset (C : Ctx p s m meth c Z y bytes maxL ret) {a : Addr} {k : ClassId} {vs vs' : List Value} {j : Int32} {i : Nat} {x : Int32} (A : Ar Z h a .int k vs) (hn : ¬ j < 0) (hj : j.toNatClampNeg = i) (hi : i < vs.length) (hvs : vs.set i (.int x) = vs') (hd : decode bytes pc = .ok (.iastore, 1)) (hp : pc + 1 = pc') (ha : n0 ≤ a)
    (K : ∀ h', Wr h h' a i (.int x) → Ar Z h' a .int k vs' → Go p l e R s m args below meth c Z n0 Q kc ks h' cs sl (mkF m pc' Ls st)) : Go p l e R s m args below meth c Z n0 Q kc ks h cs sl (mkF m pc Ls (.int x :: .int j :: .ref a :: st)) := by
  obtain ⟨cl, A, rfl, e0⟩ := A
  subst hvs
  exact go_stI C A (Ar.inb hn hj e0 hi) hd hp ha fun h' W A' => K h' (hj ▸ W) (Ar.upd A' hj e0)
theorem go_laset (C : Ctx p s m meth c Z y bytes maxL ret) {a : Addr} {k : ClassId} {vs vs' : List Value} {j : Int32} {i : Nat} {x : Int64} (A : Ar Z h a .long k vs) (hn : ¬ j < 0) (hj : j.toNatClampNeg = i) (hi : i < vs.length) (hvs : vs.set i (.long x) = vs') (hd : decode bytes pc = .ok (.lastore, 1)) (hp : pc + 1 = pc') (ha : n0 ≤ a)
    (K : ∀ h', Wr h h' a i (.long x) → Ar Z h' a .long k vs' → Go p l e R s m args below meth c Z n0 Q kc ks h' cs sl (mkF m pc' Ls st)) : Go p l e R s m args below meth c Z n0 Q kc ks h cs sl (mkF m pc Ls (.long x :: .int j :: .ref a :: st)) := by
  obtain ⟨cl, A, rfl, e0⟩ := A
  subst hvs
  exact go_stJ C A (Ar.inb hn hj e0 hi) hd hp ha fun h' W A' => K h' (hj ▸ W) (Ar.upd A' hj e0)
theorem go_caset (C : Ctx p s m meth c Z y bytes maxL ret) {a : Addr} {k : ClassId} {vs vs' : List Value} {j : Int32} {i : Nat} {x : Int32} (A : Ar Z h a .char k vs) (hn : ¬ j < 0) (hj : j.toNatClampNeg = i) (hi : i < vs.length) (hvs : vs.set i (.int (nar .char x)) = vs') (hd : decode bytes pc = .ok (.castore, 1)) (hp : pc + 1 = pc') (ha : n0 ≤ a)
    (K : ∀ h', Wr h h' a i (.int (nar .char x)) → Ar Z h' a .char k vs' → Go p l e R s m args below meth c Z n0 Q kc ks h' cs sl (mkF m pc' Ls st)) : Go p l e R s m args below meth c Z n0 Q kc ks h cs sl (mkF m pc Ls (.int x :: .int j :: .ref a :: st)) := by
  obtain ⟨cl, A, rfl, e0⟩ := A
  subst hvs
  exact go_stC C A (Ar.inb hn hj e0 hi) hd hp ha fun h' W A' => K h' (hj ▸ W) (Ar.upd A' hj e0)
theorem go_raset (C : Ctx p s m meth c Z y bytes maxL ret) {a b : Addr} {k : ClassId} {K0 : String} {vs vs' : List Value} {j : Int32} {i : Nat} (A : Ar Z h a (.object K0) k vs) (V : Ovr Z k K0) (I : Ins Z h b K0 true) (hn : ¬ j < 0) (hj : j.toNatClampNeg = i) (hi : i < vs.length) (hvs : vs.set i (.ref b) = vs') (hd : decode bytes pc = .ok (.aastore, 1)) (hp : pc + 1 = pc') (ha : n0 ≤ a)
    (K : ∀ h', Wr h h' a i (.ref b) → Ar Z h' a (.object K0) k vs' → Go p l e R s m args below meth c Z n0 Q kc ks h' cs sl (mkF m pc' Ls st)) : Go p l e R s m args below meth c Z n0 Q kc ks h cs sl (mkF m pc Ls (.ref b :: .int j :: .ref a :: st)) := by
  obtain ⟨cl, A, rfl, e0⟩ := A
  subst hvs
  exact go_stR C A (Ar.inb hn hj e0 hi) rfl (Sto.of A V I) hd hp ha fun h' W A' => K h' (hj ▸ W) (Ar.upd A' hj e0)
theorem go_raget (C : Ctx p s m meth c Z y bytes maxL ret) {a : Addr} {k : ClassId} {vs : List Value} {ty : FieldType} {j : Int32} {i : Nat} {v : Value} (A : Ar Z h a ty k vs) (hty : ty.isReference = true) (hn : ¬ j < 0) (hj : j.toNatClampNeg = i) (hv : vs[i]? = some v) (hd : decode bytes pc = .ok (.aaload, 1)) (hp : pc + 1 = pc') (K : Go p l e R s m args below meth c Z n0 Q kc ks h cs sl (mkF m pc' Ls (v :: st))) : Go p l e R s m args below meth c Z n0 Q kc ks h cs sl (mkF m pc Ls (.int j :: .ref a :: st)) := by
  obtain ⟨cl, A, rfl, e0⟩ := A
  exact go_aaload C A hty (Ar.inb hn hj e0 (List.getElem?_eq_some_iff.mp hv).1) (by subst e0 hj; rw [← hv, Array.getElem?_toList]) hd hp K
theorem go_alen (C : Ctx p s m meth c Z y bytes maxL ret) {a : Addr} {k : ClassId} {vs : List Value} {ty : FieldType} {z : Int32} (A : Ar Z h a ty k vs) (hz : vs.length.toInt32 = z) (hd : decode bytes pc = .ok (.arraylength, 1)) (hp : pc + 1 = pc') (K : Go p l e R s m args below meth c Z n0 Q kc ks h cs sl (mkF m pc' Ls (.int z :: st))) : Go p l e R s m args below meth c Z n0 Q kc ks h cs sl (mkF m pc Ls (.ref a :: st)) := by
  obtain ⟨cl, A, rfl, e0⟩ := A
  exact go_arraylength C A (by rw [← hz, ← e0, Array.length_toList]) hd hp K
theorem go_iaget (C : Ctx p s m meth c Z y bytes maxL ret) {a : Addr} {k : ClassId} {vs : List Value} {j : Int32} {i : Nat} {v : Value} (A : Ar Z h a .int k vs) (hn : ¬ j < 0) (hj : j.toNatClampNeg = i) (hv : vs[i]? = some v) (hd : decode bytes pc = .ok (.iaload, 1)) (hp : pc + 1 = pc') (K : Go p l e R s m args below meth c Z n0 Q kc ks h cs sl (mkF m pc' Ls (v :: st))) : Go p l e R s m args below meth c Z n0 Q kc ks h cs sl (mkF m pc Ls (.int j :: .ref a :: st)) := by
  obtain ⟨cl, A, rfl, e0⟩ := A
  exact go_iaload C A (Ar.inb hn hj e0 (List.getElem?_eq_some_iff.mp hv).1) (by subst e0 hj; rw [← hv, Array.getElem?_toList]) hd hp K
theorem go_laget (C : Ctx p s m meth c Z y bytes maxL ret) {a : Addr} {k : ClassId} {vs : List Value} {j : Int32} {i : Nat} {v : Value} (A : Ar Z h a .long k vs) (hn : ¬ j < 0) (hj : j.toNatClampNeg = i) (hv : vs[i]? = some v) (hd : decode bytes pc = .ok (.laload, 1)) (hp : pc + 1 = pc') (K : Go p l e R s m args below meth c Z n0 Q kc ks h cs sl (mkF m pc' Ls (v :: st))) : Go p l e R s m args below meth c Z n0 Q kc ks h cs sl (mkF m pc Ls (.int j :: .ref a :: st)) := by
  obtain ⟨cl, A, rfl, e0⟩ := A
  exact go_laload C A (Ar.inb hn hj e0 (List.getElem?_eq_some_iff.mp hv).1) (by subst e0 hj; rw [← hv, Array.getElem?_toList]) hd hp K
theorem go_caget (C : Ctx p s m meth c Z y bytes maxL ret) {a : Addr} {k : ClassId} {vs : List Value} {j : Int32} {i : Nat} {v : Value} (A : Ar Z h a .char k vs) (hn : ¬ j < 0) (hj : j.toNatClampNeg = i) (hv : vs[i]? = some v) (hd : decode bytes pc = .ok (.caload, 1)) (hp : pc + 1 = pc') (K : Go p l e R s m args below meth c Z n0 Q kc ks h cs sl (mkF m pc' Ls (v :: st))) : Go p l e R s m args below meth c Z n0 Q kc ks h cs sl (mkF m pc Ls (.int j :: .ref a :: st)) := by
  obtain ⟨cl, A, rfl, e0⟩ := A
  exact go_caload C A (Ar.inb hn hj e0 (List.getElem?_eq_some_iff.mp hv).1) (by subst e0 hj; rw [← hv, Array.getElem?_toList]) hd hp K
theorem go_clone (C : Ctx p s m meth c Z y bytes maxL ret) {ad : String} {index : Nat} {a : Addr} {ty : FieldType} {k : ClassId} {vs : List Value} {len W : Nat}
    (w1 : (Jvm.Cond.methodLink y.cls index ⟨ad, "clone", "()Ljava/lang/Object;"⟩).before a0 Z = true) (w2 : (Jvm.Cond.sameMethod ad "java/lang/Object" "clone" "()Ljava/lang/Object;").before a0 Z = true) (w3 : (Jvm.Cond.native ⟨"java/lang/Object", "clone", "()Ljava/lang/Object;"⟩).before a0 Z = true)
    (w4 : (Jvm.Cond.instanceMethod ⟨"java/lang/Object", "clone", "()Ljava/lang/Object;"⟩).before a0 Z = true) (w5 : (Jvm.Cond.selects ad ⟨ad, "clone", "()Ljava/lang/Object;"⟩ ⟨"java/lang/Object", "clone", "()Ljava/lang/Object;"⟩).before a0 Z = true) (w6 : (Jvm.Cond.castable ad "java/lang/Cloneable").before a0 Z = true)
    (A : Ar Z h a ty k vs) (E : Exa Z h a ad) (hfit : ∀ v ∈ vs, fits ty v = true) (hsz : Ls.size = maxL) (hd : decode bytes pc = .ok (.invokevirtual index, 3)) (hp : pc + 3 = pc') (hf : 1 ≤ R.frames) (hW : (st.map fun v => v.category).sum ≤ W) (hl : W + 14 ≤ R.locals) (hlen : vs.length = len) (hc : cs + 1 ≤ R.cells) (hsl : sl + len ≤ R.slots)
    (K : ∀ h' b, b = h.size → n0 ≤ b → Ext h h' → Ar Z h' b ty k vs → Exa Z h' b ad → Go p l e R s m args below meth c Z n0 Q kc ks h' (cs + 1) (sl + len) (mkF m pc' Ls (.ref b :: st))) : Go p l e R s m args below meth c Z n0 Q kc ks h cs sl (mkF m pc Ls (.ref a :: st)) := fun T L0 hL O X eT => by
  subst hp
  obtain ⟨cl, A, hk', e0⟩ := A
  have FC : FitC Z cl := fitC_of A fun i hi v hv => hfit v (by subst e0; exact List.mem_of_getElem? (by rw [Array.getElem?_toList]; exact hv))
  obtain ⟨T', h', X', e', E', A', Ex', hs⟩ := cloneA X C.1 C.2.2.2.2.2.1 C.2.2.2.2.2.2.1 w1 w2 w3 w4 w5 w6 eT A E FC (g := mkF m pc Ls (.ref a :: st)) rfl (hsz.trans C.2.2.1.symm) rfl (hb C.2.1 hd) hf (W := W) (by show 2 * 0 + _ ≤ _; omega) hl (cap := len) (by rw [← hlen, ← e0, Array.length_toList]; exact Nat.le_refl _) hc hsl
  obtain ⟨U, v, L', h1, r⟩ := K h' h.size rfl (O.1 ▸ O.2.1) E' ⟨cloneOf cl, A', hk', e0⟩ Ex' T' _ hL (O.ext E') X' e'
  exact ⟨U, v, L', hs U h1, r⟩
theorem go_newPE (C : Ctx p s m meth c Z y bytes maxL ret) {aty : ArrayType} {n : Int32} {len : Nat} {ty : FieldType} {ad : String} (hty : newarray.typeOf aty = ty) (had : "[" ++ ty.toString = ad) (w : (Jvm.Cond.arrayClass ty).before a0 Z = true) (hd : decode bytes pc = .ok (.newarray aty, 2)) (hp : pc + 2 = pc') (hn : ¬ n < 0) (hlen : n.toNatClampNeg = len) (hb' : len * 8 ≤ 536870912) (hc : cs + 1 ≤ R.cells) (hl : sl + len ≤ R.slots)
    (K : ∀ h' a k, a = h.size → n0 ≤ a → Ext h h' → Ar Z h' a ty k (List.replicate len (defaultValue ty)) → Exa Z h' a ad → Go p l e R s m args below meth c Z n0 Q kc ks h' (cs + 1) (sl + len) (mkF m pc' Ls (.ref a :: st))) : Go p l e R s m args below meth c Z n0 Q kc ks h cs sl (mkF m pc Ls (.int n :: st)) := fun T L0 hL O X eT => by
  subst hp hty
  obtain ⟨T', h', k, X', e', E, A, Ex, hs⟩ := newPE X C.1 C.2.2.2.2.2.1 w eT (g := mkF m pc Ls (.int n :: st)) rfl (hb C.2.1 hd) rfl hn (Nat.le_of_eq hlen) hb' hc hl had
  obtain ⟨U, v, L', h1, r⟩ := K h' h.size k rfl (O.1 ▸ O.2.1) E (Ar.new A hlen) Ex T' _ hL (O.ext E) X' e'
  exact ⟨U, v, L', hs U h1, r⟩
theorem go_newAA (C : Ctx p s m meth c Z y bytes maxL ret) {K0 ad : String} {ty : FieldType} {index : Nat} {n : Int32} {len : Nat} (hC : (FieldType.array ty).toString = K0) (had : "[" ++ K0 = ad) (w1 : (Jvm.Cond.classLink y.cls index K0).before a0 Z = true) (w2 : (Jvm.Cond.arrayOver (.array ty)).before a0 Z = true) (hd : decode bytes pc = .ok (.anewarray index, 3)) (hp : pc + 3 = pc') (hn : ¬ n < 0) (hlen : n.toNatClampNeg = len) (hb' : len * 8 ≤ 536870912) (hc : cs + 1 ≤ R.cells) (hl : sl + len ≤ R.slots)
    (K : ∀ h' a k, a = h.size → n0 ≤ a → Ext h h' → Ar Z h' a (.array ty) k (List.replicate len .null) → OvrA Z k ty K0 → Exa Z h' a ad → Go p l e R s m args below meth c Z n0 Q kc ks h' (cs + 1) (sl + len) (mkF m pc' Ls (.ref a :: st))) : Go p l e R s m args below meth c Z n0 Q kc ks h cs sl (mkF m pc Ls (.int n :: st)) := fun T L0 hL O X eT => by
  subst hp
  obtain ⟨T', h', k, X', e', E, A, Ex, V, hs⟩ := newRA X C.1 C.2.2.2.2.2.1 C.2.2.2.2.2.2.1 hC w1 w2 eT (g := mkF m pc Ls (.int n :: st)) rfl (hb C.2.1 hd) rfl hn (Nat.le_of_eq hlen) hb' hc hl had
  obtain ⟨U, v, L', h1, r⟩ := K h' h.size k rfl (O.1 ▸ O.2.1) E (Ar.new A hlen) V Ex T' _ hL (O.ext E) X' e'
  exact ⟨U, v, L', hs U h1, r⟩
theorem go_aaset (C : Ctx p s m meth c Z y bytes maxL ret) {a b : Addr} {k : ClassId} {K0 : String} {ty : FieldType} {vs vs' : List Value} {j : Int32} {i : Nat} (A : Ar Z h a (.array ty) k vs) (V : OvrA Z k ty K0) (I : Ins Z h b K0 true) (hn : ¬ j < 0) (hj : j.toNatClampNeg = i) (hi : i < vs.length) (hvs : vs.set i (.ref b) = vs') (hd : decode bytes pc = .ok (.aastore, 1)) (hp : pc + 1 = pc') (ha : n0 ≤ a)
    (K : ∀ h', Wr h h' a i (.ref b) → Ar Z h' a (.array ty) k vs' → Go p l e R s m args below meth c Z n0 Q kc ks h' cs sl (mkF m pc' Ls st)) : Go p l e R s m args below meth c Z n0 Q kc ks h cs sl (mkF m pc Ls (.ref b :: .int j :: .ref a :: st)) := by
  obtain ⟨cl, A, rfl, e0⟩ := A
  subst hvs
  exact go_stR C A (Ar.inb hn hj e0 hi) rfl (Sto.ofVA A rfl V I) hd hp ha fun h' W A' => K h' (hj ▸ W) (Ar.upd A' hj e0)
theorem go_dupX2 (C : Ctx p s m meth c Z y bytes maxL ret) {u v w : Value} (hd : decode bytes pc = .ok (.dup_x2, 1)) (hu : u.category = 1) (hv : v.category = 1) (hw : w.category = 1) (hp : pc + 1 = pc') (K : Go p l e R s m args below meth c Z n0 Q kc ks h cs sl (mkF m pc' Ls (u :: v :: w :: u :: st))) : Go p l e R s m args below meth c Z n0 Q kc ks h cs sl (mkF m pc Ls (u :: v :: w :: st)) := by
  subst hp
  refine go_step K fun T t a k => ?_
  have hx := C.1
  have hd' := hb C.2.1 hd
  jvm_step a [a.top, hx, hd', hu, hv, hw]
  exact k
theorem go_callP (C : Ctx p s m meth c Z y bytes maxL ret) {y' : MethodName} {bytes' : ByteArray} {maxL' : Nat} {ret' : Option FieldType} {rm' : Room} {as' : Array Value} {Q' : Option Value → Heap → Prop} {index W : Nat} {argsL rest : List Value} {ps : List FieldType} {r' : Option FieldType} (w1 : (Jvm.Cond.methodLink y.cls index y').before a0 Z = true) (w2 : (Jvm.Cond.instanceMethod y').before a0 Z = true) (w3 : (Jvm.Cond.privateMethod y').before a0 Z = true) {nn : Nat} (wi : (Jvm.Cond.instantiable y'.cls nn).before a0 Z = true) (M : Met l Z n0 y' bytes' maxL' ret' [] rm' as' h Q') (wc : (Jvm.Cond.code y' bytes' maxL' ret').before a0 Z = true) (wz : (Jvm.Cond.initialized y'.cls).before a0 Z = true) (hy : y'.cls ≠ "java/lang/invoke/MethodHandle" ∧ y'.cls ≠ "java/lang/invoke/VarHandle") (hf : rm'.frames + 1 ≤ R.frames) (hW : (rest.map fun v => v.category).sum ≤ W) (hl : W + (maxL' + 11) + rm'.locals ≤ R.locals) (hc : cs + rm'.cells ≤ R.cells) (hs : sl + rm'.slots ≤ R.slots) (hsz : Ls.size = maxL) {a : Addr} {K0 : String} (E : Exa Z h a K0) (hlen : parseMethodDescriptor y'.desc = some ⟨ps, r'⟩) (hal : argsL.length = ps.length) (hst : st = argsL.reverse ++ .ref a :: rest) (has : as' = (.ref a :: argsL).toArray) (hd : decode bytes pc = .ok (.invokevirtual index, 3)) (hp : pc + 3 = pc')
    (K : ∀ v h', Q' v h' → Go p l e R s m args below meth c Z n0 Q kc ks h' (cs + rm'.cells) (sl + rm'.slots) (mkF m pc' Ls (v.toList ++ rest))) : Go p l e R s m args below meth c Z n0 Q kc ks h cs sl (mkF m pc Ls st) := fun T L0 hL O X eT => by
  subst hp has hst
  obtain ⟨mk, methM, hnamed, hmethM, hstM, habM⟩ := Cond.instanceMethod_spec (mvT (args := args) C.2.2.2.2.2.1 w2)
  obtain ⟨methM', cM, hmethM', -, -, -, -, -, -, hsigM⟩ := Cond.code_spec hnamed (mvT (args := args) C.2.2.2.2.2.1 wc)
  cases hmethM.symm.trans hmethM'
  obtain ⟨c0, kP, i1, hkP, -, hkPi0, -⟩ := Cond.instantiable_spec (mvT (args := args) C.2.2.2.2.2.1 wi)
  have hkPi := (Bool.or_eq_false_iff.mp hkPi0).1
  cases (findClass_of_methodNamed hnamed).symm.trans i1
  obtain ⟨cell, hcell0, hobj⟩ := E.cell
  have hcell : T.heap[a]? = some cell := by rw [eT]; exact hcell0
  have hselP : selectMethod e.platform s.vm cell.cls mk = .method mk := selectMethod_private hmethM (Cond.privateMethod_at (mvP (args := args) C.2.2.2.2.2.1 w3) mk methM hnamed hmethM)
  obtain ⟨vm₁, X₁, hstep₁⟩ := X.invokevirtual C.1 C.2.2.2.2.2.2.1 (mvT C.2.2.2.2.2.1 w1) hnamed hmethM hstM hkP hkPi hy (a := a) (cell := cell) hcell hobj hselP hmethM habM hkP hkPi (g := mkF m pc Ls (argsL.reverse ++ .ref a :: rest)) rfl (argsL := argsL) (rest := rest) (lenOf hlen hal _ hsigM) rfl (hb C.2.1 hd)
  obtain ⟨v, ⟨T1, L1, k1, n1⟩, X1, ⟨Lc1, q1, l1, y1, z1⟩, hsteps⟩ := (backOf (W := W) (R := R) (p := p) (e := e) (below := below) (args := args) (len := 3) (Q := fun v h L => Fr n0 L ∧ Old Z n0 h ∧ Q' v h) M C.2.2.2.2.2.1 wc wz hf hl) m meth c ⟨T.setVm vm₁, L0, cs, sl⟩ (mkF m pc Ls rest) (.invokevirtual index) mk (.ref a :: argsL).toArray X₁ rfl (hsz.trans C.2.2.1.symm) (hb C.2.1 hd) (by show 2 * 0 + (rest.map fun v => v.category).sum ≤ W; omega) (X₁.named hnamed) ⟨rfl, eT, hc, hs⟩
  have s1 := (hstep₁ _ fun acts => by rw [doInvoke_state]; exact Steps.refl _).trans hsteps
  dsimp only [Pt.U, Pt.locs, Pt.cells, Pt.slots] at X1 l1 y1 z1 s1 q1
  subst l1 y1 z1
  obtain ⟨N, O', q⟩ := q1
  obtain ⟨U, w, L', h1, r⟩ := K v _ q T1 _ (Fr.app hL N) O' X1 rfl
  exact ⟨U, w, L', s1.trans h1, r⟩
end OwnGo
theorem wd_0 {Z : State} {a0 : Array Value} (hw : ∀ d ∈ tables_1, d.before a0 Z = true) : (Jvm.Cond.arrayClass Jvm.ClassFile.FieldType.char).before a0 Z = true := hw _ (List.mem_of_getElem? (i := 0) rfl)
theorem wd_1 {Z : State} {a0 : Array Value} (hw : ∀ d ∈ tables_1, d.before a0 Z = true) : (Jvm.Cond.methodLink "com/example/ratatoskr/ratatoskr/gmtp/MarkerOfPinLaw" (7 : Nat) ({ cls := "com/example/ratatoskr/ratatoskr/gmtp/Marker", name := "of", desc := "(C)Lcom/example/ratatoskr/ratatoskr/gmtp/Marker;" } : Jvm.MethodName)).before a0 Z = true := hw _ (List.mem_of_getElem? (i := 1) rfl)
theorem wd_2 {Z : State} {a0 : Array Value} (hw : ∀ d ∈ tables_1, d.before a0 Z = true) : (Jvm.Cond.static ({ cls := "com/example/ratatoskr/ratatoskr/gmtp/Marker", name := "of", desc := "(C)Lcom/example/ratatoskr/ratatoskr/gmtp/Marker;" } : Jvm.MethodName)).before a0 Z = true := hw _ (List.mem_of_getElem? (i := 2) rfl)
theorem wd_3 {Z : State} {a0 : Array Value} (hw : ∀ d ∈ tables_1, d.before a0 Z = true) : (Jvm.Cond.initialized "com/example/ratatoskr/ratatoskr/gmtp/Marker").before a0 Z = true := hw _ (List.mem_of_getElem? (i := 3) rfl)
theorem wd_4 {Z : State} {a0 : Array Value} (hw : ∀ d ∈ tables_1, d.before a0 Z = true) : (Jvm.Cond.code ({ cls := "com/example/ratatoskr/ratatoskr/gmtp/Marker", name := "of", desc := "(C)Lcom/example/ratatoskr/ratatoskr/gmtp/Marker;" } : Jvm.MethodName) prog_16_method_4_code (5 : Nat) (Option.some (Jvm.ClassFile.FieldType.object "com/example/ratatoskr/ratatoskr/gmtp/Marker"))).before a0 Z = true := hw _ (List.mem_of_getElem? (i := 4) rfl)
theorem wd_5 {Z : State} {a0 : Array Value} (hw : ∀ d ∈ tables_1, d.before a0 Z = true) : (Jvm.Cond.fieldLink "com/example/ratatoskr/ratatoskr/gmtp/Marker" (55 : Nat) "com/example/ratatoskr/ratatoskr/gmtp/Marker" "ALL" "[Lcom/example/ratatoskr/ratatoskr/gmtp/Marker;").before a0 Z = true := hw _ (List.mem_of_getElem? (i := 5) rfl)
theorem wd_6 {Z : State} {a0 : Array Value} (hw : ∀ d ∈ tables_1, d.before a0 Z = true) : (Jvm.Cond.laysStatic "com/example/ratatoskr/ratatoskr/gmtp/Marker" "ALL" "[Lcom/example/ratatoskr/ratatoskr/gmtp/Marker;").before a0 Z = true := hw _ (List.mem_of_getElem? (i := 6) rfl)
theorem wd_7 {Z : State} {a0 : Array Value} (hw : ∀ d ∈ tables_1, d.before a0 Z = true) : (Jvm.Cond.laysStatic "com/example/ratatoskr/ratatoskr/gmtp/Marker" "CONTINUES_AFTER_BREAK" "Lcom/example/ratatoskr/ratatoskr/gmtp/Marker;").before a0 Z = true := hw _ (List.mem_of_getElem? (i := 7) rfl)
theorem wd_8 {Z : State} {a0 : Array Value} (hw : ∀ d ∈ tables_1, d.before a0 Z = true) : (Jvm.Cond.fieldLink "com/example/ratatoskr/ratatoskr/gmtp/Marker" (41 : Nat) "com/example/ratatoskr/ratatoskr/gmtp/Marker" "symbol" "C").before a0 Z = true := hw _ (List.mem_of_getElem? (i := 8) rfl)
theorem wd_10 {Z : State} {a0 : Array Value} (hw : ∀ d ∈ tables_1, d.before a0 Z = true) : (Jvm.Cond.laysStatic "com/example/ratatoskr/ratatoskr/gmtp/Marker" "CONTINUES" "Lcom/example/ratatoskr/ratatoskr/gmtp/Marker;").before a0 Z = true := hw _ (List.mem_of_getElem? (i := 10) rfl)
theorem wd_11 {Z : State} {a0 : Array Value} (hw : ∀ d ∈ tables_1, d.before a0 Z = true) : (Jvm.Cond.methodLink "com/example/ratatoskr/ratatoskr/gmtp/MarkerOfPinLaw" (13 : Nat) ({ cls := "com/example/ratatoskr/ratatoskr/gmtp/MarkerOfPinLaw", name := "expected", desc := "(C)Lcom/example/ratatoskr/ratatoskr/gmtp/Marker;" } : Jvm.MethodName)).before a0 Z = true := hw _ (List.mem_of_getElem? (i := 11) rfl)
theorem wd_12 {Z : State} {a0 : Array Value} (hw : ∀ d ∈ tables_1, d.before a0 Z = true) : (Jvm.Cond.static ({ cls := "com/example/ratatoskr/ratatoskr/gmtp/MarkerOfPinLaw", name := "expected", desc := "(C)Lcom/example/ratatoskr/ratatoskr/gmtp/Marker;" } : Jvm.MethodName)).before a0 Z = true := hw _ (List.mem_of_getElem? (i := 12) rfl)
theorem wd_13 {Z : State} {a0 : Array Value} (hw : ∀ d ∈ tables_1, d.before a0 Z = true) : (Jvm.Cond.initialized "com/example/ratatoskr/ratatoskr/gmtp/MarkerOfPinLaw").before a0 Z = true := hw _ (List.mem_of_getElem? (i := 13) rfl)
theorem wd_14 {Z : State} {a0 : Array Value} (hw : ∀ d ∈ tables_1, d.before a0 Z = true) : (Jvm.Cond.code ({ cls := "com/example/ratatoskr/ratatoskr/gmtp/MarkerOfPinLaw", name := "expected", desc := "(C)Lcom/example/ratatoskr/ratatoskr/gmtp/Marker;" } : Jvm.MethodName) method_3_code (1 : Nat) (Option.some (Jvm.ClassFile.FieldType.object "com/example/ratatoskr/ratatoskr/gmtp/Marker"))).before a0 Z = true := hw _ (List.mem_of_getElem? (i := 14) rfl)
theorem wd_15 {Z : State} {a0 : Array Value} (hw : ∀ d ∈ tables_1, d.before a0 Z = true) : (Jvm.Cond.fieldLink "com/example/ratatoskr/ratatoskr/gmtp/MarkerOfPinLaw" (22 : Nat) "com/example/ratatoskr/ratatoskr/gmtp/Marker" "CONTINUES" "Lcom/example/ratatoskr/ratatoskr/gmtp/Marker;").before a0 Z = true := hw _ (List.mem_of_getElem? (i := 15) rfl)
theorem wd_16 {Z : State} {a0 : Array Value} (hw : ∀ d ∈ tables_1, d.before a0 Z = true) : (Jvm.Cond.fieldLink "com/example/ratatoskr/ratatoskr/gmtp/MarkerOfPinLaw" (18 : Nat) "com/example/ratatoskr/ratatoskr/gmtp/Marker" "CONTINUES_AFTER_BREAK" "Lcom/example/ratatoskr/ratatoskr/gmtp/Marker;").before a0 Z = true := hw _ (List.mem_of_getElem? (i := 16) rfl)
theorem wd_17 {Z : State} {a0 : Array Value} (hw : ∀ d ∈ tables_1, d.before a0 Z = true) : (Jvm.Cond.laysStatic "com/example/ratatoskr/ratatoskr/gmtp/Marker" "ENDS_WITH_BREAK" "Lcom/example/ratatoskr/ratatoskr/gmtp/Marker;").before a0 Z = true := hw _ (List.mem_of_getElem? (i := 17) rfl)
theorem wd_18 {Z : State} {a0 : Array Value} (hw : ∀ d ∈ tables_1, d.before a0 Z = true) : (Jvm.Cond.laysStatic "com/example/ratatoskr/ratatoskr/gmtp/Marker" "ENDS" "Lcom/example/ratatoskr/ratatoskr/gmtp/Marker;").before a0 Z = true := hw _ (List.mem_of_getElem? (i := 18) rfl)
theorem wd_19 {Z : State} {a0 : Array Value} (hw : ∀ d ∈ tables_1, d.before a0 Z = true) : (Jvm.Cond.laysStatic "com/example/ratatoskr/ratatoskr/gmtp/Marker" "LAST_WITH_BREAK" "Lcom/example/ratatoskr/ratatoskr/gmtp/Marker;").before a0 Z = true := hw _ (List.mem_of_getElem? (i := 19) rfl)
theorem wd_20 {Z : State} {a0 : Array Value} (hw : ∀ d ∈ tables_1, d.before a0 Z = true) : (Jvm.Cond.laysStatic "com/example/ratatoskr/ratatoskr/gmtp/Marker" "LAST" "Lcom/example/ratatoskr/ratatoskr/gmtp/Marker;").before a0 Z = true := hw _ (List.mem_of_getElem? (i := 20) rfl)
theorem wd_21 {Z : State} {a0 : Array Value} (hw : ∀ d ∈ tables_1, d.before a0 Z = true) : (Jvm.Cond.fieldLink "com/example/ratatoskr/ratatoskr/gmtp/MarkerOfPinLaw" (34 : Nat) "com/example/ratatoskr/ratatoskr/gmtp/Marker" "LAST" "Lcom/example/ratatoskr/ratatoskr/gmtp/Marker;").before a0 Z = true := hw _ (List.mem_of_getElem? (i := 21) rfl)
theorem wd_22 {Z : State} {a0 : Array Value} (hw : ∀ d ∈ tables_1, d.before a0 Z = true) : (Jvm.Cond.fieldLink "com/example/ratatoskr/ratatoskr/gmtp/MarkerOfPinLaw" (28 : Nat) "com/example/ratatoskr/ratatoskr/gmtp/Marker" "ENDS" "Lcom/example/ratatoskr/ratatoskr/gmtp/Marker;").before a0 Z = true := hw _ (List.mem_of_getElem? (i := 22) rfl)
theorem wd_23 {Z : State} {a0 : Array Value} (hw : ∀ d ∈ tables_1, d.before a0 Z = true) : (Jvm.Cond.fieldLink "com/example/ratatoskr/ratatoskr/gmtp/MarkerOfPinLaw" (25 : Nat) "com/example/ratatoskr/ratatoskr/gmtp/Marker" "ENDS_WITH_BREAK" "Lcom/example/ratatoskr/ratatoskr/gmtp/Marker;").before a0 Z = true := hw _ (List.mem_of_getElem? (i := 23) rfl)
theorem wd_24 {Z : State} {a0 : Array Value} (hw : ∀ d ∈ tables_1, d.before a0 Z = true) : (Jvm.Cond.fieldLink "com/example/ratatoskr/ratatoskr/gmtp/MarkerOfPinLaw" (31 : Nat) "com/example/ratatoskr/ratatoskr/gmtp/Marker" "LAST_WITH_BREAK" "Lcom/example/ratatoskr/ratatoskr/gmtp/Marker;").before a0 Z = true := hw _ (List.mem_of_getElem? (i := 24) rfl)
theorem pd_0 : parseMethodDescriptor "(C)Lcom/example/ratatoskr/ratatoskr/gmtp/Marker;" = some ⟨[.char], some (.object "com/example/ratatoskr/ratatoskr/gmtp/Marker")⟩ := by decide +kernel
theorem dc_method_3_code_0 : decode method_3_code 0 = .ok (.iload_n 0, 1) := by decide +kernel
theorem dc_method_3_code_1 : decode method_3_code 1 = .ok (.bipush 43, 2) := by decide +kernel
theorem dc_method_3_code_3 : decode method_3_code 3 = .ok (.if_icmp .ne 7, 3) := by decide +kernel
theorem dc_method_3_code_6 : decode method_3_code 6 = .ok (.getstatic 18, 3) := by decide +kernel
theorem dc_method_3_code_9 : decode method_3_code 9 = .ok (.areturn, 1) := by decide +kernel
theorem dc_method_3_code_10 : decode method_3_code 10 = .ok (.iload_n 0, 1) := by decide +kernel
theorem dc_method_3_code_11 : decode method_3_code 11 = .ok (.bipush 45, 2) := by decide +kernel
theorem dc_method_3_code_13 : decode method_3_code 13 = .ok (.if_icmp .ne 7, 3) := by decide +kernel
theorem dc_method_3_code_16 : decode method_3_code 16 = .ok (.getstatic 22, 3) := by decide +kernel
theorem dc_method_3_code_19 : decode method_3_code 19 = .ok (.areturn, 1) := by decide +kernel
theorem dc_method_3_code_20 : decode method_3_code 20 = .ok (.iload_n 0, 1) := by decide +kernel
theorem dc_method_3_code_21 : decode method_3_code 21 = .ok (.bipush 59, 2) := by decide +kernel
theorem dc_method_3_code_23 : decode method_3_code 23 = .ok (.if_icmp .ne 7, 3) := by decide +kernel
theorem dc_method_3_code_26 : decode method_3_code 26 = .ok (.getstatic 25, 3) := by decide +kernel
theorem dc_method_3_code_29 : decode method_3_code 29 = .ok (.areturn, 1) := by decide +kernel
theorem dc_method_3_code_30 : decode method_3_code 30 = .ok (.iload_n 0, 1) := by decide +kernel
theorem dc_method_3_code_31 : decode method_3_code 31 = .ok (.bipush 44, 2) := by decide +kernel
theorem dc_method_3_code_33 : decode method_3_code 33 = .ok (.if_icmp .ne 7, 3) := by decide +kernel
theorem dc_method_3_code_36 : decode method_3_code 36 = .ok (.getstatic 28, 3) := by decide +kernel
theorem dc_method_3_code_39 : decode method_3_code 39 = .ok (.areturn, 1) := by decide +kernel
theorem dc_method_3_code_40 : decode method_3_code 40 = .ok (.iload_n 0, 1) := by decide +kernel
theorem dc_method_3_code_41 : decode method_3_code 41 = .ok (.bipush 46, 2) := by decide +kernel
theorem dc_method_3_code_43 : decode method_3_code 43 = .ok (.if_icmp .ne 7, 3) := by decide +kernel
theorem dc_method_3_code_46 : decode method_3_code 46 = .ok (.getstatic 31, 3) := by decide +kernel
theorem dc_method_3_code_49 : decode method_3_code 49 = .ok (.areturn, 1) := by decide +kernel
theorem dc_method_3_code_50 : decode method_3_code 50 = .ok (.iload_n 0, 1) := by decide +kernel
theorem dc_method_3_code_51 : decode method_3_code 51 = .ok (.bipush 32, 2) := by decide +kernel
theorem dc_method_3_code_53 : decode method_3_code 53 = .ok (.if_icmp .ne 7, 3) := by decide +kernel
theorem dc_method_3_code_56 : decode method_3_code 56 = .ok (.getstatic 34, 3) := by decide +kernel
theorem dc_method_3_code_59 : decode method_3_code 59 = .ok (.areturn, 1) := by decide +kernel
theorem dc_method_3_code_60 : decode method_3_code 60 = .ok (.aconst_null, 1) := by decide +kernel
theorem dc_method_3_code_61 : decode method_3_code 61 = .ok (.areturn, 1) := by decide +kernel
theorem dc_prog_16_method_4_code_0 : decode prog_16_method_4_code 0 = .ok (.getstatic 55, 3) := by decide +kernel
theorem dc_prog_16_method_4_code_3 : decode prog_16_method_4_code 3 = .ok (.astore_n 1, 1) := by decide +kernel
theorem dc_prog_16_method_4_code_4 : decode prog_16_method_4_code 4 = .ok (.aload_n 1, 1) := by decide +kernel
theorem dc_prog_16_method_4_code_5 : decode prog_16_method_4_code 5 = .ok (.arraylength, 1) := by decide +kernel
theorem dc_prog_16_method_4_code_6 : decode prog_16_method_4_code 6 = .ok (.istore_n 2, 1) := by decide +kernel
theorem dc_prog_16_method_4_code_7 : decode prog_16_method_4_code 7 = .ok (.iconst 0, 1) := by decide +kernel
theorem dc_prog_16_method_4_code_8 : decode prog_16_method_4_code 8 = .ok (.istore_n 3, 1) := by decide +kernel
theorem dc_prog_16_method_4_code_9 : decode prog_16_method_4_code 9 = .ok (.iload_n 3, 1) := by decide +kernel
theorem dc_prog_16_method_4_code_10 : decode prog_16_method_4_code 10 = .ok (.iload_n 2, 1) := by decide +kernel
theorem dc_prog_16_method_4_code_11 : decode prog_16_method_4_code 11 = .ok (.if_icmp .ge 26, 3) := by decide +kernel
theorem dc_prog_16_method_4_code_14 : decode prog_16_method_4_code 14 = .ok (.aload_n 1, 1) := by decide +kernel
theorem dc_prog_16_method_4_code_15 : decode prog_16_method_4_code 15 = .ok (.iload_n 3, 1) := by decide +kernel
theorem dc_prog_16_method_4_code_16 : decode prog_16_method_4_code 16 = .ok (.aaload, 1) := by decide +kernel
theorem dc_prog_16_method_4_code_17 : decode prog_16_method_4_code 17 = .ok (.astore 4, 2) := by decide +kernel
theorem dc_prog_16_method_4_code_19 : decode prog_16_method_4_code 19 = .ok (.aload 4, 2) := by decide +kernel
theorem dc_prog_16_method_4_code_21 : decode prog_16_method_4_code 21 = .ok (.getfield 41, 3) := by decide +kernel
theorem dc_prog_16_method_4_code_24 : decode prog_16_method_4_code 24 = .ok (.iload_n 0, 1) := by decide +kernel
theorem dc_prog_16_method_4_code_25 : decode prog_16_method_4_code 25 = .ok (.if_icmp .ne 6, 3) := by decide +kernel
theorem dc_prog_16_method_4_code_28 : decode prog_16_method_4_code 28 = .ok (.aload 4, 2) := by decide +kernel
theorem dc_prog_16_method_4_code_30 : decode prog_16_method_4_code 30 = .ok (.areturn, 1) := by decide +kernel
theorem dc_prog_16_method_4_code_31 : decode prog_16_method_4_code 31 = .ok (.iinc 3 1, 3) := by decide +kernel
theorem dc_prog_16_method_4_code_34 : decode prog_16_method_4_code 34 = .ok (.goto (-25), 3) := by decide +kernel
theorem dc_prog_16_method_4_code_37 : decode prog_16_method_4_code 37 = .ok (.aconst_null, 1) := by decide +kernel
theorem dc_prog_16_method_4_code_38 : decode prog_16_method_4_code 38 = .ok (.areturn, 1) := by decide +kernel
theorem own_eqI {args : Array Value} {first s : State} {o : Option Outcome} {idx : List Nat} {t : Term} {k : Int32} (h : (Jvm.Cond.eq t (.int k)).value args first o s idx = some true) : t.eval args first o idx s = some (.int k) := by
  simp only [Cond.value, Term.eval] at h
  cases ht : t.eval args first o idx s with
  | none => simp [ht] at h
  | some x => cases x <;> simp [ht] at h ⊢; exact h
def En_CONTINUES_AFTER_BREAK (Z : State) (h : Heap) (a : Addr) : Prop := Sta Z h "com/example/ratatoskr/ratatoskr/gmtp/Marker" "CONTINUES_AFTER_BREAK" "Lcom/example/ratatoskr/ratatoskr/gmtp/Marker;" (.ref a) ∧ Exa Z h a "com/example/ratatoskr/ratatoskr/gmtp/Marker" ∧ Fld Z h a "com/example/ratatoskr/ratatoskr/gmtp/Marker" "symbol" "C" (.int (43 : Int32))
theorem En_CONTINUES_AFTER_BREAK.ext {Z : State} {h h' : Heap} {a : Addr} (F : En_CONTINUES_AFTER_BREAK Z h a) (E : Ext h h') : En_CONTINUES_AFTER_BREAK Z h' a := ⟨F.1.ext E, F.2.1.ext E, F.2.2.ext E⟩
def En_CONTINUES (Z : State) (h : Heap) (a : Addr) : Prop := Sta Z h "com/example/ratatoskr/ratatoskr/gmtp/Marker" "CONTINUES" "Lcom/example/ratatoskr/ratatoskr/gmtp/Marker;" (.ref a) ∧ Exa Z h a "com/example/ratatoskr/ratatoskr/gmtp/Marker" ∧ Fld Z h a "com/example/ratatoskr/ratatoskr/gmtp/Marker" "symbol" "C" (.int (45 : Int32))
theorem En_CONTINUES.ext {Z : State} {h h' : Heap} {a : Addr} (F : En_CONTINUES Z h a) (E : Ext h h') : En_CONTINUES Z h' a := ⟨F.1.ext E, F.2.1.ext E, F.2.2.ext E⟩
def En_ENDS_WITH_BREAK (Z : State) (h : Heap) (a : Addr) : Prop := Sta Z h "com/example/ratatoskr/ratatoskr/gmtp/Marker" "ENDS_WITH_BREAK" "Lcom/example/ratatoskr/ratatoskr/gmtp/Marker;" (.ref a) ∧ Exa Z h a "com/example/ratatoskr/ratatoskr/gmtp/Marker" ∧ Fld Z h a "com/example/ratatoskr/ratatoskr/gmtp/Marker" "symbol" "C" (.int (59 : Int32))
theorem En_ENDS_WITH_BREAK.ext {Z : State} {h h' : Heap} {a : Addr} (F : En_ENDS_WITH_BREAK Z h a) (E : Ext h h') : En_ENDS_WITH_BREAK Z h' a := ⟨F.1.ext E, F.2.1.ext E, F.2.2.ext E⟩
def En_ENDS (Z : State) (h : Heap) (a : Addr) : Prop := Sta Z h "com/example/ratatoskr/ratatoskr/gmtp/Marker" "ENDS" "Lcom/example/ratatoskr/ratatoskr/gmtp/Marker;" (.ref a) ∧ Exa Z h a "com/example/ratatoskr/ratatoskr/gmtp/Marker" ∧ Fld Z h a "com/example/ratatoskr/ratatoskr/gmtp/Marker" "symbol" "C" (.int (44 : Int32))
theorem En_ENDS.ext {Z : State} {h h' : Heap} {a : Addr} (F : En_ENDS Z h a) (E : Ext h h') : En_ENDS Z h' a := ⟨F.1.ext E, F.2.1.ext E, F.2.2.ext E⟩
def En_LAST_WITH_BREAK (Z : State) (h : Heap) (a : Addr) : Prop := Sta Z h "com/example/ratatoskr/ratatoskr/gmtp/Marker" "LAST_WITH_BREAK" "Lcom/example/ratatoskr/ratatoskr/gmtp/Marker;" (.ref a) ∧ Exa Z h a "com/example/ratatoskr/ratatoskr/gmtp/Marker" ∧ Fld Z h a "com/example/ratatoskr/ratatoskr/gmtp/Marker" "symbol" "C" (.int (46 : Int32))
theorem En_LAST_WITH_BREAK.ext {Z : State} {h h' : Heap} {a : Addr} (F : En_LAST_WITH_BREAK Z h a) (E : Ext h h') : En_LAST_WITH_BREAK Z h' a := ⟨F.1.ext E, F.2.1.ext E, F.2.2.ext E⟩
def En_LAST (Z : State) (h : Heap) (a : Addr) : Prop := Sta Z h "com/example/ratatoskr/ratatoskr/gmtp/Marker" "LAST" "Lcom/example/ratatoskr/ratatoskr/gmtp/Marker;" (.ref a) ∧ Exa Z h a "com/example/ratatoskr/ratatoskr/gmtp/Marker" ∧ Fld Z h a "com/example/ratatoskr/ratatoskr/gmtp/Marker" "symbol" "C" (.int (32 : Int32))
theorem En_LAST.ext {Z : State} {h h' : Heap} {a : Addr} (F : En_LAST Z h a) (E : Ext h h') : En_LAST Z h' a := ⟨F.1.ext E, F.2.1.ext E, F.2.2.ext E⟩
theorem own_eqR {args : Array Value} {first s : State} {o : Option Outcome} {idx : List Nat} {t u : Term} {a : Addr} (h : (Jvm.Cond.eq t u).value args first o s idx = some true) (hu : u.eval args first o idx s = some (.ref a)) : t.eval args first o idx s = some (.ref a) := by
  simp only [Cond.value, hu] at h
  cases ht : t.eval args first o idx s with
  | none => simp [ht] at h
  | some x => cases x <;> simp [ht] at h ⊢; exact h
theorem own_len {args : Array Value} {s : State} {t : Term} {n : Int32} {a : Addr} {cl : Cell} (N : Nat) (h : (Term.length t).eval args s none [] s = some (.int n)) (ht : t.eval args s none [] s = some (.ref a)) (hc : s.heap[a]? = some cl) (hn : n.toInt = N) : cl.slots.size = N := by
  simp only [Term.eval, ht, Option.bind_eq_bind, Option.bind_some] at h
  obtain ⟨cell, hcell, h⟩ := Option.bind_eq_some_iff.mp h
  cases hc.symm.trans (State.arrayAt?_spec hcell).1
  by_cases hs : cl.slots.size < 2147483648
  · rw [if_pos hs] at h
    have q : cl.slots.size.toInt32 = n := by cases h; rfl
    have z := len_toInt (n := cl.slots.size) hs
    rw [q, hn] at z
    omega
  · rw [if_neg hs] at h; cases h
theorem own_elem {args : Array Value} {s : State} {t : Term} {j : Int32} {v : Value} {a : Addr} {cl : Cell} (i : Nat) (h : (Term.elem t (.int j)).eval args s none [] s = some v) (ht : t.eval args s none [] s = some (.ref a)) (hc : s.heap[a]? = some cl) (hi : j.toNatClampNeg = i) : cl.slots[i]? = some v := by
  subst hi
  exact (elem_in h ht (Term.int_eval j) hc).2
theorem own_list6 {L : Array Value} {v0 v1 v2 v3 v4 v5 : Value} (hl : L.size = 6) (h0 : L[0]? = some v0) (h1 : L[1]? = some v1) (h2 : L[2]? = some v2) (h3 : L[3]? = some v3) (h4 : L[4]? = some v4) (h5 : L[5]? = some v5) : L.toList = [v0, v1, v2, v3, v4, v5] := by
  obtain ⟨L⟩ := L
  match L, hl with
  | [x0, x1, x2, x3, x4, x5], _ =>
    simp at h0 h1 h2 h3 h4 h5
    simp [h0, h1, h2, h3, h4, h5]
theorem acmp_eqT {v w : Value} (h : v = w) : XT.acmp .eq v w = true := decide_eq_true h
theorem acmp_eqF {v w : Value} (h : ¬ v = w) : XT.acmp .eq v w = false := decide_eq_false h
theorem acmp_neT {v w : Value} (h : ¬ v = w) : XT.acmp .ne v w = true := decide_eq_true h
theorem acmp_neF {v w : Value} (h : v = w) : XT.acmp .ne v w = false := decide_eq_false (fun q => q h)
theorem own_ne {i k : Int32} {d : Int} (h : ¬ i = k) (hk : k.toInt = d) : i.toInt ≠ d := fun q => h (Int32.toInt_inj.mp (q.trans hk.symm))
theorem own_mask (x : Int32) : 0 ≤ (x &&& 2147483647).toInt := (c_and x 2147483647 (by decide)).1
theorem own_rem (x k : Int32) (d : Int) (hk : k.toInt = d) (hd : 0 < d) : 0 ≤ ((x &&& 2147483647) % k).toInt ∧ ((x &&& 2147483647) % k).toInt < d := by
  have h := (c_irem (x &&& 2147483647) k d hk).1 (own_mask x)
  rw [h]
  exact ⟨Int.emod_nonneg _ (by omega), Int.emod_lt_of_pos _ hd⟩
theorem own_cases6 {i : Int32} (h : 0 ≤ i.toInt ∧ i.toInt < 6) : i = 0 ∨ i = 1 ∨ i = 2 ∨ i = 3 ∨ i = 4 ∨ i = 5 := by
  simp only [← Int32.toInt_inj, Int32.reduceToInt]
  omega
def sel (c : Int32) (a0 a1 a2 a3 a4 a5 : Addr) : Value := if c = 43 then .ref a0 else if c = 45 then .ref a1 else if c = 59 then .ref a2 else if c = 44 then .ref a3 else if c = 46 then .ref a4 else if c = 32 then .ref a5 else .null
theorem sel_cat (c : Int32) (a0 a1 a2 a3 a4 a5 : Addr) : (sel c a0 a1 a2 a3 a4 a5).category = 1 := by
  unfold sel
  repeat (first | rfl | split)
theorem sel_ref (c : Int32) (a0 a1 a2 a3 a4 a5 : Addr) : (sel c a0 a1 a2 a3 a4 a5).isRef = true := by
  unfold sel
  repeat (first | rfl | split)
theorem own_ush (x : Int32) : 0 ≤ (((x).toUInt32 >>> ((1 : Int32) &&& 31).toUInt32).toInt32 % (6 : Int32)).toInt ∧ (((x).toUInt32 >>> ((1 : Int32) &&& 31).toUInt32).toInt32 % (6 : Int32)).toInt < 6 := by
  have h1 := c_iushr x 1 1 (by decide) (by decide)
  have h2 := (c_irem ((x.toUInt32 >>> ((1 : Int32) &&& 31).toUInt32).toInt32) 6 6 (by decide)).1 (by rw [h1]; omega)
  rw [h2]
  exact ⟨Int.emod_nonneg _ (by decide), Int.emod_lt_of_pos _ (by decide)⟩
set_option maxRecDepth 65536 in
set_option maxHeartbeats 4000000 in
theorem of_met (l : Launch) (Z : State) (a0 : Array Value) (hw : ∀ d ∈ tables_1, d.before a0 Z = true) (n0 : Nat) (h : Heap) (O : Old Z n0 h) {a_CONTINUES_AFTER_BREAK : Addr} (EnCONTINUES_AFTER_BREAK : En_CONTINUES_AFTER_BREAK Z h a_CONTINUES_AFTER_BREAK) {a_CONTINUES : Addr} (EnCONTINUES : En_CONTINUES Z h a_CONTINUES) {a_ENDS_WITH_BREAK : Addr} (EnENDS_WITH_BREAK : En_ENDS_WITH_BREAK Z h a_ENDS_WITH_BREAK) {a_ENDS : Addr} (EnENDS : En_ENDS Z h a_ENDS) {a_LAST_WITH_BREAK : Addr} (EnLAST_WITH_BREAK : En_LAST_WITH_BREAK Z h a_LAST_WITH_BREAK) {a_LAST : Addr} (EnLAST : En_LAST Z h a_LAST) {a_ALL : Addr} {k_ALL : ClassId} (S_ALL : Sta Z h "com/example/ratatoskr/ratatoskr/gmtp/Marker" "ALL" "[Lcom/example/ratatoskr/ratatoskr/gmtp/Marker;" (.ref a_ALL)) (A_ALL : Ar Z h a_ALL (.object "com/example/ratatoskr/ratatoskr/gmtp/Marker") k_ALL [(.ref a_CONTINUES_AFTER_BREAK), (.ref a_CONTINUES), (.ref a_ENDS_WITH_BREAK), (.ref a_ENDS), (.ref a_LAST_WITH_BREAK), (.ref a_LAST)]) (ch : Int32) :
    Met l Z n0 (⟨"com/example/ratatoskr/ratatoskr/gmtp/Marker", "of", "(C)Lcom/example/ratatoskr/ratatoskr/gmtp/Marker;"⟩ : MethodName) prog_16_method_4_code 5 (some (.object "com/example/ratatoskr/ratatoskr/gmtp/Marker")) [] ({ frames := 0, cells := 0, slots := 0, locals := 0 } : Room) #[(.int ch)] h (fun v h' => v = some (sel ch a_CONTINUES_AFTER_BREAK a_CONTINUES a_ENDS_WITH_BREAK a_ENDS a_LAST_WITH_BREAK a_LAST) ∧ h = h') := by
  refine met_of (Ls := #[(.val (.int ch)), .unset, .unset, .unset, .unset]) (by decide +kernel) (fun m => by first | rfl | (simp [entryFrame, mkF, argsToLocals, Value.category]; done)) O ?_
  intro p e s m below meth cd C
  refine go_getS C (pc' := 3) (host := "") (Or.inl (wd_5 hw)) Via.refl S_ALL dc_prog_16_method_4_code_0 rfl ?_
  refine go_astoreN C (pc' := 4) dc_prog_16_method_4_code_3 rfl (Ls' := #[(.val (.int ch)), (.val (.ref a_ALL)), .unset, .unset, .unset]) rfl rfl ?_
  refine go_aloadN C (pc' := 5) dc_prog_16_method_4_code_4 rfl rfl rfl ?_
  refine go_alen C (pc' := 6) A_ALL (z := (6 : Int32)) rfl dc_prog_16_method_4_code_5 rfl ?_
  refine go_istoreN C (pc' := 7) dc_prog_16_method_4_code_6 (Ls' := #[(.val (.int ch)), (.val (.ref a_ALL)), (.val (.int (6 : Int32))), .unset, .unset]) rfl rfl ?_
  refine go_iconst C (pc' := 8) dc_prog_16_method_4_code_7 (z := (0 : Int32)) (by decide) rfl ?_
  refine go_istoreN C (pc' := 9) dc_prog_16_method_4_code_8 (Ls' := #[(.val (.int ch)), (.val (.ref a_ALL)), (.val (.int (6 : Int32))), (.val (.int (0 : Int32))), .unset]) rfl rfl ?_
  refine go_iloadN C (pc' := 10) dc_prog_16_method_4_code_9 rfl rfl ?_
  refine go_iloadN C (pc' := 11) dc_prog_16_method_4_code_10 rfl rfl ?_
  refine go_icmpNo C (pc' := 14) dc_prog_16_method_4_code_11 (by decide) rfl ?_
  refine go_aloadN C (pc' := 15) dc_prog_16_method_4_code_14 rfl rfl rfl ?_
  refine go_iloadN C (pc' := 16) dc_prog_16_method_4_code_15 rfl rfl ?_
  refine go_raget C (pc' := 17) A_ALL rfl (by decide) (i := 0) (by decide) rfl dc_prog_16_method_4_code_16 rfl ?_
  refine go_astore C (pc' := 19) dc_prog_16_method_4_code_17 rfl (Ls' := #[(.val (.int ch)), (.val (.ref a_ALL)), (.val (.int (6 : Int32))), (.val (.int (0 : Int32))), (.val (.ref a_CONTINUES_AFTER_BREAK))]) rfl rfl ?_
  refine go_aload C (pc' := 21) dc_prog_16_method_4_code_19 rfl rfl rfl ?_
  refine go_getF C (pc' := 24) (host := "") (Or.inl (wd_8 hw)) Via.refl EnCONTINUES_AFTER_BREAK.2.2 dc_prog_16_method_4_code_21 rfl ?_
  refine go_iloadN C (pc' := 25) dc_prog_16_method_4_code_24 rfl rfl ?_
  by_cases hc1 : (43 : Int32) = ch
  · refine go_icmpNo C (pc' := 28) dc_prog_16_method_4_code_25 (teq hc1).2 rfl ?_
    refine go_aload C (pc' := 30) dc_prog_16_method_4_code_28 rfl rfl rfl ?_
    exact go_retA C rfl rfl dc_prog_16_method_4_code_30 (by decide) (by decide) ⟨by simp only [sel, if_pos hc1.symm], rfl⟩
  · refine go_icmpYes C (pc' := 31) dc_prog_16_method_4_code_25 (feq hc1).2 (by decide) (by decide) ?_
    refine go_iinc C (pc' := 34) dc_prog_16_method_4_code_31 rfl (Ls' := #[(.val (.int ch)), (.val (.ref a_ALL)), (.val (.int (6 : Int32))), (.val (.int ((0 : Int32) + (1 : Int32)))), (.val (.ref a_CONTINUES_AFTER_BREAK))]) rfl rfl ?_
    refine go_ls (Ls' := #[(.val (.int ch)), (.val (.ref a_ALL)), (.val (.int (6 : Int32))), (.val (.int (1 : Int32))), (.val (.ref a_CONTINUES_AFTER_BREAK))]) (by rw [show ((0 : Int32) + (1 : Int32)) = (1 : Int32) from by decide]) ?_
    refine go_goto C (pc' := 9) dc_prog_16_method_4_code_34 (by decide) (by decide) ?_
    refine go_iloadN C (pc' := 10) dc_prog_16_method_4_code_9 rfl rfl ?_
    refine go_iloadN C (pc' := 11) dc_prog_16_method_4_code_10 rfl rfl ?_
    refine go_icmpNo C (pc' := 14) dc_prog_16_method_4_code_11 (by decide) rfl ?_
    refine go_aloadN C (pc' := 15) dc_prog_16_method_4_code_14 rfl rfl rfl ?_
    refine go_iloadN C (pc' := 16) dc_prog_16_method_4_code_15 rfl rfl ?_
    refine go_raget C (pc' := 17) A_ALL rfl (by decide) (i := 1) (by decide) rfl dc_prog_16_method_4_code_16 rfl ?_
    refine go_astore C (pc' := 19) dc_prog_16_method_4_code_17 rfl (Ls' := #[(.val (.int ch)), (.val (.ref a_ALL)), (.val (.int (6 : Int32))), (.val (.int (1 : Int32))), (.val (.ref a_CONTINUES))]) rfl rfl ?_
    refine go_aload C (pc' := 21) dc_prog_16_method_4_code_19 rfl rfl rfl ?_
    refine go_getF C (pc' := 24) (host := "") (Or.inl (wd_8 hw)) Via.refl EnCONTINUES.2.2 dc_prog_16_method_4_code_21 rfl ?_
    refine go_iloadN C (pc' := 25) dc_prog_16_method_4_code_24 rfl rfl ?_
    by_cases hc2 : (45 : Int32) = ch
    · refine go_icmpNo C (pc' := 28) dc_prog_16_method_4_code_25 (teq hc2).2 rfl ?_
      refine go_aload C (pc' := 30) dc_prog_16_method_4_code_28 rfl rfl rfl ?_
      exact go_retA C rfl rfl dc_prog_16_method_4_code_30 (by decide) (by decide) ⟨by simp only [sel, if_neg (Ne.symm hc1), if_pos hc2.symm], rfl⟩
    · refine go_icmpYes C (pc' := 31) dc_prog_16_method_4_code_25 (feq hc2).2 (by decide) (by decide) ?_
      refine go_iinc C (pc' := 34) dc_prog_16_method_4_code_31 rfl (Ls' := #[(.val (.int ch)), (.val (.ref a_ALL)), (.val (.int (6 : Int32))), (.val (.int ((1 : Int32) + (1 : Int32)))), (.val (.ref a_CONTINUES))]) rfl rfl ?_
      refine go_ls (Ls' := #[(.val (.int ch)), (.val (.ref a_ALL)), (.val (.int (6 : Int32))), (.val (.int (2 : Int32))), (.val (.ref a_CONTINUES))]) (by rw [show ((1 : Int32) + (1 : Int32)) = (2 : Int32) from by decide]) ?_
      refine go_goto C (pc' := 9) dc_prog_16_method_4_code_34 (by decide) (by decide) ?_
      refine go_iloadN C (pc' := 10) dc_prog_16_method_4_code_9 rfl rfl ?_
      refine go_iloadN C (pc' := 11) dc_prog_16_method_4_code_10 rfl rfl ?_
      refine go_icmpNo C (pc' := 14) dc_prog_16_method_4_code_11 (by decide) rfl ?_
      refine go_aloadN C (pc' := 15) dc_prog_16_method_4_code_14 rfl rfl rfl ?_
      refine go_iloadN C (pc' := 16) dc_prog_16_method_4_code_15 rfl rfl ?_
      refine go_raget C (pc' := 17) A_ALL rfl (by decide) (i := 2) (by decide) rfl dc_prog_16_method_4_code_16 rfl ?_
      refine go_astore C (pc' := 19) dc_prog_16_method_4_code_17 rfl (Ls' := #[(.val (.int ch)), (.val (.ref a_ALL)), (.val (.int (6 : Int32))), (.val (.int (2 : Int32))), (.val (.ref a_ENDS_WITH_BREAK))]) rfl rfl ?_
      refine go_aload C (pc' := 21) dc_prog_16_method_4_code_19 rfl rfl rfl ?_
      refine go_getF C (pc' := 24) (host := "") (Or.inl (wd_8 hw)) Via.refl EnENDS_WITH_BREAK.2.2 dc_prog_16_method_4_code_21 rfl ?_
      refine go_iloadN C (pc' := 25) dc_prog_16_method_4_code_24 rfl rfl ?_
      by_cases hc3 : (59 : Int32) = ch
      · refine go_icmpNo C (pc' := 28) dc_prog_16_method_4_code_25 (teq hc3).2 rfl ?_
        refine go_aload C (pc' := 30) dc_prog_16_method_4_code_28 rfl rfl rfl ?_
        exact go_retA C rfl rfl dc_prog_16_method_4_code_30 (by decide) (by decide) ⟨by simp only [sel, if_neg (Ne.symm hc1), if_neg (Ne.symm hc2), if_pos hc3.symm], rfl⟩
      · refine go_icmpYes C (pc' := 31) dc_prog_16_method_4_code_25 (feq hc3).2 (by decide) (by decide) ?_
        refine go_iinc C (pc' := 34) dc_prog_16_method_4_code_31 rfl (Ls' := #[(.val (.int ch)), (.val (.ref a_ALL)), (.val (.int (6 : Int32))), (.val (.int ((2 : Int32) + (1 : Int32)))), (.val (.ref a_ENDS_WITH_BREAK))]) rfl rfl ?_
        refine go_ls (Ls' := #[(.val (.int ch)), (.val (.ref a_ALL)), (.val (.int (6 : Int32))), (.val (.int (3 : Int32))), (.val (.ref a_ENDS_WITH_BREAK))]) (by rw [show ((2 : Int32) + (1 : Int32)) = (3 : Int32) from by decide]) ?_
        refine go_goto C (pc' := 9) dc_prog_16_method_4_code_34 (by decide) (by decide) ?_
        refine go_iloadN C (pc' := 10) dc_prog_16_method_4_code_9 rfl rfl ?_
        refine go_iloadN C (pc' := 11) dc_prog_16_method_4_code_10 rfl rfl ?_
        refine go_icmpNo C (pc' := 14) dc_prog_16_method_4_code_11 (by decide) rfl ?_
        refine go_aloadN C (pc' := 15) dc_prog_16_method_4_code_14 rfl rfl rfl ?_
        refine go_iloadN C (pc' := 16) dc_prog_16_method_4_code_15 rfl rfl ?_
        refine go_raget C (pc' := 17) A_ALL rfl (by decide) (i := 3) (by decide) rfl dc_prog_16_method_4_code_16 rfl ?_
        refine go_astore C (pc' := 19) dc_prog_16_method_4_code_17 rfl (Ls' := #[(.val (.int ch)), (.val (.ref a_ALL)), (.val (.int (6 : Int32))), (.val (.int (3 : Int32))), (.val (.ref a_ENDS))]) rfl rfl ?_
        refine go_aload C (pc' := 21) dc_prog_16_method_4_code_19 rfl rfl rfl ?_
        refine go_getF C (pc' := 24) (host := "") (Or.inl (wd_8 hw)) Via.refl EnENDS.2.2 dc_prog_16_method_4_code_21 rfl ?_
        refine go_iloadN C (pc' := 25) dc_prog_16_method_4_code_24 rfl rfl ?_
        by_cases hc4 : (44 : Int32) = ch
        · refine go_icmpNo C (pc' := 28) dc_prog_16_method_4_code_25 (teq hc4).2 rfl ?_
          refine go_aload C (pc' := 30) dc_prog_16_method_4_code_28 rfl rfl rfl ?_
          exact go_retA C rfl rfl dc_prog_16_method_4_code_30 (by decide) (by decide) ⟨by simp only [sel, if_neg (Ne.symm hc1), if_neg (Ne.symm hc2), if_neg (Ne.symm hc3), if_pos hc4.symm], rfl⟩
        · refine go_icmpYes C (pc' := 31) dc_prog_16_method_4_code_25 (feq hc4).2 (by decide) (by decide) ?_
          refine go_iinc C (pc' := 34) dc_prog_16_method_4_code_31 rfl (Ls' := #[(.val (.int ch)), (.val (.ref a_ALL)), (.val (.int (6 : Int32))), (.val (.int ((3 : Int32) + (1 : Int32)))), (.val (.ref a_ENDS))]) rfl rfl ?_
          refine go_ls (Ls' := #[(.val (.int ch)), (.val (.ref a_ALL)), (.val (.int (6 : Int32))), (.val (.int (4 : Int32))), (.val (.ref a_ENDS))]) (by rw [show ((3 : Int32) + (1 : Int32)) = (4 : Int32) from by decide]) ?_
          refine go_goto C (pc' := 9) dc_prog_16_method_4_code_34 (by decide) (by decide) ?_
          refine go_iloadN C (pc' := 10) dc_prog_16_method_4_code_9 rfl rfl ?_
          refine go_iloadN C (pc' := 11) dc_prog_16_method_4_code_10 rfl rfl ?_
          refine go_icmpNo C (pc' := 14) dc_prog_16_method_4_code_11 (by decide) rfl ?_
          refine go_aloadN C (pc' := 15) dc_prog_16_method_4_code_14 rfl rfl rfl ?_
          refine go_iloadN C (pc' := 16) dc_prog_16_method_4_code_15 rfl rfl ?_
          refine go_raget C (pc' := 17) A_ALL rfl (by decide) (i := 4) (by decide) rfl dc_prog_16_method_4_code_16 rfl ?_
          refine go_astore C (pc' := 19) dc_prog_16_method_4_code_17 rfl (Ls' := #[(.val (.int ch)), (.val (.ref a_ALL)), (.val (.int (6 : Int32))), (.val (.int (4 : Int32))), (.val (.ref a_LAST_WITH_BREAK))]) rfl rfl ?_
          refine go_aload C (pc' := 21) dc_prog_16_method_4_code_19 rfl rfl rfl ?_
          refine go_getF C (pc' := 24) (host := "") (Or.inl (wd_8 hw)) Via.refl EnLAST_WITH_BREAK.2.2 dc_prog_16_method_4_code_21 rfl ?_
          refine go_iloadN C (pc' := 25) dc_prog_16_method_4_code_24 rfl rfl ?_
          by_cases hc5 : (46 : Int32) = ch
          · refine go_icmpNo C (pc' := 28) dc_prog_16_method_4_code_25 (teq hc5).2 rfl ?_
            refine go_aload C (pc' := 30) dc_prog_16_method_4_code_28 rfl rfl rfl ?_
            exact go_retA C rfl rfl dc_prog_16_method_4_code_30 (by decide) (by decide) ⟨by simp only [sel, if_neg (Ne.symm hc1), if_neg (Ne.symm hc2), if_neg (Ne.symm hc3), if_neg (Ne.symm hc4), if_pos hc5.symm], rfl⟩
          · refine go_icmpYes C (pc' := 31) dc_prog_16_method_4_code_25 (feq hc5).2 (by decide) (by decide) ?_
            refine go_iinc C (pc' := 34) dc_prog_16_method_4_code_31 rfl (Ls' := #[(.val (.int ch)), (.val (.ref a_ALL)), (.val (.int (6 : Int32))), (.val (.int ((4 : Int32) + (1 : Int32)))), (.val (.ref a_LAST_WITH_BREAK))]) rfl rfl ?_
            refine go_ls (Ls' := #[(.val (.int ch)), (.val (.ref a_ALL)), (.val (.int (6 : Int32))), (.val (.int (5 : Int32))), (.val (.ref a_LAST_WITH_BREAK))]) (by rw [show ((4 : Int32) + (1 : Int32)) = (5 : Int32) from by decide]) ?_
            refine go_goto C (pc' := 9) dc_prog_16_method_4_code_34 (by decide) (by decide) ?_
            refine go_iloadN C (pc' := 10) dc_prog_16_method_4_code_9 rfl rfl ?_
            refine go_iloadN C (pc' := 11) dc_prog_16_method_4_code_10 rfl rfl ?_
            refine go_icmpNo C (pc' := 14) dc_prog_16_method_4_code_11 (by decide) rfl ?_
            refine go_aloadN C (pc' := 15) dc_prog_16_method_4_code_14 rfl rfl rfl ?_
            refine go_iloadN C (pc' := 16) dc_prog_16_method_4_code_15 rfl rfl ?_
            refine go_raget C (pc' := 17) A_ALL rfl (by decide) (i := 5) (by decide) rfl dc_prog_16_method_4_code_16 rfl ?_
            refine go_astore C (pc' := 19) dc_prog_16_method_4_code_17 rfl (Ls' := #[(.val (.int ch)), (.val (.ref a_ALL)), (.val (.int (6 : Int32))), (.val (.int (5 : Int32))), (.val (.ref a_LAST))]) rfl rfl ?_
            refine go_aload C (pc' := 21) dc_prog_16_method_4_code_19 rfl rfl rfl ?_
            refine go_getF C (pc' := 24) (host := "") (Or.inl (wd_8 hw)) Via.refl EnLAST.2.2 dc_prog_16_method_4_code_21 rfl ?_
            refine go_iloadN C (pc' := 25) dc_prog_16_method_4_code_24 rfl rfl ?_
            by_cases hc6 : (32 : Int32) = ch
            · refine go_icmpNo C (pc' := 28) dc_prog_16_method_4_code_25 (teq hc6).2 rfl ?_
              refine go_aload C (pc' := 30) dc_prog_16_method_4_code_28 rfl rfl rfl ?_
              exact go_retA C rfl rfl dc_prog_16_method_4_code_30 (by decide) (by decide) ⟨by simp only [sel, if_neg (Ne.symm hc1), if_neg (Ne.symm hc2), if_neg (Ne.symm hc3), if_neg (Ne.symm hc4), if_neg (Ne.symm hc5), if_pos hc6.symm], rfl⟩
            · refine go_icmpYes C (pc' := 31) dc_prog_16_method_4_code_25 (feq hc6).2 (by decide) (by decide) ?_
              refine go_iinc C (pc' := 34) dc_prog_16_method_4_code_31 rfl (Ls' := #[(.val (.int ch)), (.val (.ref a_ALL)), (.val (.int (6 : Int32))), (.val (.int ((5 : Int32) + (1 : Int32)))), (.val (.ref a_LAST))]) rfl rfl ?_
              refine go_ls (Ls' := #[(.val (.int ch)), (.val (.ref a_ALL)), (.val (.int (6 : Int32))), (.val (.int (6 : Int32))), (.val (.ref a_LAST))]) (by rw [show ((5 : Int32) + (1 : Int32)) = (6 : Int32) from by decide]) ?_
              refine go_goto C (pc' := 9) dc_prog_16_method_4_code_34 (by decide) (by decide) ?_
              refine go_iloadN C (pc' := 10) dc_prog_16_method_4_code_9 rfl rfl ?_
              refine go_iloadN C (pc' := 11) dc_prog_16_method_4_code_10 rfl rfl ?_
              refine go_icmpYes C (pc' := 37) dc_prog_16_method_4_code_11 (by decide) (by decide) (by decide) ?_
              refine go_aconstNull C (pc' := 38) dc_prog_16_method_4_code_37 rfl ?_
              exact go_retA C rfl rfl dc_prog_16_method_4_code_38 (by decide) (by decide) ⟨by simp only [sel, if_neg (Ne.symm hc1), if_neg (Ne.symm hc2), if_neg (Ne.symm hc3), if_neg (Ne.symm hc4), if_neg (Ne.symm hc5), if_neg (Ne.symm hc6)], rfl⟩
set_option maxRecDepth 65536 in
set_option maxHeartbeats 4000000 in
theorem exp_met (l : Launch) (Z : State) (a0 : Array Value) (hw : ∀ d ∈ tables_1, d.before a0 Z = true) (n0 : Nat) (h : Heap) (O : Old Z n0 h) {a_CONTINUES_AFTER_BREAK : Addr} (EnCONTINUES_AFTER_BREAK : En_CONTINUES_AFTER_BREAK Z h a_CONTINUES_AFTER_BREAK) {a_CONTINUES : Addr} (EnCONTINUES : En_CONTINUES Z h a_CONTINUES) {a_ENDS_WITH_BREAK : Addr} (EnENDS_WITH_BREAK : En_ENDS_WITH_BREAK Z h a_ENDS_WITH_BREAK) {a_ENDS : Addr} (EnENDS : En_ENDS Z h a_ENDS) {a_LAST_WITH_BREAK : Addr} (EnLAST_WITH_BREAK : En_LAST_WITH_BREAK Z h a_LAST_WITH_BREAK) {a_LAST : Addr} (EnLAST : En_LAST Z h a_LAST) (ch : Int32) :
    Met l Z n0 (⟨"com/example/ratatoskr/ratatoskr/gmtp/MarkerOfPinLaw", "expected", "(C)Lcom/example/ratatoskr/ratatoskr/gmtp/Marker;"⟩ : MethodName) method_3_code 1 (some (.object "com/example/ratatoskr/ratatoskr/gmtp/Marker")) [] ({ frames := 0, cells := 0, slots := 0, locals := 0 } : Room) #[(.int ch)] h (fun v h' => v = some (sel ch a_CONTINUES_AFTER_BREAK a_CONTINUES a_ENDS_WITH_BREAK a_ENDS a_LAST_WITH_BREAK a_LAST) ∧ h = h') := by
  refine met_of (Ls := #[(.val (.int ch))]) (by decide +kernel) (fun m => by first | rfl | (simp [entryFrame, mkF, argsToLocals, Value.category]; done)) O ?_
  intro p e s m below meth cd C
  refine go_iloadN C (pc' := 1) dc_method_3_code_0 rfl rfl ?_
  refine go_bipush C (pc' := 3) dc_method_3_code_1 (z := (43 : Int32)) (by decide) rfl ?_
  by_cases hc1 : ch = (43 : Int32)
  · refine go_icmpNo C (pc' := 6) dc_method_3_code_3 (teq hc1).2 rfl ?_
    refine go_getS C (pc' := 9) (host := "") (Or.inl (wd_16 hw)) Via.refl EnCONTINUES_AFTER_BREAK.1 dc_method_3_code_6 rfl ?_
    exact go_retA C rfl rfl dc_method_3_code_9 (by decide) (by decide) ⟨by simp only [sel, if_pos hc1], rfl⟩
  · refine go_icmpYes C (pc' := 10) dc_method_3_code_3 (feq hc1).2 (by decide) (by decide) ?_
    refine go_iloadN C (pc' := 11) dc_method_3_code_10 rfl rfl ?_
    refine go_bipush C (pc' := 13) dc_method_3_code_11 (z := (45 : Int32)) (by decide) rfl ?_
    by_cases hc2 : ch = (45 : Int32)
    · refine go_icmpNo C (pc' := 16) dc_method_3_code_13 (teq hc2).2 rfl ?_
      refine go_getS C (pc' := 19) (host := "") (Or.inl (wd_15 hw)) Via.refl EnCONTINUES.1 dc_method_3_code_16 rfl ?_
      exact go_retA C rfl rfl dc_method_3_code_19 (by decide) (by decide) ⟨by simp only [sel, if_neg hc1, if_pos hc2], rfl⟩
    · refine go_icmpYes C (pc' := 20) dc_method_3_code_13 (feq hc2).2 (by decide) (by decide) ?_
      refine go_iloadN C (pc' := 21) dc_method_3_code_20 rfl rfl ?_
      refine go_bipush C (pc' := 23) dc_method_3_code_21 (z := (59 : Int32)) (by decide) rfl ?_
      by_cases hc3 : ch = (59 : Int32)
      · refine go_icmpNo C (pc' := 26) dc_method_3_code_23 (teq hc3).2 rfl ?_
        refine go_getS C (pc' := 29) (host := "") (Or.inl (wd_23 hw)) Via.refl EnENDS_WITH_BREAK.1 dc_method_3_code_26 rfl ?_
        exact go_retA C rfl rfl dc_method_3_code_29 (by decide) (by decide) ⟨by simp only [sel, if_neg hc1, if_neg hc2, if_pos hc3], rfl⟩
      · refine go_icmpYes C (pc' := 30) dc_method_3_code_23 (feq hc3).2 (by decide) (by decide) ?_
        refine go_iloadN C (pc' := 31) dc_method_3_code_30 rfl rfl ?_
        refine go_bipush C (pc' := 33) dc_method_3_code_31 (z := (44 : Int32)) (by decide) rfl ?_
        by_cases hc4 : ch = (44 : Int32)
        · refine go_icmpNo C (pc' := 36) dc_method_3_code_33 (teq hc4).2 rfl ?_
          refine go_getS C (pc' := 39) (host := "") (Or.inl (wd_22 hw)) Via.refl EnENDS.1 dc_method_3_code_36 rfl ?_
          exact go_retA C rfl rfl dc_method_3_code_39 (by decide) (by decide) ⟨by simp only [sel, if_neg hc1, if_neg hc2, if_neg hc3, if_pos hc4], rfl⟩
        · refine go_icmpYes C (pc' := 40) dc_method_3_code_33 (feq hc4).2 (by decide) (by decide) ?_
          refine go_iloadN C (pc' := 41) dc_method_3_code_40 rfl rfl ?_
          refine go_bipush C (pc' := 43) dc_method_3_code_41 (z := (46 : Int32)) (by decide) rfl ?_
          by_cases hc5 : ch = (46 : Int32)
          · refine go_icmpNo C (pc' := 46) dc_method_3_code_43 (teq hc5).2 rfl ?_
            refine go_getS C (pc' := 49) (host := "") (Or.inl (wd_24 hw)) Via.refl EnLAST_WITH_BREAK.1 dc_method_3_code_46 rfl ?_
            exact go_retA C rfl rfl dc_method_3_code_49 (by decide) (by decide) ⟨by simp only [sel, if_neg hc1, if_neg hc2, if_neg hc3, if_neg hc4, if_pos hc5], rfl⟩
          · refine go_icmpYes C (pc' := 50) dc_method_3_code_43 (feq hc5).2 (by decide) (by decide) ?_
            refine go_iloadN C (pc' := 51) dc_method_3_code_50 rfl rfl ?_
            refine go_bipush C (pc' := 53) dc_method_3_code_51 (z := (32 : Int32)) (by decide) rfl ?_
            by_cases hc6 : ch = (32 : Int32)
            · refine go_icmpNo C (pc' := 56) dc_method_3_code_53 (teq hc6).2 rfl ?_
              refine go_getS C (pc' := 59) (host := "") (Or.inl (wd_21 hw)) Via.refl EnLAST.1 dc_method_3_code_56 rfl ?_
              exact go_retA C rfl rfl dc_method_3_code_59 (by decide) (by decide) ⟨by simp only [sel, if_neg hc1, if_neg hc2, if_neg hc3, if_neg hc4, if_neg hc5, if_pos hc6], rfl⟩
            · refine go_icmpYes C (pc' := 60) dc_method_3_code_53 (feq hc6).2 (by decide) (by decide) ?_
              refine go_aconstNull C (pc' := 61) dc_method_3_code_60 rfl ?_
              exact go_retA C rfl rfl dc_method_3_code_61 (by decide) (by decide) ⟨by simp only [sel, if_neg hc1, if_neg hc2, if_neg hc3, if_neg hc4, if_neg hc5, if_neg hc6], rfl⟩
set_option maxRecDepth 65536 in
set_option maxHeartbeats 40000000 in
theorem law_met (l : Launch) (Z : State) (a0 : Array Value) (hw : ∀ d ∈ tables_1, d.before a0 Z = true) (x0 : Int32) (x1 : Int32) {a_CONTINUES_AFTER_BREAK : Addr} (EnCONTINUES_AFTER_BREAK : En_CONTINUES_AFTER_BREAK Z Z.heap a_CONTINUES_AFTER_BREAK) {a_CONTINUES : Addr} (EnCONTINUES : En_CONTINUES Z Z.heap a_CONTINUES) {a_ENDS_WITH_BREAK : Addr} (EnENDS_WITH_BREAK : En_ENDS_WITH_BREAK Z Z.heap a_ENDS_WITH_BREAK) {a_ENDS : Addr} (EnENDS : En_ENDS Z Z.heap a_ENDS) {a_LAST_WITH_BREAK : Addr} (EnLAST_WITH_BREAK : En_LAST_WITH_BREAK Z Z.heap a_LAST_WITH_BREAK) {a_LAST : Addr} (EnLAST : En_LAST Z Z.heap a_LAST) {a_ALL : Addr} {k_ALL : ClassId} (S_ALL : Sta Z Z.heap "com/example/ratatoskr/ratatoskr/gmtp/Marker" "ALL" "[Lcom/example/ratatoskr/ratatoskr/gmtp/Marker;" (.ref a_ALL)) (A_ALL : Ar Z Z.heap a_ALL (.object "com/example/ratatoskr/ratatoskr/gmtp/Marker") k_ALL [(.ref a_CONTINUES_AFTER_BREAK), (.ref a_CONTINUES), (.ref a_ENDS_WITH_BREAK), (.ref a_ENDS), (.ref a_LAST_WITH_BREAK), (.ref a_LAST)]) :
    Met l Z Z.heap.size x code maxLocals ret tables_1 room_1 #[(.int x0), (.int x1)] Z.heap (fun v _ => v = some (.int (1 : Int32))) := by
  have O := Old.start Z
  refine met_of (Ls := #[(.val (.int x0)), (.val (.int x1)), .unset, .unset, .unset]) (by decide +kernel) (fun m => by first | rfl | (simp [entryFrame, mkF, argsToLocals, Value.category, maxLocals]; done)) O ?_
  intro p e s m below meth cd C
  refine go_bipush C (pc' := 2) at_0 (z := (6 : Int32)) (by decide) rfl ?_
  refine go_newPA C (pc' := 4) (len := 6) (ty := .char) rfl (wd_0 hw) at_2 rfl (by decide) (by decide) (by decide) (by decide) (by decide) ?_
  intro h1 b1 k1 g1 n1 E1 A1
  have sz_b1 := Nat.le_trans (Nat.le_refl _) (Nat.le_of_eq g1.symm)
  have ne_a_CONTINUES_AFTER_BREAK_b1 : a_CONTINUES_AFTER_BREAK ≠ b1 := Nat.ne_of_lt (by rw [g1]; exact EnCONTINUES_AFTER_BREAK.2.1.lt)
  have ne_a_CONTINUES_b1 : a_CONTINUES ≠ b1 := Nat.ne_of_lt (by rw [g1]; exact EnCONTINUES.2.1.lt)
  have ne_a_ENDS_WITH_BREAK_b1 : a_ENDS_WITH_BREAK ≠ b1 := Nat.ne_of_lt (by rw [g1]; exact EnENDS_WITH_BREAK.2.1.lt)
  have ne_a_ENDS_b1 : a_ENDS ≠ b1 := Nat.ne_of_lt (by rw [g1]; exact EnENDS.2.1.lt)
  have ne_a_LAST_WITH_BREAK_b1 : a_LAST_WITH_BREAK ≠ b1 := Nat.ne_of_lt (by rw [g1]; exact EnLAST_WITH_BREAK.2.1.lt)
  have ne_a_LAST_b1 : a_LAST ≠ b1 := Nat.ne_of_lt (by rw [g1]; exact EnLAST.2.1.lt)
  have ne_a_ALL_b1 : a_ALL ≠ b1 := Nat.ne_of_lt (by rw [g1]; exact A_ALL.lt)
  refine go_old fun O1 => ?_
  refine go_dup C (pc' := 5) at_4 rfl rfl ?_
  refine go_iconst C (pc' := 6) at_5 (z := (0 : Int32)) (by decide) rfl ?_
  refine go_bipush C (pc' := 8) at_6 (z := (43 : Int32)) (by decide) rfl ?_
  refine go_caset C (pc' := 9) A1 (by decide) (i := 0) (by decide) (by simp) (vs' := [(.int (43 : Int32)), (.int (0 : Int32)), (.int (0 : Int32)), (.int (0 : Int32)), (.int (0 : Int32)), (.int (0 : Int32))]) (by decide) at_8 rfl n1 ?_
  intro h2 W2 A2
  refine go_old fun O2 => ?_
  refine go_dup C (pc' := 10) at_9 rfl rfl ?_
  refine go_iconst C (pc' := 11) at_10 (z := (1 : Int32)) (by decide) rfl ?_
  refine go_bipush C (pc' := 13) at_11 (z := (45 : Int32)) (by decide) rfl ?_
  refine go_caset C (pc' := 14) A2 (by decide) (i := 1) (by decide) (by simp) (vs' := [(.int (43 : Int32)), (.int (45 : Int32)), (.int (0 : Int32)), (.int (0 : Int32)), (.int (0 : Int32)), (.int (0 : Int32))]) (by decide) at_13 rfl n1 ?_
  intro h3 W3 A3
  refine go_old fun O3 => ?_
  refine go_dup C (pc' := 15) at_14 rfl rfl ?_
  refine go_iconst C (pc' := 16) at_15 (z := (2 : Int32)) (by decide) rfl ?_
  refine go_bipush C (pc' := 18) at_16 (z := (59 : Int32)) (by decide) rfl ?_
  refine go_caset C (pc' := 19) A3 (by decide) (i := 2) (by decide) (by simp) (vs' := [(.int (43 : Int32)), (.int (45 : Int32)), (.int (59 : Int32)), (.int (0 : Int32)), (.int (0 : Int32)), (.int (0 : Int32))]) (by decide) at_18 rfl n1 ?_
  intro h4 W4 A4
  refine go_old fun O4 => ?_
  refine go_dup C (pc' := 20) at_19 rfl rfl ?_
  refine go_iconst C (pc' := 21) at_20 (z := (3 : Int32)) (by decide) rfl ?_
  refine go_bipush C (pc' := 23) at_21 (z := (44 : Int32)) (by decide) rfl ?_
  refine go_caset C (pc' := 24) A4 (by decide) (i := 3) (by decide) (by simp) (vs' := [(.int (43 : Int32)), (.int (45 : Int32)), (.int (59 : Int32)), (.int (44 : Int32)), (.int (0 : Int32)), (.int (0 : Int32))]) (by decide) at_23 rfl n1 ?_
  intro h5 W5 A5
  refine go_old fun O5 => ?_
  refine go_dup C (pc' := 25) at_24 rfl rfl ?_
  refine go_iconst C (pc' := 26) at_25 (z := (4 : Int32)) (by decide) rfl ?_
  refine go_bipush C (pc' := 28) at_26 (z := (46 : Int32)) (by decide) rfl ?_
  refine go_caset C (pc' := 29) A5 (by decide) (i := 4) (by decide) (by simp) (vs' := [(.int (43 : Int32)), (.int (45 : Int32)), (.int (59 : Int32)), (.int (44 : Int32)), (.int (46 : Int32)), (.int (0 : Int32))]) (by decide) at_28 rfl n1 ?_
  intro h6 W6 A6
  refine go_old fun O6 => ?_
  refine go_dup C (pc' := 30) at_29 rfl rfl ?_
  refine go_iconst C (pc' := 31) at_30 (z := (5 : Int32)) (by decide) rfl ?_
  refine go_bipush C (pc' := 33) at_31 (z := (32 : Int32)) (by decide) rfl ?_
  refine go_caset C (pc' := 34) A6 (by decide) (i := 5) (by decide) (by simp) (vs' := [(.int (43 : Int32)), (.int (45 : Int32)), (.int (59 : Int32)), (.int (44 : Int32)), (.int (46 : Int32)), (.int (32 : Int32))]) (by decide) at_33 rfl n1 ?_
  intro h7 W7 A7
  refine go_old fun O7 => ?_
  refine go_astoreN C (pc' := 35) at_34 rfl (Ls' := #[(.val (.int x0)), (.val (.int x1)), (.val (.ref b1)), .unset, .unset]) rfl rfl ?_
  refine go_iloadN C (pc' := 36) at_35 rfl rfl ?_
  refine go_iconst C (pc' := 37) at_36 (z := (1 : Int32)) (by decide) rfl ?_
  refine go_iand C (pc' := 38) at_37 rfl ?_
  by_cases hc8 : (x1 &&& (1 : Int32)) = 0
  · refine go_ifYes C (pc' := 52) at_38 ((if0 _ _).trans (teq hc8).1) (by decide) (by decide) ?_
    refine go_iloadN C (pc' := 53) at_52 rfl rfl ?_
    refine go_i2c C (pc' := 54) at_53 rfl ?_
    refine go_istoreN C (pc' := 55) at_54 (Ls' := #[(.val (.int x0)), (.val (.int x1)), (.val (.ref b1)), (.val (.int (x0).toUInt32.toUInt16.toUInt32.toInt32)), .unset]) rfl rfl ?_
    refine go_iloadN C (pc' := 56) at_55 rfl rfl ?_
    generalize hcc : (x0).toUInt32.toUInt16.toUInt32.toInt32 = cc
    refine go_callS C (pc' := 59) (y' := (⟨"com/example/ratatoskr/ratatoskr/gmtp/Marker", "of", "(C)Lcom/example/ratatoskr/ratatoskr/gmtp/Marker;"⟩ : MethodName)) (wd_1 hw) (wd_2 hw) (of_met l Z a0 hw _ _ O7 (EnCONTINUES_AFTER_BREAK.ext O7.2) (EnCONTINUES.ext O7.2) (EnENDS_WITH_BREAK.ext O7.2) (EnENDS.ext O7.2) (EnLAST_WITH_BREAK.ext O7.2) (EnLAST.ext O7.2) (S_ALL.ext O7.2) (A_ALL.ext O7.2) cc) (wd_4 hw) (wd_3 hw) (by decide) (by decide) (W := 0) (Nat.le_of_ble_eq_true rfl) (by decide) (by decide) (by decide) rfl (argsL := [(.int cc)]) (rest := []) pd_0 rfl rfl rfl at_56 rfl ?_
    rintro _ _ ⟨rfl, rfl⟩
    refine go_st (st' := [(sel cc a_CONTINUES_AFTER_BREAK a_CONTINUES a_ENDS_WITH_BREAK a_ENDS a_LAST_WITH_BREAK a_LAST)]) rfl ?_
    refine go_astore C (pc' := 61) at_59 (sel_ref _ a_CONTINUES_AFTER_BREAK a_CONTINUES a_ENDS_WITH_BREAK a_ENDS a_LAST_WITH_BREAK a_LAST) (Ls' := #[(.val (.int x0)), (.val (.int x1)), (.val (.ref b1)), (.val (.int cc)), (.val (sel cc a_CONTINUES_AFTER_BREAK a_CONTINUES a_ENDS_WITH_BREAK a_ENDS a_LAST_WITH_BREAK a_LAST))]) (XS.store1 rfl (Or.inl rfl) (sel_cat _ a_CONTINUES_AFTER_BREAK a_CONTINUES a_ENDS_WITH_BREAK a_ENDS a_LAST_WITH_BREAK a_LAST)) rfl ?_
    refine go_aload C (pc' := 63) at_61 rfl (sel_ref _ a_CONTINUES_AFTER_BREAK a_CONTINUES a_ENDS_WITH_BREAK a_ENDS a_LAST_WITH_BREAK a_LAST) rfl ?_
    refine go_iloadN C (pc' := 64) at_63 rfl rfl ?_
    refine go_callS C (pc' := 67) (y' := (⟨"com/example/ratatoskr/ratatoskr/gmtp/MarkerOfPinLaw", "expected", "(C)Lcom/example/ratatoskr/ratatoskr/gmtp/Marker;"⟩ : MethodName)) (wd_11 hw) (wd_12 hw) (exp_met l Z a0 hw _ _ O7 (EnCONTINUES_AFTER_BREAK.ext O7.2) (EnCONTINUES.ext O7.2) (EnENDS_WITH_BREAK.ext O7.2) (EnENDS.ext O7.2) (EnLAST_WITH_BREAK.ext O7.2) (EnLAST.ext O7.2) cc) (wd_14 hw) (wd_13 hw) (by decide) (by decide) (W := 1) (by simp [sel_cat]) (by decide) (by decide) (by decide) rfl (argsL := [(.int cc)]) (rest := [(sel cc a_CONTINUES_AFTER_BREAK a_CONTINUES a_ENDS_WITH_BREAK a_ENDS a_LAST_WITH_BREAK a_LAST)]) pd_0 rfl rfl rfl at_64 rfl ?_
    rintro _ _ ⟨rfl, rfl⟩
    refine go_st (st' := [(sel cc a_CONTINUES_AFTER_BREAK a_CONTINUES a_ENDS_WITH_BREAK a_ENDS a_LAST_WITH_BREAK a_LAST), (sel cc a_CONTINUES_AFTER_BREAK a_CONTINUES a_ENDS_WITH_BREAK a_ENDS a_LAST_WITH_BREAK a_LAST)]) rfl ?_
    refine go_acmpNo C (pc' := 70) at_67 (sel_ref _ a_CONTINUES_AFTER_BREAK a_CONTINUES a_ENDS_WITH_BREAK a_ENDS a_LAST_WITH_BREAK a_LAST) (sel_ref _ a_CONTINUES_AFTER_BREAK a_CONTINUES a_ENDS_WITH_BREAK a_ENDS a_LAST_WITH_BREAK a_LAST) (acmp_neF rfl) rfl ?_
    refine go_iconst C (pc' := 71) at_70 (z := (1 : Int32)) (by decide) rfl ?_
    refine go_goto C (pc' := 75) at_71 (by decide) (by decide) ?_
    exact go_retN C (by simp) (z' := (1 : Int32)) (by decide) at_75 (by decide) (by decide) rfl
  · refine go_ifNo C (pc' := 41) at_38 ((if0 _ _).trans (feq hc8).1) rfl ?_
    refine go_aloadN C (pc' := 42) at_41 rfl rfl rfl ?_
    refine go_iloadN C (pc' := 43) at_42 rfl rfl ?_
    refine go_iconst C (pc' := 44) at_43 (z := (1 : Int32)) (by decide) rfl ?_
    refine go_iushr C (pc' := 45) at_44 rfl ?_
    refine go_bipush C (pc' := 47) at_45 (z := (6 : Int32)) (by decide) rfl ?_
    refine go_irem C (pc' := 48) at_47 (by decide) rfl ?_
    have hi := own_ush x1
    generalize (((x1).toUInt32 >>> ((1 : Int32) &&& 31).toUInt32).toInt32 % (6 : Int32)) = i at hi ⊢
    rcases own_cases6 hi with rfl | rfl | rfl | rfl | rfl | rfl
    · skip
      refine go_caget C (pc' := 49) A7 (by decide) (i := 0) (by decide) rfl at_48 rfl ?_
      refine go_goto C (pc' := 54) at_49 (by decide) (by decide) ?_
      refine go_istoreN C (pc' := 55) at_54 (Ls' := #[(.val (.int x0)), (.val (.int x1)), (.val (.ref b1)), (.val (.int (43 : Int32))), .unset]) rfl rfl ?_
      refine go_iloadN C (pc' := 56) at_55 rfl rfl ?_
      refine go_callS C (pc' := 59) (y' := (⟨"com/example/ratatoskr/ratatoskr/gmtp/Marker", "of", "(C)Lcom/example/ratatoskr/ratatoskr/gmtp/Marker;"⟩ : MethodName)) (wd_1 hw) (wd_2 hw) (of_met l Z a0 hw _ _ O7 (EnCONTINUES_AFTER_BREAK.ext O7.2) (EnCONTINUES.ext O7.2) (EnENDS_WITH_BREAK.ext O7.2) (EnENDS.ext O7.2) (EnLAST_WITH_BREAK.ext O7.2) (EnLAST.ext O7.2) (S_ALL.ext O7.2) (A_ALL.ext O7.2) (43 : Int32)) (wd_4 hw) (wd_3 hw) (by decide) (by decide) (W := 0) (Nat.le_of_ble_eq_true rfl) (by decide) (by decide) (by decide) rfl (argsL := [(.int (43 : Int32))]) (rest := []) pd_0 rfl rfl rfl at_56 rfl ?_
      rintro _ _ ⟨rfl, rfl⟩
      refine go_st (st' := [(sel (43 : Int32) a_CONTINUES_AFTER_BREAK a_CONTINUES a_ENDS_WITH_BREAK a_ENDS a_LAST_WITH_BREAK a_LAST)]) rfl ?_
      refine go_astore C (pc' := 61) at_59 (sel_ref _ a_CONTINUES_AFTER_BREAK a_CONTINUES a_ENDS_WITH_BREAK a_ENDS a_LAST_WITH_BREAK a_LAST) (Ls' := #[(.val (.int x0)), (.val (.int x1)), (.val (.ref b1)), (.val (.int (43 : Int32))), (.val (sel (43 : Int32) a_CONTINUES_AFTER_BREAK a_CONTINUES a_ENDS_WITH_BREAK a_ENDS a_LAST_WITH_BREAK a_LAST))]) (XS.store1 rfl (Or.inl rfl) (sel_cat _ a_CONTINUES_AFTER_BREAK a_CONTINUES a_ENDS_WITH_BREAK a_ENDS a_LAST_WITH_BREAK a_LAST)) rfl ?_
      refine go_aload C (pc' := 63) at_61 rfl (sel_ref _ a_CONTINUES_AFTER_BREAK a_CONTINUES a_ENDS_WITH_BREAK a_ENDS a_LAST_WITH_BREAK a_LAST) rfl ?_
      refine go_iloadN C (pc' := 64) at_63 rfl rfl ?_
      refine go_callS C (pc' := 67) (y' := (⟨"com/example/ratatoskr/ratatoskr/gmtp/MarkerOfPinLaw", "expected", "(C)Lcom/example/ratatoskr/ratatoskr/gmtp/Marker;"⟩ : MethodName)) (wd_11 hw) (wd_12 hw) (exp_met l Z a0 hw _ _ O7 (EnCONTINUES_AFTER_BREAK.ext O7.2) (EnCONTINUES.ext O7.2) (EnENDS_WITH_BREAK.ext O7.2) (EnENDS.ext O7.2) (EnLAST_WITH_BREAK.ext O7.2) (EnLAST.ext O7.2) (43 : Int32)) (wd_14 hw) (wd_13 hw) (by decide) (by decide) (W := 1) (by simp [sel_cat]) (by decide) (by decide) (by decide) rfl (argsL := [(.int (43 : Int32))]) (rest := [(sel (43 : Int32) a_CONTINUES_AFTER_BREAK a_CONTINUES a_ENDS_WITH_BREAK a_ENDS a_LAST_WITH_BREAK a_LAST)]) pd_0 rfl rfl rfl at_64 rfl ?_
      rintro _ _ ⟨rfl, rfl⟩
      refine go_st (st' := [(sel (43 : Int32) a_CONTINUES_AFTER_BREAK a_CONTINUES a_ENDS_WITH_BREAK a_ENDS a_LAST_WITH_BREAK a_LAST), (sel (43 : Int32) a_CONTINUES_AFTER_BREAK a_CONTINUES a_ENDS_WITH_BREAK a_ENDS a_LAST_WITH_BREAK a_LAST)]) rfl ?_
      refine go_acmpNo C (pc' := 70) at_67 (sel_ref _ a_CONTINUES_AFTER_BREAK a_CONTINUES a_ENDS_WITH_BREAK a_ENDS a_LAST_WITH_BREAK a_LAST) (sel_ref _ a_CONTINUES_AFTER_BREAK a_CONTINUES a_ENDS_WITH_BREAK a_ENDS a_LAST_WITH_BREAK a_LAST) (acmp_neF rfl) rfl ?_
      refine go_iconst C (pc' := 71) at_70 (z := (1 : Int32)) (by decide) rfl ?_
      refine go_goto C (pc' := 75) at_71 (by decide) (by decide) ?_
      exact go_retN C (by simp) (z' := (1 : Int32)) (by decide) at_75 (by decide) (by decide) rfl
    · skip
      refine go_caget C (pc' := 49) A7 (by decide) (i := 1) (by decide) rfl at_48 rfl ?_
      refine go_goto C (pc' := 54) at_49 (by decide) (by decide) ?_
      refine go_istoreN C (pc' := 55) at_54 (Ls' := #[(.val (.int x0)), (.val (.int x1)), (.val (.ref b1)), (.val (.int (45 : Int32))), .unset]) rfl rfl ?_
      refine go_iloadN C (pc' := 56) at_55 rfl rfl ?_
      refine go_callS C (pc' := 59) (y' := (⟨"com/example/ratatoskr/ratatoskr/gmtp/Marker", "of", "(C)Lcom/example/ratatoskr/ratatoskr/gmtp/Marker;"⟩ : MethodName)) (wd_1 hw) (wd_2 hw) (of_met l Z a0 hw _ _ O7 (EnCONTINUES_AFTER_BREAK.ext O7.2) (EnCONTINUES.ext O7.2) (EnENDS_WITH_BREAK.ext O7.2) (EnENDS.ext O7.2) (EnLAST_WITH_BREAK.ext O7.2) (EnLAST.ext O7.2) (S_ALL.ext O7.2) (A_ALL.ext O7.2) (45 : Int32)) (wd_4 hw) (wd_3 hw) (by decide) (by decide) (W := 0) (Nat.le_of_ble_eq_true rfl) (by decide) (by decide) (by decide) rfl (argsL := [(.int (45 : Int32))]) (rest := []) pd_0 rfl rfl rfl at_56 rfl ?_
      rintro _ _ ⟨rfl, rfl⟩
      refine go_st (st' := [(sel (45 : Int32) a_CONTINUES_AFTER_BREAK a_CONTINUES a_ENDS_WITH_BREAK a_ENDS a_LAST_WITH_BREAK a_LAST)]) rfl ?_
      refine go_astore C (pc' := 61) at_59 (sel_ref _ a_CONTINUES_AFTER_BREAK a_CONTINUES a_ENDS_WITH_BREAK a_ENDS a_LAST_WITH_BREAK a_LAST) (Ls' := #[(.val (.int x0)), (.val (.int x1)), (.val (.ref b1)), (.val (.int (45 : Int32))), (.val (sel (45 : Int32) a_CONTINUES_AFTER_BREAK a_CONTINUES a_ENDS_WITH_BREAK a_ENDS a_LAST_WITH_BREAK a_LAST))]) (XS.store1 rfl (Or.inl rfl) (sel_cat _ a_CONTINUES_AFTER_BREAK a_CONTINUES a_ENDS_WITH_BREAK a_ENDS a_LAST_WITH_BREAK a_LAST)) rfl ?_
      refine go_aload C (pc' := 63) at_61 rfl (sel_ref _ a_CONTINUES_AFTER_BREAK a_CONTINUES a_ENDS_WITH_BREAK a_ENDS a_LAST_WITH_BREAK a_LAST) rfl ?_
      refine go_iloadN C (pc' := 64) at_63 rfl rfl ?_
      refine go_callS C (pc' := 67) (y' := (⟨"com/example/ratatoskr/ratatoskr/gmtp/MarkerOfPinLaw", "expected", "(C)Lcom/example/ratatoskr/ratatoskr/gmtp/Marker;"⟩ : MethodName)) (wd_11 hw) (wd_12 hw) (exp_met l Z a0 hw _ _ O7 (EnCONTINUES_AFTER_BREAK.ext O7.2) (EnCONTINUES.ext O7.2) (EnENDS_WITH_BREAK.ext O7.2) (EnENDS.ext O7.2) (EnLAST_WITH_BREAK.ext O7.2) (EnLAST.ext O7.2) (45 : Int32)) (wd_14 hw) (wd_13 hw) (by decide) (by decide) (W := 1) (by simp [sel_cat]) (by decide) (by decide) (by decide) rfl (argsL := [(.int (45 : Int32))]) (rest := [(sel (45 : Int32) a_CONTINUES_AFTER_BREAK a_CONTINUES a_ENDS_WITH_BREAK a_ENDS a_LAST_WITH_BREAK a_LAST)]) pd_0 rfl rfl rfl at_64 rfl ?_
      rintro _ _ ⟨rfl, rfl⟩
      refine go_st (st' := [(sel (45 : Int32) a_CONTINUES_AFTER_BREAK a_CONTINUES a_ENDS_WITH_BREAK a_ENDS a_LAST_WITH_BREAK a_LAST), (sel (45 : Int32) a_CONTINUES_AFTER_BREAK a_CONTINUES a_ENDS_WITH_BREAK a_ENDS a_LAST_WITH_BREAK a_LAST)]) rfl ?_
      refine go_acmpNo C (pc' := 70) at_67 (sel_ref _ a_CONTINUES_AFTER_BREAK a_CONTINUES a_ENDS_WITH_BREAK a_ENDS a_LAST_WITH_BREAK a_LAST) (sel_ref _ a_CONTINUES_AFTER_BREAK a_CONTINUES a_ENDS_WITH_BREAK a_ENDS a_LAST_WITH_BREAK a_LAST) (acmp_neF rfl) rfl ?_
      refine go_iconst C (pc' := 71) at_70 (z := (1 : Int32)) (by decide) rfl ?_
      refine go_goto C (pc' := 75) at_71 (by decide) (by decide) ?_
      exact go_retN C (by simp) (z' := (1 : Int32)) (by decide) at_75 (by decide) (by decide) rfl
    · skip
      refine go_caget C (pc' := 49) A7 (by decide) (i := 2) (by decide) rfl at_48 rfl ?_
      refine go_goto C (pc' := 54) at_49 (by decide) (by decide) ?_
      refine go_istoreN C (pc' := 55) at_54 (Ls' := #[(.val (.int x0)), (.val (.int x1)), (.val (.ref b1)), (.val (.int (59 : Int32))), .unset]) rfl rfl ?_
      refine go_iloadN C (pc' := 56) at_55 rfl rfl ?_
      refine go_callS C (pc' := 59) (y' := (⟨"com/example/ratatoskr/ratatoskr/gmtp/Marker", "of", "(C)Lcom/example/ratatoskr/ratatoskr/gmtp/Marker;"⟩ : MethodName)) (wd_1 hw) (wd_2 hw) (of_met l Z a0 hw _ _ O7 (EnCONTINUES_AFTER_BREAK.ext O7.2) (EnCONTINUES.ext O7.2) (EnENDS_WITH_BREAK.ext O7.2) (EnENDS.ext O7.2) (EnLAST_WITH_BREAK.ext O7.2) (EnLAST.ext O7.2) (S_ALL.ext O7.2) (A_ALL.ext O7.2) (59 : Int32)) (wd_4 hw) (wd_3 hw) (by decide) (by decide) (W := 0) (Nat.le_of_ble_eq_true rfl) (by decide) (by decide) (by decide) rfl (argsL := [(.int (59 : Int32))]) (rest := []) pd_0 rfl rfl rfl at_56 rfl ?_
      rintro _ _ ⟨rfl, rfl⟩
      refine go_st (st' := [(sel (59 : Int32) a_CONTINUES_AFTER_BREAK a_CONTINUES a_ENDS_WITH_BREAK a_ENDS a_LAST_WITH_BREAK a_LAST)]) rfl ?_
      refine go_astore C (pc' := 61) at_59 (sel_ref _ a_CONTINUES_AFTER_BREAK a_CONTINUES a_ENDS_WITH_BREAK a_ENDS a_LAST_WITH_BREAK a_LAST) (Ls' := #[(.val (.int x0)), (.val (.int x1)), (.val (.ref b1)), (.val (.int (59 : Int32))), (.val (sel (59 : Int32) a_CONTINUES_AFTER_BREAK a_CONTINUES a_ENDS_WITH_BREAK a_ENDS a_LAST_WITH_BREAK a_LAST))]) (XS.store1 rfl (Or.inl rfl) (sel_cat _ a_CONTINUES_AFTER_BREAK a_CONTINUES a_ENDS_WITH_BREAK a_ENDS a_LAST_WITH_BREAK a_LAST)) rfl ?_
      refine go_aload C (pc' := 63) at_61 rfl (sel_ref _ a_CONTINUES_AFTER_BREAK a_CONTINUES a_ENDS_WITH_BREAK a_ENDS a_LAST_WITH_BREAK a_LAST) rfl ?_
      refine go_iloadN C (pc' := 64) at_63 rfl rfl ?_
      refine go_callS C (pc' := 67) (y' := (⟨"com/example/ratatoskr/ratatoskr/gmtp/MarkerOfPinLaw", "expected", "(C)Lcom/example/ratatoskr/ratatoskr/gmtp/Marker;"⟩ : MethodName)) (wd_11 hw) (wd_12 hw) (exp_met l Z a0 hw _ _ O7 (EnCONTINUES_AFTER_BREAK.ext O7.2) (EnCONTINUES.ext O7.2) (EnENDS_WITH_BREAK.ext O7.2) (EnENDS.ext O7.2) (EnLAST_WITH_BREAK.ext O7.2) (EnLAST.ext O7.2) (59 : Int32)) (wd_14 hw) (wd_13 hw) (by decide) (by decide) (W := 1) (by simp [sel_cat]) (by decide) (by decide) (by decide) rfl (argsL := [(.int (59 : Int32))]) (rest := [(sel (59 : Int32) a_CONTINUES_AFTER_BREAK a_CONTINUES a_ENDS_WITH_BREAK a_ENDS a_LAST_WITH_BREAK a_LAST)]) pd_0 rfl rfl rfl at_64 rfl ?_
      rintro _ _ ⟨rfl, rfl⟩
      refine go_st (st' := [(sel (59 : Int32) a_CONTINUES_AFTER_BREAK a_CONTINUES a_ENDS_WITH_BREAK a_ENDS a_LAST_WITH_BREAK a_LAST), (sel (59 : Int32) a_CONTINUES_AFTER_BREAK a_CONTINUES a_ENDS_WITH_BREAK a_ENDS a_LAST_WITH_BREAK a_LAST)]) rfl ?_
      refine go_acmpNo C (pc' := 70) at_67 (sel_ref _ a_CONTINUES_AFTER_BREAK a_CONTINUES a_ENDS_WITH_BREAK a_ENDS a_LAST_WITH_BREAK a_LAST) (sel_ref _ a_CONTINUES_AFTER_BREAK a_CONTINUES a_ENDS_WITH_BREAK a_ENDS a_LAST_WITH_BREAK a_LAST) (acmp_neF rfl) rfl ?_
      refine go_iconst C (pc' := 71) at_70 (z := (1 : Int32)) (by decide) rfl ?_
      refine go_goto C (pc' := 75) at_71 (by decide) (by decide) ?_
      exact go_retN C (by simp) (z' := (1 : Int32)) (by decide) at_75 (by decide) (by decide) rfl
    · skip
      refine go_caget C (pc' := 49) A7 (by decide) (i := 3) (by decide) rfl at_48 rfl ?_
      refine go_goto C (pc' := 54) at_49 (by decide) (by decide) ?_
      refine go_istoreN C (pc' := 55) at_54 (Ls' := #[(.val (.int x0)), (.val (.int x1)), (.val (.ref b1)), (.val (.int (44 : Int32))), .unset]) rfl rfl ?_
      refine go_iloadN C (pc' := 56) at_55 rfl rfl ?_
      refine go_callS C (pc' := 59) (y' := (⟨"com/example/ratatoskr/ratatoskr/gmtp/Marker", "of", "(C)Lcom/example/ratatoskr/ratatoskr/gmtp/Marker;"⟩ : MethodName)) (wd_1 hw) (wd_2 hw) (of_met l Z a0 hw _ _ O7 (EnCONTINUES_AFTER_BREAK.ext O7.2) (EnCONTINUES.ext O7.2) (EnENDS_WITH_BREAK.ext O7.2) (EnENDS.ext O7.2) (EnLAST_WITH_BREAK.ext O7.2) (EnLAST.ext O7.2) (S_ALL.ext O7.2) (A_ALL.ext O7.2) (44 : Int32)) (wd_4 hw) (wd_3 hw) (by decide) (by decide) (W := 0) (Nat.le_of_ble_eq_true rfl) (by decide) (by decide) (by decide) rfl (argsL := [(.int (44 : Int32))]) (rest := []) pd_0 rfl rfl rfl at_56 rfl ?_
      rintro _ _ ⟨rfl, rfl⟩
      refine go_st (st' := [(sel (44 : Int32) a_CONTINUES_AFTER_BREAK a_CONTINUES a_ENDS_WITH_BREAK a_ENDS a_LAST_WITH_BREAK a_LAST)]) rfl ?_
      refine go_astore C (pc' := 61) at_59 (sel_ref _ a_CONTINUES_AFTER_BREAK a_CONTINUES a_ENDS_WITH_BREAK a_ENDS a_LAST_WITH_BREAK a_LAST) (Ls' := #[(.val (.int x0)), (.val (.int x1)), (.val (.ref b1)), (.val (.int (44 : Int32))), (.val (sel (44 : Int32) a_CONTINUES_AFTER_BREAK a_CONTINUES a_ENDS_WITH_BREAK a_ENDS a_LAST_WITH_BREAK a_LAST))]) (XS.store1 rfl (Or.inl rfl) (sel_cat _ a_CONTINUES_AFTER_BREAK a_CONTINUES a_ENDS_WITH_BREAK a_ENDS a_LAST_WITH_BREAK a_LAST)) rfl ?_
      refine go_aload C (pc' := 63) at_61 rfl (sel_ref _ a_CONTINUES_AFTER_BREAK a_CONTINUES a_ENDS_WITH_BREAK a_ENDS a_LAST_WITH_BREAK a_LAST) rfl ?_
      refine go_iloadN C (pc' := 64) at_63 rfl rfl ?_
      refine go_callS C (pc' := 67) (y' := (⟨"com/example/ratatoskr/ratatoskr/gmtp/MarkerOfPinLaw", "expected", "(C)Lcom/example/ratatoskr/ratatoskr/gmtp/Marker;"⟩ : MethodName)) (wd_11 hw) (wd_12 hw) (exp_met l Z a0 hw _ _ O7 (EnCONTINUES_AFTER_BREAK.ext O7.2) (EnCONTINUES.ext O7.2) (EnENDS_WITH_BREAK.ext O7.2) (EnENDS.ext O7.2) (EnLAST_WITH_BREAK.ext O7.2) (EnLAST.ext O7.2) (44 : Int32)) (wd_14 hw) (wd_13 hw) (by decide) (by decide) (W := 1) (by simp [sel_cat]) (by decide) (by decide) (by decide) rfl (argsL := [(.int (44 : Int32))]) (rest := [(sel (44 : Int32) a_CONTINUES_AFTER_BREAK a_CONTINUES a_ENDS_WITH_BREAK a_ENDS a_LAST_WITH_BREAK a_LAST)]) pd_0 rfl rfl rfl at_64 rfl ?_
      rintro _ _ ⟨rfl, rfl⟩
      refine go_st (st' := [(sel (44 : Int32) a_CONTINUES_AFTER_BREAK a_CONTINUES a_ENDS_WITH_BREAK a_ENDS a_LAST_WITH_BREAK a_LAST), (sel (44 : Int32) a_CONTINUES_AFTER_BREAK a_CONTINUES a_ENDS_WITH_BREAK a_ENDS a_LAST_WITH_BREAK a_LAST)]) rfl ?_
      refine go_acmpNo C (pc' := 70) at_67 (sel_ref _ a_CONTINUES_AFTER_BREAK a_CONTINUES a_ENDS_WITH_BREAK a_ENDS a_LAST_WITH_BREAK a_LAST) (sel_ref _ a_CONTINUES_AFTER_BREAK a_CONTINUES a_ENDS_WITH_BREAK a_ENDS a_LAST_WITH_BREAK a_LAST) (acmp_neF rfl) rfl ?_
      refine go_iconst C (pc' := 71) at_70 (z := (1 : Int32)) (by decide) rfl ?_
      refine go_goto C (pc' := 75) at_71 (by decide) (by decide) ?_
      exact go_retN C (by simp) (z' := (1 : Int32)) (by decide) at_75 (by decide) (by decide) rfl
    · skip
      refine go_caget C (pc' := 49) A7 (by decide) (i := 4) (by decide) rfl at_48 rfl ?_
      refine go_goto C (pc' := 54) at_49 (by decide) (by decide) ?_
      refine go_istoreN C (pc' := 55) at_54 (Ls' := #[(.val (.int x0)), (.val (.int x1)), (.val (.ref b1)), (.val (.int (46 : Int32))), .unset]) rfl rfl ?_
      refine go_iloadN C (pc' := 56) at_55 rfl rfl ?_
      refine go_callS C (pc' := 59) (y' := (⟨"com/example/ratatoskr/ratatoskr/gmtp/Marker", "of", "(C)Lcom/example/ratatoskr/ratatoskr/gmtp/Marker;"⟩ : MethodName)) (wd_1 hw) (wd_2 hw) (of_met l Z a0 hw _ _ O7 (EnCONTINUES_AFTER_BREAK.ext O7.2) (EnCONTINUES.ext O7.2) (EnENDS_WITH_BREAK.ext O7.2) (EnENDS.ext O7.2) (EnLAST_WITH_BREAK.ext O7.2) (EnLAST.ext O7.2) (S_ALL.ext O7.2) (A_ALL.ext O7.2) (46 : Int32)) (wd_4 hw) (wd_3 hw) (by decide) (by decide) (W := 0) (Nat.le_of_ble_eq_true rfl) (by decide) (by decide) (by decide) rfl (argsL := [(.int (46 : Int32))]) (rest := []) pd_0 rfl rfl rfl at_56 rfl ?_
      rintro _ _ ⟨rfl, rfl⟩
      refine go_st (st' := [(sel (46 : Int32) a_CONTINUES_AFTER_BREAK a_CONTINUES a_ENDS_WITH_BREAK a_ENDS a_LAST_WITH_BREAK a_LAST)]) rfl ?_
      refine go_astore C (pc' := 61) at_59 (sel_ref _ a_CONTINUES_AFTER_BREAK a_CONTINUES a_ENDS_WITH_BREAK a_ENDS a_LAST_WITH_BREAK a_LAST) (Ls' := #[(.val (.int x0)), (.val (.int x1)), (.val (.ref b1)), (.val (.int (46 : Int32))), (.val (sel (46 : Int32) a_CONTINUES_AFTER_BREAK a_CONTINUES a_ENDS_WITH_BREAK a_ENDS a_LAST_WITH_BREAK a_LAST))]) (XS.store1 rfl (Or.inl rfl) (sel_cat _ a_CONTINUES_AFTER_BREAK a_CONTINUES a_ENDS_WITH_BREAK a_ENDS a_LAST_WITH_BREAK a_LAST)) rfl ?_
      refine go_aload C (pc' := 63) at_61 rfl (sel_ref _ a_CONTINUES_AFTER_BREAK a_CONTINUES a_ENDS_WITH_BREAK a_ENDS a_LAST_WITH_BREAK a_LAST) rfl ?_
      refine go_iloadN C (pc' := 64) at_63 rfl rfl ?_
      refine go_callS C (pc' := 67) (y' := (⟨"com/example/ratatoskr/ratatoskr/gmtp/MarkerOfPinLaw", "expected", "(C)Lcom/example/ratatoskr/ratatoskr/gmtp/Marker;"⟩ : MethodName)) (wd_11 hw) (wd_12 hw) (exp_met l Z a0 hw _ _ O7 (EnCONTINUES_AFTER_BREAK.ext O7.2) (EnCONTINUES.ext O7.2) (EnENDS_WITH_BREAK.ext O7.2) (EnENDS.ext O7.2) (EnLAST_WITH_BREAK.ext O7.2) (EnLAST.ext O7.2) (46 : Int32)) (wd_14 hw) (wd_13 hw) (by decide) (by decide) (W := 1) (by simp [sel_cat]) (by decide) (by decide) (by decide) rfl (argsL := [(.int (46 : Int32))]) (rest := [(sel (46 : Int32) a_CONTINUES_AFTER_BREAK a_CONTINUES a_ENDS_WITH_BREAK a_ENDS a_LAST_WITH_BREAK a_LAST)]) pd_0 rfl rfl rfl at_64 rfl ?_
      rintro _ _ ⟨rfl, rfl⟩
      refine go_st (st' := [(sel (46 : Int32) a_CONTINUES_AFTER_BREAK a_CONTINUES a_ENDS_WITH_BREAK a_ENDS a_LAST_WITH_BREAK a_LAST), (sel (46 : Int32) a_CONTINUES_AFTER_BREAK a_CONTINUES a_ENDS_WITH_BREAK a_ENDS a_LAST_WITH_BREAK a_LAST)]) rfl ?_
      refine go_acmpNo C (pc' := 70) at_67 (sel_ref _ a_CONTINUES_AFTER_BREAK a_CONTINUES a_ENDS_WITH_BREAK a_ENDS a_LAST_WITH_BREAK a_LAST) (sel_ref _ a_CONTINUES_AFTER_BREAK a_CONTINUES a_ENDS_WITH_BREAK a_ENDS a_LAST_WITH_BREAK a_LAST) (acmp_neF rfl) rfl ?_
      refine go_iconst C (pc' := 71) at_70 (z := (1 : Int32)) (by decide) rfl ?_
      refine go_goto C (pc' := 75) at_71 (by decide) (by decide) ?_
      exact go_retN C (by simp) (z' := (1 : Int32)) (by decide) at_75 (by decide) (by decide) rfl
    · skip
      refine go_caget C (pc' := 49) A7 (by decide) (i := 5) (by decide) rfl at_48 rfl ?_
      refine go_goto C (pc' := 54) at_49 (by decide) (by decide) ?_
      refine go_istoreN C (pc' := 55) at_54 (Ls' := #[(.val (.int x0)), (.val (.int x1)), (.val (.ref b1)), (.val (.int (32 : Int32))), .unset]) rfl rfl ?_
      refine go_iloadN C (pc' := 56) at_55 rfl rfl ?_
      refine go_callS C (pc' := 59) (y' := (⟨"com/example/ratatoskr/ratatoskr/gmtp/Marker", "of", "(C)Lcom/example/ratatoskr/ratatoskr/gmtp/Marker;"⟩ : MethodName)) (wd_1 hw) (wd_2 hw) (of_met l Z a0 hw _ _ O7 (EnCONTINUES_AFTER_BREAK.ext O7.2) (EnCONTINUES.ext O7.2) (EnENDS_WITH_BREAK.ext O7.2) (EnENDS.ext O7.2) (EnLAST_WITH_BREAK.ext O7.2) (EnLAST.ext O7.2) (S_ALL.ext O7.2) (A_ALL.ext O7.2) (32 : Int32)) (wd_4 hw) (wd_3 hw) (by decide) (by decide) (W := 0) (Nat.le_of_ble_eq_true rfl) (by decide) (by decide) (by decide) rfl (argsL := [(.int (32 : Int32))]) (rest := []) pd_0 rfl rfl rfl at_56 rfl ?_
      rintro _ _ ⟨rfl, rfl⟩
      refine go_st (st' := [(sel (32 : Int32) a_CONTINUES_AFTER_BREAK a_CONTINUES a_ENDS_WITH_BREAK a_ENDS a_LAST_WITH_BREAK a_LAST)]) rfl ?_
      refine go_astore C (pc' := 61) at_59 (sel_ref _ a_CONTINUES_AFTER_BREAK a_CONTINUES a_ENDS_WITH_BREAK a_ENDS a_LAST_WITH_BREAK a_LAST) (Ls' := #[(.val (.int x0)), (.val (.int x1)), (.val (.ref b1)), (.val (.int (32 : Int32))), (.val (sel (32 : Int32) a_CONTINUES_AFTER_BREAK a_CONTINUES a_ENDS_WITH_BREAK a_ENDS a_LAST_WITH_BREAK a_LAST))]) (XS.store1 rfl (Or.inl rfl) (sel_cat _ a_CONTINUES_AFTER_BREAK a_CONTINUES a_ENDS_WITH_BREAK a_ENDS a_LAST_WITH_BREAK a_LAST)) rfl ?_
      refine go_aload C (pc' := 63) at_61 rfl (sel_ref _ a_CONTINUES_AFTER_BREAK a_CONTINUES a_ENDS_WITH_BREAK a_ENDS a_LAST_WITH_BREAK a_LAST) rfl ?_
      refine go_iloadN C (pc' := 64) at_63 rfl rfl ?_
      refine go_callS C (pc' := 67) (y' := (⟨"com/example/ratatoskr/ratatoskr/gmtp/MarkerOfPinLaw", "expected", "(C)Lcom/example/ratatoskr/ratatoskr/gmtp/Marker;"⟩ : MethodName)) (wd_11 hw) (wd_12 hw) (exp_met l Z a0 hw _ _ O7 (EnCONTINUES_AFTER_BREAK.ext O7.2) (EnCONTINUES.ext O7.2) (EnENDS_WITH_BREAK.ext O7.2) (EnENDS.ext O7.2) (EnLAST_WITH_BREAK.ext O7.2) (EnLAST.ext O7.2) (32 : Int32)) (wd_14 hw) (wd_13 hw) (by decide) (by decide) (W := 1) (by simp [sel_cat]) (by decide) (by decide) (by decide) rfl (argsL := [(.int (32 : Int32))]) (rest := [(sel (32 : Int32) a_CONTINUES_AFTER_BREAK a_CONTINUES a_ENDS_WITH_BREAK a_ENDS a_LAST_WITH_BREAK a_LAST)]) pd_0 rfl rfl rfl at_64 rfl ?_
      rintro _ _ ⟨rfl, rfl⟩
      refine go_st (st' := [(sel (32 : Int32) a_CONTINUES_AFTER_BREAK a_CONTINUES a_ENDS_WITH_BREAK a_ENDS a_LAST_WITH_BREAK a_LAST), (sel (32 : Int32) a_CONTINUES_AFTER_BREAK a_CONTINUES a_ENDS_WITH_BREAK a_ENDS a_LAST_WITH_BREAK a_LAST)]) rfl ?_
      refine go_acmpNo C (pc' := 70) at_67 (sel_ref _ a_CONTINUES_AFTER_BREAK a_CONTINUES a_ENDS_WITH_BREAK a_ENDS a_LAST_WITH_BREAK a_LAST) (sel_ref _ a_CONTINUES_AFTER_BREAK a_CONTINUES a_ENDS_WITH_BREAK a_ENDS a_LAST_WITH_BREAK a_LAST) (acmp_neF rfl) rfl ?_
      refine go_iconst C (pc' := 71) at_70 (z := (1 : Int32)) (by decide) rfl ?_
      refine go_goto C (pc' := 75) at_71 (by decide) (by decide) ?_
      exact go_retN C (by simp) (z' := (1 : Int32)) (by decide) at_75 (by decide) (by decide) rfl
set_option maxRecDepth 65536 in
set_option maxHeartbeats 40000000 in
theorem comes_1 {Post : Tables → Env → Array Value → State → Outcome → State → Prop} (hpost : ∀ tb e args s v u, (limb_1_1.after args s (.returned v) u = true ∧ limb_1_2.after args s (.returned v) u = true ∧ True) → FrameEnd s (.returned v) u (Jvm.fieldLocs frame_1_writes args s ++ Jvm.arrayLocs frame_1_arrays args s ++ Jvm.staticLocs frame_1_statics s) 16 128 → Post tb e args s (.returned v) u) :
    ArmFor flags0 classFile x code maxLocals ret World_1 tables_1 room_1 Calls_1 rest_1 Pre_1 Post := by
  intro l hfl _ _ p e ha hc hk s m args below hf hA hF happ hP
  obtain ⟨hcalls, hrest, hpre⟩ := hP
  obtain ⟨-, -, -, hnamed, -, -, -, hat⟩ := (Spec.applies_iff hf).mp happ
  obtain ⟨hg, hn⟩ := and_e (Cond.before_iff.mp (show (Jvm.Cond.and given_1 narrow_1).before args s = true from hpre))
  obtain ⟨hcount, g0⟩ := and_e hg
  obtain ⟨w0, w1, rfl⟩ : ∃ w0 w1 : Value, args = #[w0, w1] := by
    have hs : args.size = 2 := by simpa [Cond.value, given_1] using hcount
    obtain ⟨L⟩ := args
    match L, hs with
    | [w0, w1], _ => exact ⟨w0, w1, rfl⟩
  have hw := fun d (hd : d ∈ tables_1) => atoms_spec (ws := Jvm.Cond.code x code maxLocals ret :: tables_1) hat d (List.mem_cons_of_mem _ hd)
  have hfit : Fit s := fun {y c} hc i hi => by
    obtain ⟨ha, rfl⟩ := Array.getElem?_eq_some_iff.mp hc
    have q := List.all_eq_true.mp ((Array.all_eq_true_iff_forall_mem.mp hF) _ (Array.getElem_mem ha)) i (List.mem_range.mpr hi)
    simpa [Array.getElem?_eq_getElem hi] using q
  obtain ⟨u0, g1⟩ := and_e g0
  obtain ⟨i0, e0⟩ := is_v u0
  obtain rfl : w0 = (.int i0) := Option.some.inj e0
  obtain ⟨i1, e1⟩ := is_v g1
  obtain rfl : w1 = (.int i1) := Option.some.inj e1
  obtain ⟨q0, r0⟩ := and_e hn
  obtain ⟨q1, r1⟩ := and_e r0
  obtain ⟨q2, r2⟩ := and_e r1
  obtain ⟨q3, r3⟩ := and_e r2
  obtain ⟨q4, r4⟩ := and_e r3
  obtain ⟨q5, r5⟩ := and_e r4
  obtain ⟨q6, r6⟩ := and_e r5
  obtain ⟨q7, r7⟩ := and_e r6
  obtain ⟨q8, r8⟩ := and_e r7
  obtain ⟨q9, r9⟩ := and_e r8
  obtain ⟨q10, r10⟩ := and_e r9
  obtain ⟨q11, r11⟩ := and_e r10
  obtain ⟨q12, r12⟩ := and_e r11
  obtain ⟨q13, r13⟩ := and_e r12
  obtain ⟨q14, r14⟩ := and_e r13
  obtain ⟨q15, r15⟩ := and_e r14
  obtain ⟨q16, r16⟩ := and_e r15
  obtain ⟨q17, r17⟩ := and_e r16
  obtain ⟨q18, r18⟩ := and_e r17
  have q19 := r18
  obtain ⟨a_CONTINUES_AFTER_BREAK, v_CONTINUES_AFTER_BREAK⟩ := exa_v q2
  have EnCONTINUES_AFTER_BREAK : En_CONTINUES_AFTER_BREAK s s.heap a_CONTINUES_AFTER_BREAK := ⟨Sta.start v_CONTINUES_AFTER_BREAK (Or.inr ⟨(wd_3 hw), (wd_7 hw)⟩), Exa.start v_CONTINUES_AFTER_BREAK q2, Fld.start ((fld_at v_CONTINUES_AFTER_BREAK).symm.trans (own_eqI q4))⟩
  obtain ⟨a_CONTINUES, v_CONTINUES⟩ := exa_v q5
  have EnCONTINUES : En_CONTINUES s s.heap a_CONTINUES := ⟨Sta.start v_CONTINUES (Or.inr ⟨(wd_3 hw), (wd_10 hw)⟩), Exa.start v_CONTINUES q5, Fld.start ((fld_at v_CONTINUES).symm.trans (own_eqI q7))⟩
  obtain ⟨a_ENDS_WITH_BREAK, v_ENDS_WITH_BREAK⟩ := exa_v q8
  have EnENDS_WITH_BREAK : En_ENDS_WITH_BREAK s s.heap a_ENDS_WITH_BREAK := ⟨Sta.start v_ENDS_WITH_BREAK (Or.inr ⟨(wd_3 hw), (wd_17 hw)⟩), Exa.start v_ENDS_WITH_BREAK q8, Fld.start ((fld_at v_ENDS_WITH_BREAK).symm.trans (own_eqI q10))⟩
  obtain ⟨a_ENDS, v_ENDS⟩ := exa_v q11
  have EnENDS : En_ENDS s s.heap a_ENDS := ⟨Sta.start v_ENDS (Or.inr ⟨(wd_3 hw), (wd_18 hw)⟩), Exa.start v_ENDS q11, Fld.start ((fld_at v_ENDS).symm.trans (own_eqI q13))⟩
  obtain ⟨a_LAST_WITH_BREAK, v_LAST_WITH_BREAK⟩ := exa_v q14
  have EnLAST_WITH_BREAK : En_LAST_WITH_BREAK s s.heap a_LAST_WITH_BREAK := ⟨Sta.start v_LAST_WITH_BREAK (Or.inr ⟨(wd_3 hw), (wd_19 hw)⟩), Exa.start v_LAST_WITH_BREAK q14, Fld.start ((fld_at v_LAST_WITH_BREAK).symm.trans (own_eqI q16))⟩
  obtain ⟨a_LAST, v_LAST⟩ := exa_v q17
  have EnLAST : En_LAST s s.heap a_LAST := ⟨Sta.start v_LAST (Or.inr ⟨(wd_3 hw), (wd_20 hw)⟩), Exa.start v_LAST q17, Fld.start ((fld_at v_LAST).symm.trans (own_eqI q19))⟩
  obtain ⟨a_ALL, v_ALL⟩ := arr_v q0
  have S_ALL := Sta.start v_ALL (Or.inr ⟨(wd_3 hw), (wd_6 hw)⟩)
  obtain ⟨cl_ALL, Arr_ALL⟩ := Arr.start v_ALL q0
  have L_ALL := own_len 6 (own_eqI q1) v_ALL Arr_ALL.1 (by decide)
  have A_ALL : Ar s s.heap a_ALL (.object "com/example/ratatoskr/ratatoskr/gmtp/Marker") cl_ALL.cls [(.ref a_CONTINUES_AFTER_BREAK), (.ref a_CONTINUES), (.ref a_ENDS_WITH_BREAK), (.ref a_ENDS), (.ref a_LAST_WITH_BREAK), (.ref a_LAST)] := ⟨cl_ALL, Arr_ALL, rfl, own_list6 L_ALL (own_elem 0 (own_eqR q3 v_CONTINUES_AFTER_BREAK) v_ALL Arr_ALL.1 (by decide)) (own_elem 1 (own_eqR q6 v_CONTINUES) v_ALL Arr_ALL.1 (by decide)) (own_elem 2 (own_eqR q9 v_ENDS_WITH_BREAK) v_ALL Arr_ALL.1 (by decide)) (own_elem 3 (own_eqR q12 v_ENDS) v_ALL Arr_ALL.1 (by decide)) (own_elem 4 (own_eqR q15 v_LAST_WITH_BREAK) v_ALL Arr_ALL.1 (by decide)) (own_elem 5 (own_eqR q18 v_LAST) v_ALL Arr_ALL.1 (by decide))⟩
  obtain ⟨n, o, h1, h2, h3, _, L, rfl, ⟨N, -, rfl⟩, hq⟩ := law_met l s _ hw i0 i1 EnCONTINUES_AFTER_BREAK EnCONTINUES EnENDS_WITH_BREAK EnENDS EnLAST_WITH_BREAK EnLAST S_ALL A_ALL p e ha hc hk s m _ below hf ((Spec.applies_iff_loose hf).mp happ).1 ⟨rfl, State.Warmed39.refl s, rfl⟩ trivial
  exact ⟨n, _, h1, h2, h3, hpost _ _ _ _ _ _ ⟨Cond.after_iff.mpr rfl, Cond.after_iff.mpr (eq_i res_at (Term.int_eval (1)) rfl), trivial⟩ ⟨hq.1, hq.2.1, (hq.2.2.sift fun y hy => Or.inr (N y hy)).mono (by decide) (by decide)⟩⟩
theorem main_1_1 : Claimed_1_1 := comes_1 fun _ _ _ _ _ _ h hF => ⟨h.1, hF⟩
theorem main_1_2 : Claimed_1_2 := comes_1 fun _ _ _ _ _ _ h hF => ⟨h.2.1, hF⟩
end Jvm.Pilot.@@N@@
namespace Jvm.Pilot.@@N@@
open Jvm Jvm.ClassFile Sem Op Lib Jvm.Free Jvm.Stand Jvm.Pilot.@@N@@.Jvm.D
/-! MADE BY PROGRAM (witnessworld.py) out of the Statement's table words and the real class files: 15 classes; the members and pool entries that the words name. The judged class is class 1, her method 1. -/
namespace start1
open Jvm.ClassFile
def u (s : String) : CpInfo := .utf8 (stringToUtf16 s)
/-- a pool by its gaps: so many unusable entries, then the entry; so many at the end -/
def gap : Nat → List CpInfo → List CpInfo
  | 0, r => r
  | n + 1, r => .unusable :: gap n r
def poolList (es : List (Nat × CpInfo)) (last : Nat) : List CpInfo := es.foldr (fun e r => gap e.1 (e.2 :: r)) (gap last [])
def pool (es : List (Nat × CpInfo)) (last : Nat) : Array CpInfo := ⟨poolList es last⟩
def fileOf (pool : Array CpInfo) (this : Nat) (attrs : Array Attribute := #[]) (ms : Array MethodInfo := #[]) (fl : Nat := 33) (sup : Nat := 0) (ifs : Array Nat := #[]) (fds : Array FieldInfo := #[]) : ClassFile where
  minorVersion := 0
  majorVersion := 65
  constantPool := pool
  accessFlags := fl
  thisClass := this
  superClass := sup
  interfaces := ifs
  fields := fds
  methods := ms
  attributes := attrs
def plain (name : String) (sup : Option ClassId) : Class where
  name := name
  kind := .ordinary
  loader := none
  accessFlags := 33
  super := sup
  interfaces := #[]
  cf := none
  fields := #[]
  methods := #[]
  instanceTypes := #[]
  staticTypes := #[]
  resolved := #[]
  callSites := []
  init := .initialized
  statics := none
  mirror := none

def pool0 : Array CpInfo := pool [(5, u "<init>"), (0, u "()V"), (1, .class_ 10), (1, u "java/lang/Object")] 113

def k0m0 : Method := { name := "<init>", desc := "()V", sig := { parameters := [], returnType := none }, accessFlags := 1, code := none }
/-- java/lang/Object -/
def k0 : Class := { plain "java/lang/Object" none with
  accessFlags := 33
  interfaces := #[]
  cf := some (fileOf pool0 8 #[] #[{ accessFlags := 1, nameIndex := 5, descriptorIndex := 6, attributes := #[] }] 33 0 #[] #[])
  fields := #[]
  methods := #[k0m0]
  instanceTypes := #[]
  staticTypes := #[]
  resolved := Array.replicate 124 none
  statics := none }

def pool1 : Array CpInfo := pool [(2, .class_ 4), (1, u "java/lang/Object"), (0, u "<init>"), (0, u "()V"), (0, .methodref 8 9), (0, .class_ 10), (0, .nameAndType 11 12), (0, u "com/example/ratatoskr/ratatoskr/gmtp/Marker"), (0, u "of"), (0, u "(C)Lcom/example/ratatoskr/ratatoskr/gmtp/Marker;"), (0, .methodref 14 15), (0, .class_ 16), (0, .nameAndType 17 12), (0, u "com/example/ratatoskr/ratatoskr/gmtp/MarkerOfPinLaw"), (0, u "expected"), (0, .fieldref 8 19), (0, .nameAndType 20 21), (0, u "CONTINUES_AFTER_BREAK"), (0, u "Lcom/example/ratatoskr/ratatoskr/gmtp/Marker;"), (0, .fieldref 8 23), (0, .nameAndType 24 21), (0, u "CONTINUES"), (0, .fieldref 8 26), (0, .nameAndType 27 21), (0, u "ENDS_WITH_BREAK"), (0, .fieldref 8 29), (0, .nameAndType 30 21), (0, u "ENDS"), (0, .fieldref 8 32), (0, .nameAndType 33 21), (0, u "LAST_WITH_BREAK"), (0, .fieldref 8 35), (0, .nameAndType 36 21), (0, u "LAST"), (2, u "law"), (0, u "(II)Z")] 5

def k1m0 : Method := { name := "<init>", desc := "()V", sig := { parameters := [], returnType := none }, accessFlags := 1, code := none }
def k1c1 : Code := { maxStack := 4, maxLocals := 5, code := code, exceptionTable := #[], attributes := #[] }
def k1m1 : Method := { name := "law", desc := "(II)Z", sig := { parameters := [.int, .int], returnType := some .boolean }, accessFlags := 9, code := some k1c1 }
def k1c2 : Code := { maxStack := 2, maxLocals := 1, code := method_3_code, exceptionTable := #[], attributes := #[] }
def k1m2 : Method := { name := "expected", desc := "(C)Lcom/example/ratatoskr/ratatoskr/gmtp/Marker;", sig := { parameters := [.char], returnType := some (.object "com/example/ratatoskr/ratatoskr/gmtp/Marker") }, accessFlags := 10, code := some k1c2 }
/-- com/example/ratatoskr/ratatoskr/gmtp/MarkerOfPinLaw -/
def k1 : Class := { plain "com/example/ratatoskr/ratatoskr/gmtp/MarkerOfPinLaw" (some 0) with
  accessFlags := 49
  interfaces := #[]
  cf := some (fileOf pool1 14 #[] #[{ accessFlags := 1, nameIndex := 5, descriptorIndex := 6, attributes := #[] }, { accessFlags := 9, nameIndex := 39, descriptorIndex := 40, attributes := #[] }, { accessFlags := 10, nameIndex := 17, descriptorIndex := 12, attributes := #[] }] 49 2 #[] #[])
  fields := #[]
  methods := #[k1m0, k1m1, k1m2]
  instanceTypes := #[]
  staticTypes := #[]
  resolved := Array.replicate 46 none
  statics := none }

def pool2 : Array CpInfo := pool [(1, .class_ 2), (0, u "java/lang/constant/Constable"), (0, .class_ 4), (0, u "java/lang/Object")] 6

/-- java/lang/constant/Constable -/
def k2 : Class := { plain "java/lang/constant/Constable" (some 0) with
  accessFlags := 1537
  interfaces := #[]
  cf := some (fileOf pool2 1 #[] #[] 1537 3 #[] #[])
  fields := #[]
  methods := #[]
  instanceTypes := #[]
  staticTypes := #[]
  resolved := Array.replicate 11 none
  statics := none }

def pool3 : Array CpInfo := pool [(1, .class_ 2), (0, u "java/lang/Comparable"), (0, .class_ 4), (0, u "java/lang/Object")] 7

/-- java/lang/Comparable -/
def k3 : Class := { plain "java/lang/Comparable" (some 0) with
  accessFlags := 1537
  interfaces := #[]
  cf := some (fileOf pool3 1 #[] #[] 1537 3 #[] #[])
  fields := #[]
  methods := #[]
  instanceTypes := #[]
  staticTypes := #[]
  resolved := Array.replicate 12 none
  statics := none }

def pool4 : Array CpInfo := pool [(1, .class_ 2), (0, u "java/io/Serializable"), (0, .class_ 4), (0, u "java/lang/Object")] 2

/-- java/io/Serializable -/
def k4 : Class := { plain "java/io/Serializable" (some 0) with
  accessFlags := 1537
  interfaces := #[]
  cf := some (fileOf pool4 1 #[] #[] 1537 3 #[] #[])
  fields := #[]
  methods := #[]
  instanceTypes := #[]
  staticTypes := #[]
  resolved := Array.replicate 7 none
  statics := none }

def pool5 : Array CpInfo := pool [(2, .class_ 4), (1, u "java/lang/Enum"), (0, u "name"), (0, u "Ljava/lang/String;"), (2, u "ordinal"), (0, u "I"), (1, .class_ 14), (1, u "java/lang/Object"), (4, u "hash"), (86, .class_ 108), (1, u "java/lang/Enum$EnumDesc"), (2, .class_ 112), (0, u "java/lang/constant/Constable"), (0, .class_ 114), (0, u "java/lang/Comparable"), (0, .class_ 116), (0, u "java/io/Serializable")] 87

/-- java/lang/Enum -/
def k5 : Class := { plain "java/lang/Enum" (some 0) with
  accessFlags := 1057
  interfaces := #[2, 3, 4]
  cf := some (fileOf pool5 2 #[.nestMembers #[106]] #[] 1057 12 #[111, 113, 115] #[{ accessFlags := 18, nameIndex := 5, descriptorIndex := 6, attributes := #[] }, { accessFlags := 18, nameIndex := 9, descriptorIndex := 10, attributes := #[] }, { accessFlags := 2, nameIndex := 19, descriptorIndex := 10, attributes := #[] }])
  fields := #[{ name := "name", type := (.object "java/lang/String"), accessFlags := 18, slot := 0, constantValue := 0 }, { name := "ordinal", type := .int, accessFlags := 18, slot := 1, constantValue := 0 }, { name := "hash", type := .int, accessFlags := 2, slot := 2, constantValue := 0 }]
  methods := #[]
  instanceTypes := #[(.object "java/lang/String"), .int, .int]
  staticTypes := #[]
  resolved := Array.replicate 204 none
  statics := none }

def pool6 : Array CpInfo := pool [(1, .class_ 2), (0, u "com/example/ratatoskr/ratatoskr/gmtp/Marker"), (2, u "CONTINUES_AFTER_BREAK"), (0, u "Lcom/example/ratatoskr/ratatoskr/gmtp/Marker;"), (2, u "CONTINUES"), (2, u "ENDS_WITH_BREAK"), (2, u "ENDS"), (2, u "LAST_WITH_BREAK"), (2, u "LAST"), (2, u "$VALUES"), (0, u "[Lcom/example/ratatoskr/ratatoskr/gmtp/Marker;"), (6, .class_ 34), (1, u "java/lang/Enum"), (6, .fieldref 1 42), (0, .nameAndType 43 44), (0, u "symbol"), (0, u "C"), (2, u "lineBreak"), (0, u "Z"), (2, u "endsArgument"), (2, u "endsMessage"), (0, .fieldref 1 56), (0, .nameAndType 57 25), (0, u "ALL"), (22, u "of"), (0, u "(C)Lcom/example/ratatoskr/ratatoskr/gmtp/Marker;")] 8

def k6c0 : Code := { maxStack := 2, maxLocals := 5, code := prog_16_method_4_code, exceptionTable := #[], attributes := #[] }
def k6m0 : Method := { name := "of", desc := "(C)Lcom/example/ratatoskr/ratatoskr/gmtp/Marker;", sig := { parameters := [.char], returnType := some (.object "com/example/ratatoskr/ratatoskr/gmtp/Marker") }, accessFlags := 8, code := some k6c0 }
/-- com/example/ratatoskr/ratatoskr/gmtp/Marker -/
def k6 : Class := { plain "com/example/ratatoskr/ratatoskr/gmtp/Marker" (some 5) with
  accessFlags := 16432
  interfaces := #[]
  cf := some (fileOf pool6 1 #[] #[{ accessFlags := 8, nameIndex := 80, descriptorIndex := 81, attributes := #[] }] 16432 32 #[] #[{ accessFlags := 16409, nameIndex := 5, descriptorIndex := 6, attributes := #[] }, { accessFlags := 16409, nameIndex := 9, descriptorIndex := 6, attributes := #[] }, { accessFlags := 16409, nameIndex := 12, descriptorIndex := 6, attributes := #[] }, { accessFlags := 16409, nameIndex := 15, descriptorIndex := 6, attributes := #[] }, { accessFlags := 16409, nameIndex := 18, descriptorIndex := 6, attributes := #[] }, { accessFlags := 16409, nameIndex := 21, descriptorIndex := 6, attributes := #[] }, { accessFlags := 26, nameIndex := 57, descriptorIndex := 25, attributes := #[] }, { accessFlags := 16, nameIndex := 43, descriptorIndex := 44, attributes := #[] }, { accessFlags := 16, nameIndex := 47, descriptorIndex := 48, attributes := #[] }, { accessFlags := 16, nameIndex := 51, descriptorIndex := 48, attributes := #[] }, { accessFlags := 16, nameIndex := 54, descriptorIndex := 48, attributes := #[] }, { accessFlags := 4122, nameIndex := 24, descriptorIndex := 25, attributes := #[] }])
  fields := #[{ name := "CONTINUES_AFTER_BREAK", type := (.object "com/example/ratatoskr/ratatoskr/gmtp/Marker"), accessFlags := 16409, slot := 0, constantValue := 0 }, { name := "CONTINUES", type := (.object "com/example/ratatoskr/ratatoskr/gmtp/Marker"), accessFlags := 16409, slot := 1, constantValue := 0 }, { name := "ENDS_WITH_BREAK", type := (.object "com/example/ratatoskr/ratatoskr/gmtp/Marker"), accessFlags := 16409, slot := 2, constantValue := 0 }, { name := "ENDS", type := (.object "com/example/ratatoskr/ratatoskr/gmtp/Marker"), accessFlags := 16409, slot := 3, constantValue := 0 }, { name := "LAST_WITH_BREAK", type := (.object "com/example/ratatoskr/ratatoskr/gmtp/Marker"), accessFlags := 16409, slot := 4, constantValue := 0 }, { name := "LAST", type := (.object "com/example/ratatoskr/ratatoskr/gmtp/Marker"), accessFlags := 16409, slot := 5, constantValue := 0 }, { name := "ALL", type := (.array (.object "com/example/ratatoskr/ratatoskr/gmtp/Marker")), accessFlags := 26, slot := 6, constantValue := 0 }, { name := "symbol", type := .char, accessFlags := 16, slot := 3, constantValue := 0 }, { name := "lineBreak", type := .boolean, accessFlags := 16, slot := 4, constantValue := 0 }, { name := "endsArgument", type := .boolean, accessFlags := 16, slot := 5, constantValue := 0 }, { name := "endsMessage", type := .boolean, accessFlags := 16, slot := 6, constantValue := 0 }, { name := "$VALUES", type := (.array (.object "com/example/ratatoskr/ratatoskr/gmtp/Marker")), accessFlags := 4122, slot := 7, constantValue := 0 }]
  methods := #[k6m0]
  instanceTypes := #[(.object "java/lang/String"), .int, .int, .char, .boolean, .boolean, .boolean]
  staticTypes := #[(.object "com/example/ratatoskr/ratatoskr/gmtp/Marker"), (.object "com/example/ratatoskr/ratatoskr/gmtp/Marker"), (.object "com/example/ratatoskr/ratatoskr/gmtp/Marker"), (.object "com/example/ratatoskr/ratatoskr/gmtp/Marker"), (.object "com/example/ratatoskr/ratatoskr/gmtp/Marker"), (.object "com/example/ratatoskr/ratatoskr/gmtp/Marker"), (.array (.object "com/example/ratatoskr/ratatoskr/gmtp/Marker")), (.array (.object "com/example/ratatoskr/ratatoskr/gmtp/Marker"))]
  resolved := Array.replicate 90 none
  statics := some 0 }

def pool7 : Array CpInfo := pool [(1, u "java/lang/Cloneable"), (0, .class_ 1), (0, u "java/lang/Object"), (0, .class_ 3)] 3

/-- java/lang/Cloneable -/
def k7 : Class := { plain "java/lang/Cloneable" (some 0) with
  accessFlags := 1537
  interfaces := #[]
  cf := some (fileOf pool7 2 #[] #[] 1537 4 #[] #[])
  fields := #[]
  methods := #[]
  instanceTypes := #[]
  staticTypes := #[]
  resolved := Array.replicate 8 none
  statics := none }

/-- the primitive byte -/
def k8 : Class := { plain "byte" none with kind := .primitive 'B', accessFlags := 0x411 }
/-- [B -/
def k9 : Class := { plain "[B" (some 0) with kind := .array 8 .byte, interfaces := #[7, 4], accessFlags := 1041 }

/-- the primitive char -/
def k10 : Class := { plain "char" none with kind := .primitive 'C', accessFlags := 0x411 }
/-- [C -/
def k11 : Class := { plain "[C" (some 0) with kind := .array 10 .char, interfaces := #[7, 4], accessFlags := 1041 }

/-- the primitive int -/
def k12 : Class := { plain "int" none with kind := .primitive 'I', accessFlags := 0x411 }
/-- [I -/
def k13 : Class := { plain "[I" (some 0) with kind := .array 12 .int, interfaces := #[7, 4], accessFlags := 1041 }

/-- [Lcom/example/ratatoskr/ratatoskr/gmtp/Marker; -/
def k14 : Class := { plain "[Lcom/example/ratatoskr/ratatoskr/gmtp/Marker;" (some 0) with kind := .array 6 (.object "com/example/ratatoskr/ratatoskr/gmtp/Marker"), interfaces := #[7, 4], accessFlags := 1041 }

def heap : Heap := #[{ cls := 6, slots := #[.ref 2, .ref 3, .ref 4, .ref 5, .ref 6, .ref 7, .ref 1, .null], vm := .statics 6 },
  { cls := 14, slots := #[.ref 2, .ref 3, .ref 4, .ref 5, .ref 6, .ref 7], vm := .none },
  { cls := 6, slots := #[.null, .int 0, .int 0, .int 43, .int 0, .int 0, .int 0], vm := .none },
  { cls := 6, slots := #[.null, .int 0, .int 0, .int 45, .int 0, .int 0, .int 0], vm := .none },
  { cls := 6, slots := #[.null, .int 0, .int 0, .int 59, .int 0, .int 0, .int 0], vm := .none },
  { cls := 6, slots := #[.null, .int 0, .int 0, .int 44, .int 0, .int 0, .int 0], vm := .none },
  { cls := 6, slots := #[.null, .int 0, .int 0, .int 46, .int 0, .int 0, .int 0], vm := .none },
  { cls := 6, slots := #[.null, .int 0, .int 0, .int 32, .int 0, .int 0, .int 0], vm := .none }]
def classes : Array Class := #[k0, k1, k2, k3, k4, k5, k6, k7, k8, k9, k10, k11, k12, k13, k14]
def interned : List (Array UInt16 × Addr) := []
def slotsUsed : Nat := 56
def theMethod : MethodId := ⟨1, 1⟩
def args0 : Array Value := #[.int 3, .int 4]
def aboutOver (below : List Frame) : State where
  vm := { classes := classes, interned := interned.toArray }
  heap := heap
  slotsUsed := slotsUsed
  threads := #[{ frames := .invoking theMethod args0 :: below }]
def below0 : List Frame := [.native { method := ⟨0, 0⟩, args := #[] }]
def about1 : State := aboutOver below0
def p0 : Program := .bare "" "" ""
def e0 : Env := launch0.env 0 0 0
theorem w_frames : about1.frames = Frame.invoking theMethod args0 :: below0 := rfl
set_option maxRecDepth 65536 in
theorem w_args : argsFit about1.vm theMethod args0 = true := by decide +kernel
set_option maxRecDepth 65536 in
theorem w_heap : heapFits about1 = true := by decide +kernel
set_option maxRecDepth 65536 in
theorem w_runnable : about1.curStatus? = some .runnable := by decide +kernel
set_option maxRecDepth 65536 in
theorem w_alone : about1.alone = true := by decide +kernel
set_option maxRecDepth 65536 in
theorem w_named : about1.methodNamed? x = some theMethod := by decide +kernel
set_option maxRecDepth 65536 in
theorem w_hears : about1.hears theMethod below0 = true := by decide +kernel
set_option maxRecDepth 65536 in
theorem w_ripe : about1.ripe theMethod args0 below0 = true := by decide +kernel
theorem w_running : about1.status = .running := rfl
set_option maxRecDepth 65536 in
theorem w_room : about1.hasRoom e0.platform room_1 = true :=
  launch0.hasRoom_least _ room_1 (by decide +kernel) (by decide +kernel) (by decide +kernel) (by decide +kernel) (by decide +kernel) (by decide +kernel)
theorem allAtoms_all (ts : List Jvm.Cond) (a : Array Jvm.Value) (st : Jvm.State) : (allAtoms ts).before a st = ts.all (fun c => c.before a st) := by
  induction ts with
  | nil => rfl
  | cons c t ih =>
    show (Jvm.Cond.and c (allAtoms t)).before a st = _
    rw [Jvm.Cond.before_and, ih, List.all_cons]
def words1 : List Jvm.Cond := Jvm.Cond.code x code maxLocals ret :: tables_1
/-- a 'code' word, met by the world's own term for the bytes: nothing is compared byte by byte -/
theorem code_word {y : MethodName} {bytes : ByteArray} {mx : Nat} {rt : Option FieldType} {a : Array Value} {s : State} {m : MethodId} {meth : Method} {c : Code} (h1 : s.methodNamed? y = some m) (h2 : s.vm.method? m = some meth) (h3 : meth.code = some c) (h4 : c.code = bytes)
    (h5 : (c.maxLocals == mx && c.exceptionTable.isEmpty && decide (c.maxStack ≤ mostOperands) && decide (meth.sig.returnType = rt) && !meth.locks && decide (parseMethodDescriptor y.desc = some meth.sig)) = true) : (Jvm.Cond.code y bytes mx rt).before a s = true := by
  simp only [Bool.and_eq_true, beq_iff_eq, Bool.not_eq_true', decide_eq_true_eq] at h5
  obtain ⟨⟨⟨⟨⟨g1, g2⟩, g3⟩, g4⟩, g5⟩, g6⟩ := h5
  simp [Cond.before, Cond.holds, Cond.value, h1, h2, h3, h4, g1, g2, g3, g4, g5, g6]
def isCode : Jvm.Cond → Bool
  | .code _ _ _ _ => true
  | _ => false
theorem all_split {L : List Jvm.Cond} {P : Jvm.Cond → Bool} (h1 : L.all (fun c => isCode c || P c) = true) (h2 : ∀ c ∈ L.filter isCode, P c = true) : L.all P = true := by
  refine List.all_eq_true.mpr fun c hc => ?_
  have h := List.all_eq_true.mp h1 c hc
  rcases Bool.eq_false_or_eq_true (isCode c) with hi | hi
  · exact h2 c (List.mem_filter.mpr ⟨hc, hi⟩)
  · simpa [hi] using h
set_option maxRecDepth 65536 in
theorem w_c0 : (Jvm.Cond.code x code maxLocals ret).before args0 about1 = true := code_word (m := ⟨1, 1⟩) (meth := k1m1) (c := k1c1) (by decide +kernel) rfl rfl rfl (by decide +kernel)
set_option maxRecDepth 65536 in
theorem w_c1 : (Jvm.Cond.code ({ cls := "com/example/ratatoskr/ratatoskr/gmtp/Marker", name := "of", desc := "(C)Lcom/example/ratatoskr/ratatoskr/gmtp/Marker;" } : Jvm.MethodName) prog_16_method_4_code (5 : Nat) (Option.some (Jvm.ClassFile.FieldType.object "com/example/ratatoskr/ratatoskr/gmtp/Marker"))).before args0 about1 = true := code_word (m := ⟨6, 0⟩) (meth := k6m0) (c := k6c0) (by decide +kernel) rfl rfl rfl (by decide +kernel)
set_option maxRecDepth 65536 in
theorem w_c2 : (Jvm.Cond.code ({ cls := "com/example/ratatoskr/ratatoskr/gmtp/MarkerOfPinLaw", name := "expected", desc := "(C)Lcom/example/ratatoskr/ratatoskr/gmtp/Marker;" } : Jvm.MethodName) method_3_code (1 : Nat) (Option.some (Jvm.ClassFile.FieldType.object "com/example/ratatoskr/ratatoskr/gmtp/Marker"))).before args0 about1 = true := code_word (m := ⟨1, 2⟩) (meth := k1m2) (c := k1c2) (by decide +kernel) rfl rfl rfl (by decide +kernel)
def codes1 : List Jvm.Cond := [Jvm.Cond.code x code maxLocals ret, Jvm.Cond.code ({ cls := "com/example/ratatoskr/ratatoskr/gmtp/Marker", name := "of", desc := "(C)Lcom/example/ratatoskr/ratatoskr/gmtp/Marker;" } : Jvm.MethodName) prog_16_method_4_code (5 : Nat) (Option.some (Jvm.ClassFile.FieldType.object "com/example/ratatoskr/ratatoskr/gmtp/Marker")), Jvm.Cond.code ({ cls := "com/example/ratatoskr/ratatoskr/gmtp/MarkerOfPinLaw", name := "expected", desc := "(C)Lcom/example/ratatoskr/ratatoskr/gmtp/Marker;" } : Jvm.MethodName) method_3_code (1 : Nat) (Option.some (Jvm.ClassFile.FieldType.object "com/example/ratatoskr/ratatoskr/gmtp/Marker"))]
set_option maxRecDepth 65536 in
theorem codes_eq : words1.filter isCode = codes1 := rfl
theorem w_codes : ∀ c ∈ words1.filter isCode, c.before args0 about1 = true := by
  rw [codes_eq]
  intro c hc
  simp only [codes1, List.mem_cons, List.not_mem_nil, or_false] at hc
  rcases hc with rfl | rfl | rfl
  · exact w_c0
  · exact w_c1
  · exact w_c2
set_option maxRecDepth 65536 in
theorem w_t1 : (words1.take 24).all (fun c => isCode c || c.before args0 about1) = true := by decide +kernel
set_option maxRecDepth 65536 in
theorem w_t2 : (words1.drop 24).all (fun c => isCode c || c.before args0 about1) = true := by decide +kernel
theorem w_tables : (allAtoms (Jvm.Cond.code x code maxLocals ret :: tables_1)).before args0 about1 = true := by
  rw [allAtoms_all]
  show words1.all (fun c => c.before args0 about1) = true
  refine all_split ?_ w_codes
  rw [← List.take_append_drop 24 words1, List.all_append, w_t1, w_t2]
  rfl
set_option maxRecDepth 65536 in
theorem w_case : (Jvm.Cond.and given_1 narrow_1).before args0 about1 = true := by decide +kernel
theorem w_applies : (headSpec (Jvm.Cond.code x code maxLocals ret :: tables_1) room_1).applies x e0.platform about1 = true :=
  (Spec.applies_iff w_frames).mpr ⟨w_running, w_runnable, w_alone, w_named, w_hears, w_ripe, w_room, w_tables⟩
theorem atStart : AtStart classFile x code maxLocals ret World_1 tables_1 room_1 Calls_1 rest_1 Pre_1 launch0 p0 e0 about1 theMethod args0 below0 :=
  ⟨lists_1, trivial, launch0.admits_env _ _ _, launch0.least_env, fairChoices_fair.cas, fairChoices_fair.clock, w_frames, w_args, w_heap, w_applies, trivial, trivial, w_case⟩
end start1
theorem witness_1 : WitnessClaimed_1 := ⟨start1.p0, start1.e0, start1.about1, start1.theMethod, start1.args0, start1.below0, start1.atStart⟩
end Jvm.Pilot.@@N@@
