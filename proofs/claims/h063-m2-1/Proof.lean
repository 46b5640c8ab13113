import JvmDerived
import JvmDerived.Pilot.@@N@@Statement
import JvmDerived.Pilot.@@N@@Code
set_option linter.unusedVariables false
set_option linter.unusedSimpArgs false
namespace Jvm.Pilot.@@N@@
open Jvm Jvm.ClassFile Sem Op Lib Jvm.Free Jvm.Stand Jvm.LawKit Jvm.RoadKit Bundle Jvm.Pilot.@@N@@.Jvm.D
section OwnGo
variable {p : Program} {l : Launch} {e : Env} {R : Room} {s : State} {m : MethodId} {args : Array Value} {below : List Frame} {meth : Method} {c : Code} {Z : State} {n0 kc ks : Nat} {Q : Option Value → Heap → Prop} {y : MethodName} {bytes : ByteArray} {maxL : Nat} {ret : Option FieldType} {h h' : Heap} {cs sl : Nat} {pc pc' : Nat} {Ls Ls' : Array Slot} {st : List Value} {a0 : Array Value}
def Ctx (p : Program) (s : State) (m : MethodId) (meth : Method) (c : Code) (Z : State) (y : MethodName) (bytes : ByteArray) (maxL : Nat) (ret : Option FieldType) : Prop :=
  p.tables.exec = Jvm.exec ∧ c.code = bytes ∧ c.maxLocals = maxL ∧ meth.sig.returnType = ret ∧ meth.locks = false ∧ Z.Warmed39 s.vm ∧ s.vm.findClass y.cls = some m.cls ∧ meth.name = y.name
def Go (p : Program) (l : Launch) (e : Env) (R : Room) (s : State) (m : MethodId) (args : Array Value) (below : List Frame) (meth : Method) (c : Code) (Z : State) (n0 : Nat) (Q : Option Value → Heap → Prop) (kc ks : Nat) (h : Heap) (cs sl : Nat) (g : JFrame) : Prop :=
  ∀ (T : State) (L : List Loc), Fr n0 L → Old Z n0 h → Stand p l e R s m args below meth c T L cs sl → T.heap = h →
    ∃ (U : State) (v : Option Value) (L' : List Loc), Steps p.tables e below (T.setTop g) U ∧ U.status = .running ∧ Ended U below (.returned v) ∧ Fr n0 L' ∧ Old Z n0 U.heap ∧ s.WarmedH U.vm ∧ s.sameButNew ({ U with vm := s.vm } : State) L' kc ks ∧ Q v U.heap
def Met (l : Launch) (Z : State) (n0 : Nat) (y : MethodName) (bytes : ByteArray) (maxL : Nat) (ret : Option FieldType) (ws : List Jvm.Cond) (rm : Room) (as : Array Value) (h : Heap) (Q : Option Value → Heap → Prop) : Prop :=
  MetFree l y (head1 (Jvm.Cond.code y bytes maxL ret :: ws) rm) (fun a U => a = as ∧ Z.Warmed39 U.vm ∧ U.heap = h) (fun _ _ _ _ _ => True) (fun _ U o U' => ∃ v L, o = .returned v ∧ (Fr n0 L ∧ Old Z n0 U'.heap ∧ Q v U'.heap) ∧ FrameEnd U o U' L rm.cells rm.slots)
theorem met_of {ws : List Jvm.Cond} {rm : Room} {as : Array Value} (hpl : plainFor y = true) (hef : ∀ m, entryFrame m as maxL = mkF m 0 Ls []) (O : Old Z n0 h)
    (body : ∀ p e s m below meth c, Ctx p s m meth c Z y bytes maxL ret → Go p l e rm s m as below meth c Z n0 Q rm.cells rm.slots h 0 0 (mkF m 0 Ls [])) : Met l Z n0 y bytes maxL ret ws rm as h Q := by
  refine MetFree.of_bodySF hpl hisR ?_
  intro p e s m args below meth c s₁ Bd hml hP hK
  obtain ⟨rfl, hZ, hh⟩ := hP
  have X0 := Stand.of_body Bd
  obtain ⟨U, v, L', h1, h2, h3, h4, h5, h6, h7, h8⟩ := body p e s m below meth c ⟨Bd.exec, Bd.bytes, hml, Bd.returns, Bd.notSynchronized, hZ, findClass_of_methodNamed Bd.named, (name_of_methodNamed Bd.named Bd.method).1⟩ s₁ [] (Fr.nil n0) O X0 (by rw [← hh, Bd.state]; rfl)
  exact ⟨U, _, castTop (hef m) h1, h2, h3, v, L', rfl, ⟨h4, h5, h8⟩, ⟨_, rfl⟩, h6, h7⟩
theorem Met.mono {ws : List Jvm.Cond} {rm : Room} {as : Array Value} {Q' : Option Value → Heap → Prop} (M : Met l Z n0 y bytes maxL ret ws rm as h Q) (q : ∀ v h', Q v h' → Q' v h') : Met l Z n0 y bytes maxL ret ws rm as h Q' := by
  unfold Met at M ⊢
  refine MetFree.mono M (fun _ _ h => h) (fun _ _ _ _ _ h => h) ?_
  rintro _ _ _ _ _ ⟨v, L, h1, ⟨h2, h3, h4⟩, h5⟩
  exact ⟨v, L, h1, ⟨h2, h3, q _ _ h4⟩, h5⟩
theorem go_step {g g' : JFrame} (K : Go p l e R s m args below meth c Z n0 Q kc ks h cs sl g') (hs : ∀ T t, At T m c below → Steps p.tables e below (T.setTop g') t → Steps p.tables e below (T.setTop g) t) : Go p l e R s m args below meth c Z n0 Q kc ks h cs sl g := fun T L hL O X eT => by
  obtain ⟨U, v, L', h1, r⟩ := K T L hL O X eT
  exact ⟨U, v, L', hs T U X.here h1, r⟩
theorem go_stepX {g g' : JFrame} (K : Go p l e R s m args below meth c Z n0 Q kc ks h cs sl g') (hs : ∀ T t L, Stand p l e R s m args below meth c T L cs sl → T.heap = h → Steps p.tables e below (T.setTop g') t → Steps p.tables e below (T.setTop g) t) : Go p l e R s m args below meth c Z n0 Q kc ks h cs sl g := fun T L hL O X eT => by
  obtain ⟨U, v, L', h1, r⟩ := K T L hL O X eT
  exact ⟨U, v, L', hs T U L X eT h1, r⟩
theorem go_stepT {g g' : JFrame} (K : Go p l e R s m args below meth c Z n0 Q kc ks h cs sl g') (hs : ∀ T L, Stand p l e R s m args below meth c T L cs sl → T.heap = h → ∃ T', Stand p l e R s m args below meth c T' L cs sl ∧ T'.heap = h ∧ ∀ t, Steps p.tables e below (T'.setTop g') t → Steps p.tables e below (T.setTop g) t) : Go p l e R s m args below meth c Z n0 Q kc ks h cs sl g := fun T L hL O X eT => by
  obtain ⟨T', X', e', hs'⟩ := hs T L X eT
  obtain ⟨U, v, L', h1, r⟩ := K T' L hL O X' e'
  exact ⟨U, v, L', hs' U h1, r⟩
theorem go_old {g : JFrame} (K : Old Z n0 h → Go p l e R s m args below meth c Z n0 Q kc ks h cs sl g) : Go p l e R s m args below meth c Z n0 Q kc ks h cs sl g := fun T L hL O => K O T L hL O
theorem go_more {g : JFrame} {cs' sl' : Nat} (hc : cs ≤ cs') (hs : sl ≤ sl') (K : Go p l e R s m args below meth c Z n0 Q kc ks h cs' sl' g) : Go p l e R s m args below meth c Z n0 Q kc ks h cs sl g := fun T L hL O X eT => K T L hL O (X.more hc hs) eT
theorem go_st {st' : List Value} (e0 : st = st') (K : Go p l e R s m args below meth c Z n0 Q kc ks h cs sl (mkF m pc Ls st')) : Go p l e R s m args below meth c Z n0 Q kc ks h cs sl (mkF m pc Ls st) := e0 ▸ K
theorem go_ls (e0 : Ls = Ls') (K : Go p l e R s m args below meth c Z n0 Q kc ks h cs sl (mkF m pc Ls' st)) : Go p l e R s m args below meth c Z n0 Q kc ks h cs sl (mkF m pc Ls st) := e0 ▸ K
theorem go_h {h' : Heap} {g : JFrame} (e0 : h = h') (K : Go p l e R s m args below meth c Z n0 Q kc ks h' cs sl g) : Go p l e R s m args below meth c Z n0 Q kc ks h cs sl g := e0 ▸ K
theorem go_iload (C : Ctx p s m meth c Z y bytes maxL ret) {k : Nat} {x : Int32} (hd : decode bytes pc = .ok (.iload k, 2)) (hl : Ls[k]? = some (.val (.int x))) (hp : pc + 2 = pc') (K : Go p l e R s m args below meth c Z n0 Q kc ks h cs sl (mkF m pc' Ls (.int x :: st))) : Go p l e R s m args below meth c Z n0 Q kc ks h cs sl (mkF m pc Ls (st)) := by
  subst hp
  exact go_step K fun T t a k => XS.iload a C.1 rfl (hb C.2.1 hd) hl k
theorem go_iloadN (C : Ctx p s m meth c Z y bytes maxL ret) {k : Fin 4} {x : Int32} (hd : decode bytes pc = .ok (.iload_n k, 1)) (hl : Ls[k.val]? = some (.val (.int x))) (hp : pc + 1 = pc') (K : Go p l e R s m args below meth c Z n0 Q kc ks h cs sl (mkF m pc' Ls (.int x :: st))) : Go p l e R s m args below meth c Z n0 Q kc ks h cs sl (mkF m pc Ls (st)) := by
  subst hp
  exact go_step K fun T t a k => XS.iloadN a C.1 rfl (hb C.2.1 hd) hl k
theorem go_lload (C : Ctx p s m meth c Z y bytes maxL ret) {k : Nat} {x : Int64} (hd : decode bytes pc = .ok (.lload k, 2)) (hl : Ls[k]? = some (.val (.long x))) (hp : pc + 2 = pc') (K : Go p l e R s m args below meth c Z n0 Q kc ks h cs sl (mkF m pc' Ls (.long x :: st))) : Go p l e R s m args below meth c Z n0 Q kc ks h cs sl (mkF m pc Ls (st)) := by
  subst hp
  exact go_step K fun T t a k => XS.lload a C.1 rfl (hb C.2.1 hd) hl k
theorem go_lloadN (C : Ctx p s m meth c Z y bytes maxL ret) {k : Fin 4} {x : Int64} (hd : decode bytes pc = .ok (.lload_n k, 1)) (hl : Ls[k.val]? = some (.val (.long x))) (hp : pc + 1 = pc') (K : Go p l e R s m args below meth c Z n0 Q kc ks h cs sl (mkF m pc' Ls (.long x :: st))) : Go p l e R s m args below meth c Z n0 Q kc ks h cs sl (mkF m pc Ls (st)) := by
  subst hp
  exact go_step K fun T t a k => XS.lloadN a C.1 rfl (hb C.2.1 hd) hl k
theorem go_aload (C : Ctx p s m meth c Z y bytes maxL ret) {k : Nat} {v : Value} (hd : decode bytes pc = .ok (.aload k, 2)) (hl : Ls[k]? = some (.val v)) (hv : v.isRef = true) (hp : pc + 2 = pc') (K : Go p l e R s m args below meth c Z n0 Q kc ks h cs sl (mkF m pc' Ls (v :: st))) : Go p l e R s m args below meth c Z n0 Q kc ks h cs sl (mkF m pc Ls (st)) := by
  subst hp
  exact go_step K fun T t a k => XS.aload a C.1 rfl (hb C.2.1 hd) hl hv k
theorem go_aloadN (C : Ctx p s m meth c Z y bytes maxL ret) {k : Fin 4} {v : Value} (hd : decode bytes pc = .ok (.aload_n k, 1)) (hl : Ls[k.val]? = some (.val v)) (hv : v.isRef = true) (hp : pc + 1 = pc') (K : Go p l e R s m args below meth c Z n0 Q kc ks h cs sl (mkF m pc' Ls (v :: st))) : Go p l e R s m args below meth c Z n0 Q kc ks h cs sl (mkF m pc Ls (st)) := by
  subst hp
  exact go_step K fun T t a k => XS.aloadN a C.1 rfl (hb C.2.1 hd) hl hv k
theorem go_istore (C : Ctx p s m meth c Z y bytes maxL ret) {k : Nat} {x : Int32} (hd : decode bytes pc = .ok (.istore k, 2)) (hl : storeLocals Ls k (.int x) = some Ls') (hp : pc + 2 = pc') (K : Go p l e R s m args below meth c Z n0 Q kc ks h cs sl (mkF m pc' Ls' (st))) : Go p l e R s m args below meth c Z n0 Q kc ks h cs sl (mkF m pc Ls (.int x :: st)) := by
  subst hp
  exact go_step K fun T t a k => XS.istore a C.1 rfl (hb C.2.1 hd) rfl hl k
theorem go_istoreN (C : Ctx p s m meth c Z y bytes maxL ret) {k : Fin 4} {x : Int32} (hd : decode bytes pc = .ok (.istore_n k, 1)) (hl : storeLocals Ls k.val (.int x) = some Ls') (hp : pc + 1 = pc') (K : Go p l e R s m args below meth c Z n0 Q kc ks h cs sl (mkF m pc' Ls' (st))) : Go p l e R s m args below meth c Z n0 Q kc ks h cs sl (mkF m pc Ls (.int x :: st)) := by
  subst hp
  exact go_step K fun T t a k => XS.istoreN a C.1 rfl (hb C.2.1 hd) rfl hl k
theorem go_lstore (C : Ctx p s m meth c Z y bytes maxL ret) {k : Nat} {x : Int64} (hd : decode bytes pc = .ok (.lstore k, 2)) (hl : storeLocals Ls k (.long x) = some Ls') (hp : pc + 2 = pc') (K : Go p l e R s m args below meth c Z n0 Q kc ks h cs sl (mkF m pc' Ls' (st))) : Go p l e R s m args below meth c Z n0 Q kc ks h cs sl (mkF m pc Ls (.long x :: st)) := by
  subst hp
  exact go_step K fun T t a k => XS.lstore a C.1 rfl (hb C.2.1 hd) rfl hl k
theorem go_lstoreN (C : Ctx p s m meth c Z y bytes maxL ret) {k : Fin 4} {x : Int64} (hd : decode bytes pc = .ok (.lstore_n k, 1)) (hl : storeLocals Ls k.val (.long x) = some Ls') (hp : pc + 1 = pc') (K : Go p l e R s m args below meth c Z n0 Q kc ks h cs sl (mkF m pc' Ls' (st))) : Go p l e R s m args below meth c Z n0 Q kc ks h cs sl (mkF m pc Ls (.long x :: st)) := by
  subst hp
  exact go_step K fun T t a k => XS.lstoreN a C.1 rfl (hb C.2.1 hd) rfl hl k
theorem go_astore (C : Ctx p s m meth c Z y bytes maxL ret) {k : Nat} {v : Value} (hd : decode bytes pc = .ok (.astore k, 2)) (hv : v.isRef = true) (hl : storeLocals Ls k v = some Ls') (hp : pc + 2 = pc') (K : Go p l e R s m args below meth c Z n0 Q kc ks h cs sl (mkF m pc' Ls' (st))) : Go p l e R s m args below meth c Z n0 Q kc ks h cs sl (mkF m pc Ls (v :: st)) := by
  subst hp
  exact go_step K fun T t a k => XS.astore a C.1 rfl (hb C.2.1 hd) rfl hv hl k
theorem go_astoreN (C : Ctx p s m meth c Z y bytes maxL ret) {k : Fin 4} {v : Value} (hd : decode bytes pc = .ok (.astore_n k, 1)) (hv : v.isRef = true) (hl : storeLocals Ls k.val v = some Ls') (hp : pc + 1 = pc') (K : Go p l e R s m args below meth c Z n0 Q kc ks h cs sl (mkF m pc' Ls' (st))) : Go p l e R s m args below meth c Z n0 Q kc ks h cs sl (mkF m pc Ls (v :: st)) := by
  subst hp
  exact go_step K fun T t a k => XS.astoreN a C.1 rfl (hb C.2.1 hd) rfl hv hl k
theorem go_iinc (C : Ctx p s m meth c Z y bytes maxL ret) {k : Nat} {cst : Int} {x : Int32} (hd : decode bytes pc = .ok (.iinc k cst, 3)) (hl : Ls[k]? = some (.val (.int x))) (hl' : storeLocals Ls k (.int (x + Int32.ofInt cst)) = some Ls') (hp : pc + 3 = pc') (K : Go p l e R s m args below meth c Z n0 Q kc ks h cs sl (mkF m pc' Ls' (st))) : Go p l e R s m args below meth c Z n0 Q kc ks h cs sl (mkF m pc Ls (st)) := by
  subst hp
  exact go_step K fun T t a k => XS.iinc a C.1 rfl (hb C.2.1 hd) hl hl' k
theorem go_iconst (C : Ctx p s m meth c Z y bytes maxL ret) {i : Int} {z : Int32} (hd : decode bytes pc = .ok (.iconst i, 1)) (hz : Int32.ofInt i = z) (hp : pc + 1 = pc') (K : Go p l e R s m args below meth c Z n0 Q kc ks h cs sl (mkF m pc' Ls (.int z :: st))) : Go p l e R s m args below meth c Z n0 Q kc ks h cs sl (mkF m pc Ls (st)) := by
  subst hp hz
  exact go_step K fun T t a k => XS.iconst a C.1 rfl (hb C.2.1 hd) k
theorem go_bipush (C : Ctx p s m meth c Z y bytes maxL ret) {i : Int} {z : Int32} (hd : decode bytes pc = .ok (.bipush i, 2)) (hz : (Int8.ofInt i).toInt32 = z) (hp : pc + 2 = pc') (K : Go p l e R s m args below meth c Z n0 Q kc ks h cs sl (mkF m pc' Ls (.int z :: st))) : Go p l e R s m args below meth c Z n0 Q kc ks h cs sl (mkF m pc Ls (st)) := by
  subst hp hz
  exact go_step K fun T t a k => XS.bipush a C.1 rfl (hb C.2.1 hd) k
theorem go_sipush (C : Ctx p s m meth c Z y bytes maxL ret) {i : Int} {z : Int32} (hd : decode bytes pc = .ok (.sipush i, 3)) (hz : (Int16.ofInt i).toInt32 = z) (hp : pc + 3 = pc') (K : Go p l e R s m args below meth c Z n0 Q kc ks h cs sl (mkF m pc' Ls (.int z :: st))) : Go p l e R s m args below meth c Z n0 Q kc ks h cs sl (mkF m pc Ls (st)) := by
  subst hp hz
  exact go_step K fun T t a k => XS.sipush a C.1 rfl (hb C.2.1 hd) k
theorem go_lconst (C : Ctx p s m meth c Z y bytes maxL ret) {k : Fin 2} {z : Int64} (hd : decode bytes pc = .ok (.lconst k, 1)) (hz : Int64.ofNat k = z) (hp : pc + 1 = pc') (K : Go p l e R s m args below meth c Z n0 Q kc ks h cs sl (mkF m pc' Ls (.long z :: st))) : Go p l e R s m args below meth c Z n0 Q kc ks h cs sl (mkF m pc Ls (st)) := by
  subst hp hz
  exact go_step K fun T t a k => XS.lconst a C.1 rfl (hb C.2.1 hd) k
theorem go_aconstNull (C : Ctx p s m meth c Z y bytes maxL ret)  (hd : decode bytes pc = .ok (.aconst_null, 1))  (hp : pc + 1 = pc') (K : Go p l e R s m args below meth c Z n0 Q kc ks h cs sl (mkF m pc' Ls (.null :: st))) : Go p l e R s m args below meth c Z n0 Q kc ks h cs sl (mkF m pc Ls (st)) := by
  subst hp
  exact go_step K fun T t a k => XS.aconstNull a C.1 rfl (hb C.2.1 hd) k
theorem go_iadd (C : Ctx p s m meth c Z y bytes maxL ret) {x y : Int32} (hd : decode bytes pc = .ok (.iadd, 1))  (hp : pc + 1 = pc') (K : Go p l e R s m args below meth c Z n0 Q kc ks h cs sl (mkF m pc' Ls (.int (x + y) :: st))) : Go p l e R s m args below meth c Z n0 Q kc ks h cs sl (mkF m pc Ls (.int y :: .int x :: st)) := by
  subst hp
  exact go_step K fun T t a k => XS.iadd a C.1 rfl (hb C.2.1 hd) rfl k
theorem go_ladd (C : Ctx p s m meth c Z y bytes maxL ret) {x y : Int64} (hd : decode bytes pc = .ok (.ladd, 1))  (hp : pc + 1 = pc') (K : Go p l e R s m args below meth c Z n0 Q kc ks h cs sl (mkF m pc' Ls (.long (x + y) :: st))) : Go p l e R s m args below meth c Z n0 Q kc ks h cs sl (mkF m pc Ls (.long y :: .long x :: st)) := by
  subst hp
  exact go_step K fun T t a k => XS.ladd a C.1 rfl (hb C.2.1 hd) rfl k
theorem go_isub (C : Ctx p s m meth c Z y bytes maxL ret) {x y : Int32} (hd : decode bytes pc = .ok (.isub, 1))  (hp : pc + 1 = pc') (K : Go p l e R s m args below meth c Z n0 Q kc ks h cs sl (mkF m pc' Ls (.int (x - y) :: st))) : Go p l e R s m args below meth c Z n0 Q kc ks h cs sl (mkF m pc Ls (.int y :: .int x :: st)) := by
  subst hp
  exact go_step K fun T t a k => XS.isub a C.1 rfl (hb C.2.1 hd) rfl k
theorem go_lsub (C : Ctx p s m meth c Z y bytes maxL ret) {x y : Int64} (hd : decode bytes pc = .ok (.lsub, 1))  (hp : pc + 1 = pc') (K : Go p l e R s m args below meth c Z n0 Q kc ks h cs sl (mkF m pc' Ls (.long (x - y) :: st))) : Go p l e R s m args below meth c Z n0 Q kc ks h cs sl (mkF m pc Ls (.long y :: .long x :: st)) := by
  subst hp
  exact go_step K fun T t a k => XS.lsub a C.1 rfl (hb C.2.1 hd) rfl k
theorem go_imul (C : Ctx p s m meth c Z y bytes maxL ret) {x y : Int32} (hd : decode bytes pc = .ok (.imul, 1))  (hp : pc + 1 = pc') (K : Go p l e R s m args below meth c Z n0 Q kc ks h cs sl (mkF m pc' Ls (.int (x * y) :: st))) : Go p l e R s m args below meth c Z n0 Q kc ks h cs sl (mkF m pc Ls (.int y :: .int x :: st)) := by
  subst hp
  exact go_step K fun T t a k => XS.imul a C.1 rfl (hb C.2.1 hd) rfl k
theorem go_lmul (C : Ctx p s m meth c Z y bytes maxL ret) {x y : Int64} (hd : decode bytes pc = .ok (.lmul, 1))  (hp : pc + 1 = pc') (K : Go p l e R s m args below meth c Z n0 Q kc ks h cs sl (mkF m pc' Ls (.long (x * y) :: st))) : Go p l e R s m args below meth c Z n0 Q kc ks h cs sl (mkF m pc Ls (.long y :: .long x :: st)) := by
  subst hp
  exact go_step K fun T t a k => XS.lmul a C.1 rfl (hb C.2.1 hd) rfl k
theorem go_iand (C : Ctx p s m meth c Z y bytes maxL ret) {x y : Int32} (hd : decode bytes pc = .ok (.iand, 1))  (hp : pc + 1 = pc') (K : Go p l e R s m args below meth c Z n0 Q kc ks h cs sl (mkF m pc' Ls (.int (x &&& y) :: st))) : Go p l e R s m args below meth c Z n0 Q kc ks h cs sl (mkF m pc Ls (.int y :: .int x :: st)) := by
  subst hp
  exact go_step K fun T t a k => XS.iand a C.1 rfl (hb C.2.1 hd) rfl k
theorem go_land (C : Ctx p s m meth c Z y bytes maxL ret) {x y : Int64} (hd : decode bytes pc = .ok (.land, 1))  (hp : pc + 1 = pc') (K : Go p l e R s m args below meth c Z n0 Q kc ks h cs sl (mkF m pc' Ls (.long (x &&& y) :: st))) : Go p l e R s m args below meth c Z n0 Q kc ks h cs sl (mkF m pc Ls (.long y :: .long x :: st)) := by
  subst hp
  exact go_step K fun T t a k => XS.land a C.1 rfl (hb C.2.1 hd) rfl k
theorem go_ior (C : Ctx p s m meth c Z y bytes maxL ret) {x y : Int32} (hd : decode bytes pc = .ok (.ior, 1))  (hp : pc + 1 = pc') (K : Go p l e R s m args below meth c Z n0 Q kc ks h cs sl (mkF m pc' Ls (.int (x ||| y) :: st))) : Go p l e R s m args below meth c Z n0 Q kc ks h cs sl (mkF m pc Ls (.int y :: .int x :: st)) := by
  subst hp
  exact go_step K fun T t a k => XS.ior a C.1 rfl (hb C.2.1 hd) rfl k
theorem go_lor (C : Ctx p s m meth c Z y bytes maxL ret) {x y : Int64} (hd : decode bytes pc = .ok (.lor, 1))  (hp : pc + 1 = pc') (K : Go p l e R s m args below meth c Z n0 Q kc ks h cs sl (mkF m pc' Ls (.long (x ||| y) :: st))) : Go p l e R s m args below meth c Z n0 Q kc ks h cs sl (mkF m pc Ls (.long y :: .long x :: st)) := by
  subst hp
  exact go_step K fun T t a k => XS.lor a C.1 rfl (hb C.2.1 hd) rfl k
theorem go_ixor (C : Ctx p s m meth c Z y bytes maxL ret) {x y : Int32} (hd : decode bytes pc = .ok (.ixor, 1))  (hp : pc + 1 = pc') (K : Go p l e R s m args below meth c Z n0 Q kc ks h cs sl (mkF m pc' Ls (.int (x ^^^ y) :: st))) : Go p l e R s m args below meth c Z n0 Q kc ks h cs sl (mkF m pc Ls (.int y :: .int x :: st)) := by
  subst hp
  exact go_step K fun T t a k => XS.ixor a C.1 rfl (hb C.2.1 hd) rfl k
theorem go_lxor (C : Ctx p s m meth c Z y bytes maxL ret) {x y : Int64} (hd : decode bytes pc = .ok (.lxor, 1))  (hp : pc + 1 = pc') (K : Go p l e R s m args below meth c Z n0 Q kc ks h cs sl (mkF m pc' Ls (.long (x ^^^ y) :: st))) : Go p l e R s m args below meth c Z n0 Q kc ks h cs sl (mkF m pc Ls (.long y :: .long x :: st)) := by
  subst hp
  exact go_step K fun T t a k => XS.lxor a C.1 rfl (hb C.2.1 hd) rfl k
theorem go_ishl (C : Ctx p s m meth c Z y bytes maxL ret) {x y : Int32} (hd : decode bytes pc = .ok (.ishl, 1))  (hp : pc + 1 = pc') (K : Go p l e R s m args below meth c Z n0 Q kc ks h cs sl (mkF m pc' Ls (.int (x <<< (y &&& 31)) :: st))) : Go p l e R s m args below meth c Z n0 Q kc ks h cs sl (mkF m pc Ls (.int y :: .int x :: st)) := by
  subst hp
  exact go_step K fun T t a k => XS.ishl a C.1 rfl (hb C.2.1 hd) rfl k
theorem go_ishr (C : Ctx p s m meth c Z y bytes maxL ret) {x y : Int32} (hd : decode bytes pc = .ok (.ishr, 1))  (hp : pc + 1 = pc') (K : Go p l e R s m args below meth c Z n0 Q kc ks h cs sl (mkF m pc' Ls (.int (x >>> (y &&& 31)) :: st))) : Go p l e R s m args below meth c Z n0 Q kc ks h cs sl (mkF m pc Ls (.int y :: .int x :: st)) := by
  subst hp
  exact go_step K fun T t a k => XS.ishr a C.1 rfl (hb C.2.1 hd) rfl k
theorem go_iushr (C : Ctx p s m meth c Z y bytes maxL ret) {x y : Int32} (hd : decode bytes pc = .ok (.iushr, 1))  (hp : pc + 1 = pc') (K : Go p l e R s m args below meth c Z n0 Q kc ks h cs sl (mkF m pc' Ls (.int ((x.toUInt32 >>> (y &&& 31).toUInt32).toInt32) :: st))) : Go p l e R s m args below meth c Z n0 Q kc ks h cs sl (mkF m pc Ls (.int y :: .int x :: st)) := by
  subst hp
  exact go_step K fun T t a k => XS.iushr a C.1 rfl (hb C.2.1 hd) rfl k
theorem go_lshl (C : Ctx p s m meth c Z y bytes maxL ret) {x : Int64} {y' : Int32} (hd : decode bytes pc = .ok (.lshl, 1))  (hp : pc + 1 = pc') (K : Go p l e R s m args below meth c Z n0 Q kc ks h cs sl (mkF m pc' Ls (.long (x <<< (y' &&& 0x3f).toInt64) :: st))) : Go p l e R s m args below meth c Z n0 Q kc ks h cs sl (mkF m pc Ls (.int y' :: .long x :: st)) := by
  subst hp
  exact go_step K fun T t a k => XS.lshl a C.1 rfl (hb C.2.1 hd) rfl k
theorem go_lshr (C : Ctx p s m meth c Z y bytes maxL ret) {x : Int64} {y' : Int32} (hd : decode bytes pc = .ok (.lshr, 1))  (hp : pc + 1 = pc') (K : Go p l e R s m args below meth c Z n0 Q kc ks h cs sl (mkF m pc' Ls (.long (x >>> (y' &&& 0x3f).toInt64) :: st))) : Go p l e R s m args below meth c Z n0 Q kc ks h cs sl (mkF m pc Ls (.int y' :: .long x :: st)) := by
  subst hp
  exact go_step K fun T t a k => XS.lshr a C.1 rfl (hb C.2.1 hd) rfl k
theorem go_lushr (C : Ctx p s m meth c Z y bytes maxL ret) {x : Int64} {y' : Int32} (hd : decode bytes pc = .ok (.lushr, 1))  (hp : pc + 1 = pc') (K : Go p l e R s m args below meth c Z n0 Q kc ks h cs sl (mkF m pc' Ls (.long ((x.toUInt64 >>> (y' &&& 0x3f).toInt64.toUInt64).toInt64) :: st))) : Go p l e R s m args below meth c Z n0 Q kc ks h cs sl (mkF m pc Ls (.int y' :: .long x :: st)) := by
  subst hp
  exact go_step K fun T t a k => XS.lushr a C.1 rfl (hb C.2.1 hd) rfl k
theorem go_lcmp (C : Ctx p s m meth c Z y bytes maxL ret) {x y' : Int64} (hd : decode bytes pc = .ok (.lcmp, 1))  (hp : pc + 1 = pc') (K : Go p l e R s m args below meth c Z n0 Q kc ks h cs sl (mkF m pc' Ls (.int (lcmpW x y') :: st))) : Go p l e R s m args below meth c Z n0 Q kc ks h cs sl (mkF m pc Ls (.long y' :: .long x :: st)) := by
  subst hp
  exact go_step K fun T t a k => XS.lcmp a C.1 rfl (hb C.2.1 hd) rfl k
theorem go_idiv (C : Ctx p s m meth c Z y bytes maxL ret) {x y' : Int32} (hd : decode bytes pc = .ok (.idiv, 1)) (hy : y' ≠ 0) (hp : pc + 1 = pc') (K : Go p l e R s m args below meth c Z n0 Q kc ks h cs sl (mkF m pc' Ls (.int (x / y') :: st))) : Go p l e R s m args below meth c Z n0 Q kc ks h cs sl (mkF m pc Ls (.int y' :: .int x :: st)) := by
  subst hp
  exact go_step K fun T t a k => XS.idiv a C.1 rfl (hb C.2.1 hd) rfl hy k
theorem go_ldiv (C : Ctx p s m meth c Z y bytes maxL ret) {x y' : Int64} (hd : decode bytes pc = .ok (.ldiv, 1)) (hy : y' ≠ 0) (hp : pc + 1 = pc') (K : Go p l e R s m args below meth c Z n0 Q kc ks h cs sl (mkF m pc' Ls (.long (x / y') :: st))) : Go p l e R s m args below meth c Z n0 Q kc ks h cs sl (mkF m pc Ls (.long y' :: .long x :: st)) := by
  subst hp
  exact go_step K fun T t a k => XS.ldiv a C.1 rfl (hb C.2.1 hd) rfl hy k
theorem go_irem (C : Ctx p s m meth c Z y bytes maxL ret) {x y' : Int32} (hd : decode bytes pc = .ok (.irem, 1)) (hy : y' ≠ 0) (hp : pc + 1 = pc') (K : Go p l e R s m args below meth c Z n0 Q kc ks h cs sl (mkF m pc' Ls (.int (x % y') :: st))) : Go p l e R s m args below meth c Z n0 Q kc ks h cs sl (mkF m pc Ls (.int y' :: .int x :: st)) := by
  subst hp
  exact go_step K fun T t a k => XS.irem a C.1 rfl (hb C.2.1 hd) rfl hy (by rw [irem_eq_mod]; exact k)
theorem go_lrem (C : Ctx p s m meth c Z y bytes maxL ret) {x y' : Int64} (hd : decode bytes pc = .ok (.lrem, 1)) (hy : y' ≠ 0) (hp : pc + 1 = pc') (K : Go p l e R s m args below meth c Z n0 Q kc ks h cs sl (mkF m pc' Ls (.long (x % y') :: st))) : Go p l e R s m args below meth c Z n0 Q kc ks h cs sl (mkF m pc Ls (.long y' :: .long x :: st)) := by
  subst hp
  exact go_step K fun T t a k => XS.lrem a C.1 rfl (hb C.2.1 hd) rfl hy (by rw [lrem_mod]; exact k)
theorem go_ineg (C : Ctx p s m meth c Z y bytes maxL ret) {x : Int32} (hd : decode bytes pc = .ok (.ineg, 1))  (hp : pc + 1 = pc') (K : Go p l e R s m args below meth c Z n0 Q kc ks h cs sl (mkF m pc' Ls (.int (-x) :: st))) : Go p l e R s m args below meth c Z n0 Q kc ks h cs sl (mkF m pc Ls (.int x :: st)) := by
  subst hp
  exact go_step K fun T t a k => XS.ineg a C.1 rfl (hb C.2.1 hd) rfl k
theorem go_lneg (C : Ctx p s m meth c Z y bytes maxL ret) {x : Int64} (hd : decode bytes pc = .ok (.lneg, 1))  (hp : pc + 1 = pc') (K : Go p l e R s m args below meth c Z n0 Q kc ks h cs sl (mkF m pc' Ls (.long (-x) :: st))) : Go p l e R s m args below meth c Z n0 Q kc ks h cs sl (mkF m pc Ls (.long x :: st)) := by
  subst hp
  exact go_step K fun T t a k => XS.lneg a C.1 rfl (hb C.2.1 hd) rfl k
theorem go_i2l (C : Ctx p s m meth c Z y bytes maxL ret) {x : Int32} (hd : decode bytes pc = .ok (.i2l, 1))  (hp : pc + 1 = pc') (K : Go p l e R s m args below meth c Z n0 Q kc ks h cs sl (mkF m pc' Ls (.long x.toInt64 :: st))) : Go p l e R s m args below meth c Z n0 Q kc ks h cs sl (mkF m pc Ls (.int x :: st)) := by
  subst hp
  exact go_step K fun T t a k => XS.i2l a C.1 rfl (hb C.2.1 hd) rfl k
theorem go_l2i (C : Ctx p s m meth c Z y bytes maxL ret) {x : Int64} (hd : decode bytes pc = .ok (.l2i, 1))  (hp : pc + 1 = pc') (K : Go p l e R s m args below meth c Z n0 Q kc ks h cs sl (mkF m pc' Ls (.int x.toInt32 :: st))) : Go p l e R s m args below meth c Z n0 Q kc ks h cs sl (mkF m pc Ls (.long x :: st)) := by
  subst hp
  exact go_step K fun T t a k => XS.l2i a C.1 rfl (hb C.2.1 hd) rfl k
theorem go_i2c (C : Ctx p s m meth c Z y bytes maxL ret) {x : Int32} (hd : decode bytes pc = .ok (.i2c, 1))  (hp : pc + 1 = pc') (K : Go p l e R s m args below meth c Z n0 Q kc ks h cs sl (mkF m pc' Ls (.int x.toUInt32.toUInt16.toUInt32.toInt32 :: st))) : Go p l e R s m args below meth c Z n0 Q kc ks h cs sl (mkF m pc Ls (.int x :: st)) := by
  subst hp
  exact go_step K fun T t a k => XS.i2c a C.1 rfl (hb C.2.1 hd) rfl k
theorem go_i2b (C : Ctx p s m meth c Z y bytes maxL ret) {x : Int32} (hd : decode bytes pc = .ok (.i2b, 1))  (hp : pc + 1 = pc') (K : Go p l e R s m args below meth c Z n0 Q kc ks h cs sl (mkF m pc' Ls (.int x.toInt8.toInt32 :: st))) : Go p l e R s m args below meth c Z n0 Q kc ks h cs sl (mkF m pc Ls (.int x :: st)) := by
  subst hp
  exact go_step K fun T t a k => XS.i2b a C.1 rfl (hb C.2.1 hd) rfl k
theorem go_dup (C : Ctx p s m meth c Z y bytes maxL ret) {v : Value} (hd : decode bytes pc = .ok (.dup, 1)) (hv : v.category = 1) (hp : pc + 1 = pc') (K : Go p l e R s m args below meth c Z n0 Q kc ks h cs sl (mkF m pc' Ls (v :: v :: st))) : Go p l e R s m args below meth c Z n0 Q kc ks h cs sl (mkF m pc Ls (v :: st)) := by
  subst hp
  exact go_step K fun T t a k => XS.dup a C.1 rfl (hb C.2.1 hd) rfl hv k
theorem go_dupX1 (C : Ctx p s m meth c Z y bytes maxL ret) {v w : Value} (hd : decode bytes pc = .ok (.dup_x1, 1)) (hv : v.category = 1) (hw : w.category = 1) (hp : pc + 1 = pc') (K : Go p l e R s m args below meth c Z n0 Q kc ks h cs sl (mkF m pc' Ls (v :: w :: v :: st))) : Go p l e R s m args below meth c Z n0 Q kc ks h cs sl (mkF m pc Ls (v :: w :: st)) := by
  subst hp
  exact go_step K fun T t a k => XS.dupX1 a C.1 rfl (hb C.2.1 hd) rfl hv hw k
theorem go_dup2 (C : Ctx p s m meth c Z y bytes maxL ret) {v w : Value} (hd : decode bytes pc = .ok (.dup2, 1)) (hv : v.category = 1) (hw : w.category = 1) (hp : pc + 1 = pc') (K : Go p l e R s m args below meth c Z n0 Q kc ks h cs sl (mkF m pc' Ls (v :: w :: v :: w :: st))) : Go p l e R s m args below meth c Z n0 Q kc ks h cs sl (mkF m pc Ls (v :: w :: st)) := by
  subst hp
  exact go_step K fun T t a k => XT.dup2 a C.1 rfl (hb C.2.1 hd) rfl hv hw k
theorem go_dup2L (C : Ctx p s m meth c Z y bytes maxL ret) {x : Int64} (hd : decode bytes pc = .ok (.dup2, 1))  (hp : pc + 1 = pc') (K : Go p l e R s m args below meth c Z n0 Q kc ks h cs sl (mkF m pc' Ls (.long x :: .long x :: st))) : Go p l e R s m args below meth c Z n0 Q kc ks h cs sl (mkF m pc Ls (.long x :: st)) := by
  subst hp
  exact go_step K fun T t a k => XT.dup2L a C.1 rfl (hb C.2.1 hd) rfl k
theorem go_pop (C : Ctx p s m meth c Z y bytes maxL ret) {v : Value} (hd : decode bytes pc = .ok (.pop, 1)) (hv : v.category = 1) (hp : pc + 1 = pc') (K : Go p l e R s m args below meth c Z n0 Q kc ks h cs sl (mkF m pc' Ls (st))) : Go p l e R s m args below meth c Z n0 Q kc ks h cs sl (mkF m pc Ls (v :: st)) := by
  subst hp
  exact go_step K fun T t a k => XS.pop a C.1 rfl (hb C.2.1 hd) rfl hv k
theorem go_goto (C : Ctx p s m meth c Z y bytes maxL ret)  {o : Int} (hd : decode bytes pc = .ok (.goto o, 3))  (ho : 0 ≤ (pc : Int) + o) (hp : ((pc : Int) + o).toNat = pc') (K : Go p l e R s m args below meth c Z n0 Q kc ks h cs sl (mkF m pc' Ls st)) : Go p l e R s m args below meth c Z n0 Q kc ks h cs sl (mkF m pc Ls (st)) :=
  go_step K fun T t a k => XS.goto a C.1 rfl rfl (hb C.2.1 hd) ho hp k
theorem go_ifYes (C : Ctx p s m meth c Z y bytes maxL ret) {cd : ClassFile.Cond} {x : Int32} {o : Int} (hd : decode bytes pc = .ok (.ifCond cd o, 3)) (hc : ifCond.holds cd x = true) (ho : 0 ≤ (pc : Int) + o) (hp : ((pc : Int) + o).toNat = pc') (K : Go p l e R s m args below meth c Z n0 Q kc ks h cs sl (mkF m pc' Ls st)) : Go p l e R s m args below meth c Z n0 Q kc ks h cs sl (mkF m pc Ls (.int x :: st)) :=
  go_step K fun T t a k => XS.ifYes a C.1 rfl rfl (hb C.2.1 hd) rfl hc ho hp k
theorem go_ifNo (C : Ctx p s m meth c Z y bytes maxL ret) {cd : ClassFile.Cond} {x : Int32} {o : Int} (hd : decode bytes pc = .ok (.ifCond cd o, 3)) (hc : ifCond.holds cd x = false) (hp : pc + 3 = pc') (K : Go p l e R s m args below meth c Z n0 Q kc ks h cs sl (mkF m pc' Ls st)) : Go p l e R s m args below meth c Z n0 Q kc ks h cs sl (mkF m pc Ls (.int x :: st)) := by
  subst hp
  exact go_step K fun T t a k => XS.ifNo a C.1 rfl (hb C.2.1 hd) rfl hc k
theorem go_icmpYes (C : Ctx p s m meth c Z y bytes maxL ret) {cd : ClassFile.Cond} {x y' : Int32} {o : Int} (hd : decode bytes pc = .ok (.if_icmp cd o, 3)) (hc : if_icmp.holds cd x y' = true) (ho : 0 ≤ (pc : Int) + o) (hp : ((pc : Int) + o).toNat = pc') (K : Go p l e R s m args below meth c Z n0 Q kc ks h cs sl (mkF m pc' Ls st)) : Go p l e R s m args below meth c Z n0 Q kc ks h cs sl (mkF m pc Ls (.int y' :: .int x :: st)) :=
  go_step K fun T t a k => XS.icmpYes a C.1 rfl rfl (hb C.2.1 hd) rfl hc ho hp k
theorem go_icmpNo (C : Ctx p s m meth c Z y bytes maxL ret) {cd : ClassFile.Cond} {x y' : Int32} {o : Int} (hd : decode bytes pc = .ok (.if_icmp cd o, 3)) (hc : if_icmp.holds cd x y' = false) (hp : pc + 3 = pc') (K : Go p l e R s m args below meth c Z n0 Q kc ks h cs sl (mkF m pc' Ls st)) : Go p l e R s m args below meth c Z n0 Q kc ks h cs sl (mkF m pc Ls (.int y' :: .int x :: st)) := by
  subst hp
  exact go_step K fun T t a k => XS.icmpNo a C.1 rfl (hb C.2.1 hd) rfl hc k
theorem go_ifnullYes (C : Ctx p s m meth c Z y bytes maxL ret)  {o : Int} (hd : decode bytes pc = .ok (.ifnull o, 3))  (ho : 0 ≤ (pc : Int) + o) (hp : ((pc : Int) + o).toNat = pc') (K : Go p l e R s m args below meth c Z n0 Q kc ks h cs sl (mkF m pc' Ls st)) : Go p l e R s m args below meth c Z n0 Q kc ks h cs sl (mkF m pc Ls (.null :: st)) :=
  go_step K fun T t a k => XS.ifnullYes a C.1 rfl rfl (hb C.2.1 hd) rfl ho hp k
theorem go_ifnullNo (C : Ctx p s m meth c Z y bytes maxL ret) {b : Addr} {o : Int} (hd : decode bytes pc = .ok (.ifnull o, 3))  (hp : pc + 3 = pc') (K : Go p l e R s m args below meth c Z n0 Q kc ks h cs sl (mkF m pc' Ls st)) : Go p l e R s m args below meth c Z n0 Q kc ks h cs sl (mkF m pc Ls (.ref b :: st)) := by
  subst hp
  exact go_step K fun T t a k => XS.ifnullNo a C.1 rfl (hb C.2.1 hd) rfl k
theorem go_ifnonnullYes (C : Ctx p s m meth c Z y bytes maxL ret) {b : Addr} {o : Int} (hd : decode bytes pc = .ok (.ifnonnull o, 3))  (ho : 0 ≤ (pc : Int) + o) (hp : ((pc : Int) + o).toNat = pc') (K : Go p l e R s m args below meth c Z n0 Q kc ks h cs sl (mkF m pc' Ls st)) : Go p l e R s m args below meth c Z n0 Q kc ks h cs sl (mkF m pc Ls (.ref b :: st)) :=
  go_step K fun T t a k => XS.ifnonnullYes a C.1 rfl rfl (hb C.2.1 hd) rfl ho hp k
theorem go_ifnonnullNo (C : Ctx p s m meth c Z y bytes maxL ret)  {o : Int} (hd : decode bytes pc = .ok (.ifnonnull o, 3))  (hp : pc + 3 = pc') (K : Go p l e R s m args below meth c Z n0 Q kc ks h cs sl (mkF m pc' Ls st)) : Go p l e R s m args below meth c Z n0 Q kc ks h cs sl (mkF m pc Ls (.null :: st)) := by
  subst hp
  exact go_step K fun T t a k => XS.ifnonnullNo a C.1 rfl (hb C.2.1 hd) rfl k
theorem go_acmpYes (C : Ctx p s m meth c Z y bytes maxL ret) {cd : ClassFile.ACond} {v w : Value} {o : Int} (hd : decode bytes pc = .ok (.if_acmp cd o, 3)) (hv : v.isRef = true) (hw : w.isRef = true) (hc : XT.acmp cd v w = true) (ho : 0 ≤ (pc : Int) + o) (hp : ((pc : Int) + o).toNat = pc') (K : Go p l e R s m args below meth c Z n0 Q kc ks h cs sl (mkF m pc' Ls st)) : Go p l e R s m args below meth c Z n0 Q kc ks h cs sl (mkF m pc Ls (w :: v :: st)) :=
  go_step K fun T t a k => XT.acmpYes a C.1 rfl rfl (hb C.2.1 hd) rfl hv hw hc ho hp k
theorem go_acmpNo (C : Ctx p s m meth c Z y bytes maxL ret) {cd : ClassFile.ACond} {v w : Value} {o : Int} (hd : decode bytes pc = .ok (.if_acmp cd o, 3)) (hv : v.isRef = true) (hw : w.isRef = true) (hc : XT.acmp cd v w = false) (hp : pc + 3 = pc') (K : Go p l e R s m args below meth c Z n0 Q kc ks h cs sl (mkF m pc' Ls st)) : Go p l e R s m args below meth c Z n0 Q kc ks h cs sl (mkF m pc Ls (w :: v :: st)) := by
  subst hp
  exact go_step K fun T t a k => XT.acmpNo a C.1 rfl (hb C.2.1 hd) rfl hv hw hc k
theorem go_tswIn (C : Ctx p s m meth c Z y bytes maxL ret) {dflt low high : Int} {offs : Array Int} {len : Nat} {o : Int} {i : Int32} (hd : decode bytes pc = .ok (.tableswitch dflt low high offs, len)) (hin : ¬ (i.toInt < low ∨ i.toInt > high)) (hoff : offs[(i.toInt - low).toNat]? = some o) (ho : 0 ≤ (pc : Int) + o) (hp : ((pc : Int) + o).toNat = pc') (K : Go p l e R s m args below meth c Z n0 Q kc ks h cs sl (mkF m pc' Ls st)) : Go p l e R s m args below meth c Z n0 Q kc ks h cs sl (mkF m pc Ls (.int i :: st)) :=
  go_step K fun T t a k => XS.tswIn a C.1 rfl rfl (hb C.2.1 hd) rfl hin hoff ho hp k
theorem go_ldcInt (C : Ctx p s m meth c Z y bytes maxL ret) {index : Nat} {v : Int32} (w : (Jvm.Cond.constant y.cls index v).before a0 Z = true) (hd : decode bytes pc = .ok (.ldc index, 2)) (hp : pc + 2 = pc') (K : Go p l e R s m args below meth c Z n0 Q kc ks h cs sl (mkF m pc' Ls (.int v :: st))) : Go p l e R s m args below meth c Z n0 Q kc ks h cs sl (mkF m pc Ls st) := by
  subst hp
  exact go_stepX K fun T t L X eT k => X.ldcInt C.1 C.2.2.2.2.2.2.1 (mvT C.2.2.2.2.2.1 w) (g := mkF m pc Ls st) rfl (hb C.2.1 hd) t k
theorem go_ldcwInt (C : Ctx p s m meth c Z y bytes maxL ret) {index : Nat} {v : Int32} (w : (Jvm.Cond.constant y.cls index v).before a0 Z = true) (hd : decode bytes pc = .ok (.ldc_w index, 3)) (hp : pc + 3 = pc') (K : Go p l e R s m args below meth c Z n0 Q kc ks h cs sl (mkF m pc' Ls (.int v :: st))) : Go p l e R s m args below meth c Z n0 Q kc ks h cs sl (mkF m pc Ls st) := by
  subst hp
  exact go_stepX K fun T t L X eT k => X.ldcwInt C.1 C.2.2.2.2.2.2.1 (mvT C.2.2.2.2.2.1 w) (g := mkF m pc Ls st) rfl (hb C.2.1 hd) t k
theorem go_ldcLong (C : Ctx p s m meth c Z y bytes maxL ret) {index : Nat} {v : Int64} (w : (Jvm.Cond.constantLong y.cls index v).before a0 Z = true) (hd : decode bytes pc = .ok (.ldc2_w index, 3)) (hp : pc + 3 = pc') (K : Go p l e R s m args below meth c Z n0 Q kc ks h cs sl (mkF m pc' Ls (.long v :: st))) : Go p l e R s m args below meth c Z n0 Q kc ks h cs sl (mkF m pc Ls st) := by
  subst hp
  exact go_stepX K fun T t L X eT k => X.ldc2Long C.1 C.2.2.2.2.2.2.1 (mvT C.2.2.2.2.2.1 w) (g := mkF m pc Ls st) rfl (hb C.2.1 hd) t k
theorem go_getF (C : Ctx p s m meth c Z y bytes maxL ret) {R0 O n d host : String} {index : Nat} {a : Addr} {v : Value} (w : (Jvm.Cond.fieldLink y.cls index R0 n d).before a0 Z = true ∨ (Jvm.Cond.fieldLinkNest y.cls index R0 n d host).before a0 Z = true) (via : Via Z R0 O n d) (F : Fld Z h a O n d v) (hd : decode bytes pc = .ok (.getfield index, 3)) (hp : pc + 3 = pc') (K : Go p l e R s m args below meth c Z n0 Q kc ks h cs sl (mkF m pc' Ls (v :: st))) : Go p l e R s m args below meth c Z n0 Q kc ks h cs sl (mkF m pc Ls (.ref a :: st)) := by
  subst hp
  exact go_stepT K fun T L X eT => getF X C.1 C.2.2.2.2.2.1 C.2.2.2.2.2.2.1 w via eT F (g := mkF m pc Ls (.ref a :: st)) rfl rfl (hb C.2.1 hd)
theorem go_getS (C : Ctx p s m meth c Z y bytes maxL ret) {R0 O n d host : String} {index : Nat} {v : Value} (w : (Jvm.Cond.fieldLink y.cls index R0 n d).before a0 Z = true ∨ (Jvm.Cond.fieldLinkNest y.cls index R0 n d host).before a0 Z = true) (via : Via Z R0 O n d) (F : Sta Z h O n d v) (hd : decode bytes pc = .ok (.getstatic index, 3)) (hp : pc + 3 = pc') (K : Go p l e R s m args below meth c Z n0 Q kc ks h cs sl (mkF m pc' Ls (v :: st))) : Go p l e R s m args below meth c Z n0 Q kc ks h cs sl (mkF m pc Ls st) := by
  subst hp
  exact go_stepT K fun T L X eT => getS2 X C.1 C.2.2.2.2.2.1 C.2.2.2.2.2.2.1 w via eT F (g := mkF m pc Ls st) rfl (hb C.2.1 hd)
theorem go_putF (C : Ctx p s m meth c Z y bytes maxL ret) {R0 O n d host K0 : String} {index kk : Nat} {ty : FieldType} {a : Addr} {v old : Value} (w : (Jvm.Cond.fieldLink y.cls index R0 n d).before a0 Z = true ∨ (Jvm.Cond.fieldLinkNest y.cls index R0 n d host).before a0 Z = true) (via : Via Z R0 O n d) (F : Fld Z h a O n d old) (E : Exa Z h a K0) (L : (Jvm.Cond.lays K0 O n d).before a0 Z = true ∨ ((Jvm.Cond.laysFinal K0 O n d).before a0 Z = true ∧ y.cls = O ∧ y.name = "<init>")) (wi : (Jvm.Cond.instantiable K0 kk).before a0 Z = true)
    (hty : parseFieldDescriptor d = some ty) (hn : narrow ty v = v) (hf : fits ty v = true) (hd : decode bytes pc = .ok (.putfield index, 3)) (hp : pc + 3 = pc') (ha : n0 ≤ a) (K : ∀ h', Wr h h' a (Jvm.RoadKit.slotOf Z O n d) v → Fld Z h' a O n d v → Go p l e R s m args below meth c Z n0 Q kc ks h' cs sl (mkF m pc' Ls st)) : Go p l e R s m args below meth c Z n0 Q kc ks h cs sl (mkF m pc Ls (v :: .ref a :: st)) := fun T L0 hL O X eT => by
  subst hp
  obtain ⟨T', h', X', e', W, hs⟩ := putF X C.1 C.2.2.2.2.2.1 C.2.2.2.2.2.2.1 w via eT F E (L.imp id fun q => ⟨q.1, q.2.1, C.2.2.2.2.2.2.2.trans q.2.2⟩) wi hty hn hf (g := mkF m pc Ls (v :: .ref a :: st)) rfl rfl (hb C.2.1 hd)
  obtain ⟨U, v, L', h1, r⟩ := K h' W (F.same W) T' _ (Fr.snoc X' hL ha) (O.wr W ha) X' e'
  exact ⟨U, v, L', hs U h1, r⟩
theorem go_putFN (C : Ctx p s m meth c Z y bytes maxL ret) {R0 O n d K0 : String} {index kk : Nat} {ty : FieldType} {a : Addr} {v v' old : Value} (w : (Jvm.Cond.fieldLink y.cls index R0 n d).before a0 Z = true) (via : Via Z R0 O n d) (F : Fld Z h a O n d old) (E : Exa Z h a K0) (L : (Jvm.Cond.lays K0 O n d).before a0 Z = true ∨ ((Jvm.Cond.laysFinal K0 O n d).before a0 Z = true ∧ y.cls = O ∧ y.name = "<init>")) (wi : (Jvm.Cond.instantiable K0 kk).before a0 Z = true)
    (hty : parseFieldDescriptor d = some ty) (hn : narrow ty v = v') (hf : fits ty v' = true) (hd : decode bytes pc = .ok (.putfield index, 3)) (hp : pc + 3 = pc') (ha : n0 ≤ a) (K : ∀ h', Wr h h' a (Jvm.RoadKit.slotOf Z O n d) v' → Fld Z h' a O n d v' → Go p l e R s m args below meth c Z n0 Q kc ks h' cs sl (mkF m pc' Ls st)) : Go p l e R s m args below meth c Z n0 Q kc ks h cs sl (mkF m pc Ls (v :: .ref a :: st)) := fun T L0 hL O X eT => by
  subst hp
  obtain ⟨T', h', X', e', W, hs⟩ := putFN X C.1 C.2.2.2.2.2.1 C.2.2.2.2.2.2.1 w via eT F E (L.imp id fun q => ⟨q.1, q.2.1, C.2.2.2.2.2.2.2.trans q.2.2⟩) wi hty hn hf (g := mkF m pc Ls (v :: .ref a :: st)) rfl rfl (hb C.2.1 hd)
  obtain ⟨U, v, L', h1, r⟩ := K h' W (F.same W) T' _ (Fr.snoc X' hL ha) (O.wr W ha) X' e'
  exact ⟨U, v, L', hs U h1, r⟩
theorem go_new (C : Ctx p s m meth c Z y bytes maxL ret) {K0 : String} {index n : Nat} (w : (Jvm.Cond.classLink y.cls index K0).before a0 Z = true) (wi : (Jvm.Cond.instantiable K0 n).before a0 Z = true) (wz : (Jvm.Cond.initialized K0).before a0 Z = true) (hd : decode bytes pc = .ok (.new index, 3)) (hp : pc + 3 = pc') (hc : cs + 1 ≤ R.cells) (hl : sl + n ≤ R.slots)
    (K : ∀ h' a, a = h.size → n0 ≤ a → Ext h h' → Exa Z h' a K0 → (∀ {O nm d : String} {ty : FieldType}, Laid Z a0 K0 O nm d → parseFieldDescriptor d = some ty → Fld Z h' a O nm d (defaultValue ty)) → Go p l e R s m args below meth c Z n0 Q kc ks h' (cs + 1) (sl + n) (mkF m pc' Ls (.ref a :: st))) : Go p l e R s m args below meth c Z n0 Q kc ks h cs sl (mkF m pc Ls st) := fun T L0 hL O X eT => by
  subst hp
  obtain ⟨T', h', X', e', E, A, D, -, hs⟩ := newO X C.1 C.2.2.2.2.2.1 C.2.2.2.2.2.2.1 w wi wz eT (g := mkF m pc Ls st) rfl (hb C.2.1 hd) hc hl
  obtain ⟨U, v, L', h1, r⟩ := K h' h.size rfl (O.1 ▸ O.2.1) E A D T' _ hL (O.ext E) X' e'
  exact ⟨U, v, L', hs U h1, r⟩
theorem go_newP (C : Ctx p s m meth c Z y bytes maxL ret) {aty : ArrayType} {n : Int32} {cap : Nat} (w : (Jvm.Cond.arrayClass (newarray.typeOf aty)).before a0 Z = true) (hd : decode bytes pc = .ok (.newarray aty, 2)) (hp : pc + 2 = pc') (hn : ¬ n < 0) (hcap : n.toNatClampNeg ≤ cap) (hb' : cap * 8 ≤ 536870912) (hc : cs + 1 ≤ R.cells) (hl : sl + cap ≤ R.slots)
    (K : ∀ h' a k, a = h.size → n0 ≤ a → Ext h h' → Arr Z h' a (newA k (newarray.typeOf aty) n) (newarray.typeOf aty) → Go p l e R s m args below meth c Z n0 Q kc ks h' (cs + 1) (sl + cap) (mkF m pc' Ls (.ref a :: st))) : Go p l e R s m args below meth c Z n0 Q kc ks h cs sl (mkF m pc Ls (.int n :: st)) := fun T L0 hL O X eT => by
  subst hp
  obtain ⟨T', h', k, X', e', E, A, hs⟩ := newP X C.1 C.2.2.2.2.2.1 w eT (g := mkF m pc Ls (.int n :: st)) rfl (hb C.2.1 hd) rfl hn hcap hb' hc hl
  obtain ⟨U, v, L', h1, r⟩ := K h' h.size k rfl (O.1 ▸ O.2.1) E A T' _ hL (O.ext E) X' e'
  exact ⟨U, v, L', hs U h1, r⟩
theorem go_newR (C : Ctx p s m meth c Z y bytes maxL ret) {K0 : String} {index : Nat} {n : Int32} {cap : Nat} (w1 : (Jvm.Cond.classLink y.cls index K0).before a0 Z = true) (w2 : (Jvm.Cond.arrayOver (.object K0)).before a0 Z = true) (hd : decode bytes pc = .ok (.anewarray index, 3)) (hp : pc + 3 = pc') (hn : ¬ n < 0) (hcap : n.toNatClampNeg ≤ cap) (hb' : cap * 8 ≤ 536870912) (hc : cs + 1 ≤ R.cells) (hl : sl + cap ≤ R.slots)
    (K : ∀ h' a k, a = h.size → n0 ≤ a → Ext h h' → Arr Z h' a (newA k (.object K0) n) (.object K0) → Ovr Z k K0 → Go p l e R s m args below meth c Z n0 Q kc ks h' (cs + 1) (sl + cap) (mkF m pc' Ls (.ref a :: st))) : Go p l e R s m args below meth c Z n0 Q kc ks h cs sl (mkF m pc Ls (.int n :: st)) := fun T L0 hL O X eT => by
  subst hp
  obtain ⟨T', h', k, X', e', E, A, V, hs⟩ := newR X C.1 C.2.2.2.2.2.1 C.2.2.2.2.2.2.1 w1 w2 eT (g := mkF m pc Ls (.int n :: st)) rfl (hb C.2.1 hd) rfl hn hcap hb' hc hl
  obtain ⟨U, v, L', h1, r⟩ := K h' h.size k rfl (O.1 ▸ O.2.1) E A V T' _ hL (O.ext E) X' e'
  exact ⟨U, v, L', hs U h1, r⟩
theorem go_stI (C : Ctx p s m meth c Z y bytes maxL ret) {a : Addr} {cl : Cell} {j : Int32} {x : Int32} (A : Arr Z h a cl .int) (hj : ¬ (j < 0 ∨ cl.slots.size ≤ j.toNatClampNeg)) (hd : decode bytes pc = .ok (.iastore, 1)) (hp : pc + 1 = pc') (ha : n0 ≤ a)
    (K : ∀ h', Wr h h' a j.toNatClampNeg (.int x) → Arr Z h' a (cl.setSlot j.toNatClampNeg (.int x)) .int → Go p l e R s m args below meth c Z n0 Q kc ks h' cs sl (mkF m pc' Ls st)) : Go p l e R s m args below meth c Z n0 Q kc ks h cs sl (mkF m pc Ls (.int x :: .int j :: .ref a :: st)) := fun T L0 hL O X eT => by
  subst hp
  obtain ⟨T', h', X', e', W, hs⟩ := stI X C.1 C.2.2.2.2.2.1 eT A hj (g := mkF m pc Ls (.int x :: .int j :: .ref a :: st)) rfl rfl (hb C.2.1 hd)
  obtain ⟨U, v, L', h1, r⟩ := K h' W (A.same W) T' _ (Fr.snoc X' hL ha) (O.wr W ha) X' e'
  exact ⟨U, v, L', hs U h1, r⟩
theorem go_stJ (C : Ctx p s m meth c Z y bytes maxL ret) {a : Addr} {cl : Cell} {j : Int32} {x : Int64} (A : Arr Z h a cl .long) (hj : ¬ (j < 0 ∨ cl.slots.size ≤ j.toNatClampNeg)) (hd : decode bytes pc = .ok (.lastore, 1)) (hp : pc + 1 = pc') (ha : n0 ≤ a)
    (K : ∀ h', Wr h h' a j.toNatClampNeg (.long x) → Arr Z h' a (cl.setSlot j.toNatClampNeg (.long x)) .long → Go p l e R s m args below meth c Z n0 Q kc ks h' cs sl (mkF m pc' Ls st)) : Go p l e R s m args below meth c Z n0 Q kc ks h cs sl (mkF m pc Ls (.long x :: .int j :: .ref a :: st)) := fun T L0 hL O X eT => by
  subst hp
  obtain ⟨T', h', X', e', W, hs⟩ := stJ X C.1 C.2.2.2.2.2.1 eT A hj (g := mkF m pc Ls (.long x :: .int j :: .ref a :: st)) rfl rfl (hb C.2.1 hd)
  obtain ⟨U, v, L', h1, r⟩ := K h' W (A.same W) T' _ (Fr.snoc X' hL ha) (O.wr W ha) X' e'
  exact ⟨U, v, L', hs U h1, r⟩
theorem go_stC (C : Ctx p s m meth c Z y bytes maxL ret) {a : Addr} {cl : Cell} {j : Int32} {x : Int32} (A : Arr Z h a cl .char) (hj : ¬ (j < 0 ∨ cl.slots.size ≤ j.toNatClampNeg)) (hd : decode bytes pc = .ok (.castore, 1)) (hp : pc + 1 = pc') (ha : n0 ≤ a)
    (K : ∀ h', Wr h h' a j.toNatClampNeg (.int (nar .char x)) → Arr Z h' a (cl.setSlot j.toNatClampNeg (.int (nar .char x))) .char → Go p l e R s m args below meth c Z n0 Q kc ks h' cs sl (mkF m pc' Ls st)) : Go p l e R s m args below meth c Z n0 Q kc ks h cs sl (mkF m pc Ls (.int x :: .int j :: .ref a :: st)) := fun T L0 hL O X eT => by
  subst hp
  obtain ⟨T', h', X', e', W, hs⟩ := stC X C.1 C.2.2.2.2.2.1 eT A hj (g := mkF m pc Ls (.int x :: .int j :: .ref a :: st)) rfl rfl (hb C.2.1 hd)
  obtain ⟨U, v, L', h1, r⟩ := K h' W (A.same W) T' _ (Fr.snoc X' hL ha) (O.wr W ha) X' e'
  exact ⟨U, v, L', hs U h1, r⟩
theorem go_stB (C : Ctx p s m meth c Z y bytes maxL ret) {a : Addr} {cl : Cell} {j : Int32} {x : Int32} (A : Arr Z h a cl .byte) (hj : ¬ (j < 0 ∨ cl.slots.size ≤ j.toNatClampNeg)) (hd : decode bytes pc = .ok (.bastore, 1)) (hp : pc + 1 = pc') (ha : n0 ≤ a)
    (K : ∀ h', Wr h h' a j.toNatClampNeg (.int (nar .byte x)) → Arr Z h' a (cl.setSlot j.toNatClampNeg (.int (nar .byte x))) .byte → Go p l e R s m args below meth c Z n0 Q kc ks h' cs sl (mkF m pc' Ls st)) : Go p l e R s m args below meth c Z n0 Q kc ks h cs sl (mkF m pc Ls (.int x :: .int j :: .ref a :: st)) := fun T L0 hL O X eT => by
  subst hp
  obtain ⟨T', h', X', e', W, hs⟩ := stB X C.1 C.2.2.2.2.2.1 eT A hj (g := mkF m pc Ls (.int x :: .int j :: .ref a :: st)) rfl rfl (hb C.2.1 hd)
  obtain ⟨U, v, L', h1, r⟩ := K h' W (A.same W) T' _ (Fr.snoc X' hL ha) (O.wr W ha) X' e'
  exact ⟨U, v, L', hs U h1, r⟩
theorem go_stZ (C : Ctx p s m meth c Z y bytes maxL ret) {a : Addr} {cl : Cell} {j : Int32} {x : Int32} (A : Arr Z h a cl .boolean) (hj : ¬ (j < 0 ∨ cl.slots.size ≤ j.toNatClampNeg)) (hd : decode bytes pc = .ok (.bastore, 1)) (hp : pc + 1 = pc') (ha : n0 ≤ a)
    (K : ∀ h', Wr h h' a j.toNatClampNeg (.int (nar .boolean x)) → Arr Z h' a (cl.setSlot j.toNatClampNeg (.int (nar .boolean x))) .boolean → Go p l e R s m args below meth c Z n0 Q kc ks h' cs sl (mkF m pc' Ls st)) : Go p l e R s m args below meth c Z n0 Q kc ks h cs sl (mkF m pc Ls (.int x :: .int j :: .ref a :: st)) := fun T L0 hL O X eT => by
  subst hp
  obtain ⟨T', h', X', e', W, hs⟩ := stZ X C.1 C.2.2.2.2.2.1 eT A hj (g := mkF m pc Ls (.int x :: .int j :: .ref a :: st)) rfl rfl (hb C.2.1 hd)
  obtain ⟨U, v, L', h1, r⟩ := K h' W (A.same W) T' _ (Fr.snoc X' hL ha) (O.wr W ha) X' e'
  exact ⟨U, v, L', hs U h1, r⟩
theorem go_stR (C : Ctx p s m meth c Z y bytes maxL ret) {a : Addr} {cl : Cell} {j : Int32} {ty : FieldType} {w : Value} (A : Arr Z h a cl ty) (hj : ¬ (j < 0 ∨ cl.slots.size ≤ j.toNatClampNeg)) (hty : ty.isReference = true) (F : Sto Z h a w) (hd : decode bytes pc = .ok (.aastore, 1)) (hp : pc + 1 = pc') (ha : n0 ≤ a)
    (K : ∀ h', Wr h h' a j.toNatClampNeg w → Arr Z h' a (cl.setSlot j.toNatClampNeg w) ty → Go p l e R s m args below meth c Z n0 Q kc ks h' cs sl (mkF m pc' Ls st)) : Go p l e R s m args below meth c Z n0 Q kc ks h cs sl (mkF m pc Ls (w :: .int j :: .ref a :: st)) := fun T L0 hL O X eT => by
  subst hp
  obtain ⟨T', h', X', e', W, hs⟩ := stR X C.1 C.2.2.2.2.2.1 eT A hj hty F (g := mkF m pc Ls (w :: .int j :: .ref a :: st)) rfl rfl (hb C.2.1 hd)
  obtain ⟨U, v, L', h1, r⟩ := K h' W (A.same W) T' _ (Fr.snoc X' hL ha) (O.wr W ha) X' e'
  exact ⟨U, v, L', hs U h1, r⟩
theorem go_arraylength (C : Ctx p s m meth c Z y bytes maxL ret) {a : Addr} {cl : Cell} {ty : FieldType} {z : Int32} (A : Arr Z h a cl ty) (hz : cl.slots.size.toInt32 = z) (hd : decode bytes pc = .ok (.arraylength, 1)) (hp : pc + 1 = pc') (K : Go p l e R s m args below meth c Z n0 Q kc ks h cs sl (mkF m pc' Ls (.int z :: st))) : Go p l e R s m args below meth c Z n0 Q kc ks h cs sl (mkF m pc Ls (.ref a :: st)) := by
  subst hp hz
  exact go_stepX K fun T t L X eT k => X.arraylength C.1 (by rw [eT]; exact A.1) (State.isArrayOf_alike C.2.2.2.2.2.1.alike A.2.1) (g := mkF m pc Ls (.ref a :: st)) rfl rfl (hb C.2.1 hd) t k
theorem go_aaload (C : Ctx p s m meth c Z y bytes maxL ret) {a : Addr} {cl : Cell} {j : Int32} {v : Value} {ty : FieldType} (A : Arr Z h a cl ty) (hty : ty.isReference = true) (hin : ¬ (j < 0 ∨ cl.slots.size ≤ j.toNatClampNeg)) (hv : cl.slots[j.toNatClampNeg]? = some v) (hd : decode bytes pc = .ok (.aaload, 1)) (hp : pc + 1 = pc') (K : Go p l e R s m args below meth c Z n0 Q kc ks h cs sl (mkF m pc' Ls (v :: st))) : Go p l e R s m args below meth c Z n0 Q kc ks h cs sl (mkF m pc Ls (.int j :: .ref a :: st)) := by
  subst hp
  exact go_stepX K fun T t L X eT k => X.aaload C.1 (by rw [eT]; exact A.1) (State.isArrayOf_alike C.2.2.2.2.2.1.alike A.2.1) hty A.2.2 hin hv (g := mkF m pc Ls (.int j :: .ref a :: st)) rfl rfl (hb C.2.1 hd) t k
theorem go_iaload (C : Ctx p s m meth c Z y bytes maxL ret) {a : Addr} {cl : Cell} {j : Int32} {v : Value} (A : Arr Z h a cl .int) (hin : ¬ (j < 0 ∨ cl.slots.size ≤ j.toNatClampNeg)) (hv : cl.slots[j.toNatClampNeg]? = some v) (hd : decode bytes pc = .ok (.iaload, 1)) (hp : pc + 1 = pc') (K : Go p l e R s m args below meth c Z n0 Q kc ks h cs sl (mkF m pc' Ls (v :: st))) : Go p l e R s m args below meth c Z n0 Q kc ks h cs sl (mkF m pc Ls (.int j :: .ref a :: st)) := by
  subst hp
  exact go_stepX K fun T t L X eT k => X.iaload C.1 (by rw [eT]; exact A.1) (State.isArrayOf_alike C.2.2.2.2.2.1.alike A.2.1) A.2.2 hin hv (g := mkF m pc Ls (.int j :: .ref a :: st)) rfl rfl (hb C.2.1 hd) t k
theorem go_laload (C : Ctx p s m meth c Z y bytes maxL ret) {a : Addr} {cl : Cell} {j : Int32} {v : Value} (A : Arr Z h a cl .long) (hin : ¬ (j < 0 ∨ cl.slots.size ≤ j.toNatClampNeg)) (hv : cl.slots[j.toNatClampNeg]? = some v) (hd : decode bytes pc = .ok (.laload, 1)) (hp : pc + 1 = pc') (K : Go p l e R s m args below meth c Z n0 Q kc ks h cs sl (mkF m pc' Ls (v :: st))) : Go p l e R s m args below meth c Z n0 Q kc ks h cs sl (mkF m pc Ls (.int j :: .ref a :: st)) := by
  subst hp
  exact go_stepX K fun T t L X eT k => X.laload C.1 (by rw [eT]; exact A.1) (State.isArrayOf_alike C.2.2.2.2.2.1.alike A.2.1) A.2.2 hin hv (g := mkF m pc Ls (.int j :: .ref a :: st)) rfl rfl (hb C.2.1 hd) t k
theorem go_caload (C : Ctx p s m meth c Z y bytes maxL ret) {a : Addr} {cl : Cell} {j : Int32} {v : Value} (A : Arr Z h a cl .char) (hin : ¬ (j < 0 ∨ cl.slots.size ≤ j.toNatClampNeg)) (hv : cl.slots[j.toNatClampNeg]? = some v) (hd : decode bytes pc = .ok (.caload, 1)) (hp : pc + 1 = pc') (K : Go p l e R s m args below meth c Z n0 Q kc ks h cs sl (mkF m pc' Ls (v :: st))) : Go p l e R s m args below meth c Z n0 Q kc ks h cs sl (mkF m pc Ls (.int j :: .ref a :: st)) := by
  subst hp
  exact go_stepX K fun T t L X eT k => X.caload C.1 (by rw [eT]; exact A.1) (State.isArrayOf_alike C.2.2.2.2.2.1.alike A.2.1) A.2.2 hin hv (g := mkF m pc Ls (.int j :: .ref a :: st)) rfl rfl (hb C.2.1 hd) t k
theorem go_castY (C : Ctx p s m meth c Z y bytes maxL ret) {K0 : String} {index : Nat} {a : Addr} (w : (Jvm.Cond.classLink y.cls index K0).before a0 Z = true) (F : Ins Z h a K0 true) (hd : decode bytes pc = .ok (.checkcast index, 3)) (hp : pc + 3 = pc') (K : Go p l e R s m args below meth c Z n0 Q kc ks h cs sl (mkF m pc' Ls (.ref a :: st))) : Go p l e R s m args below meth c Z n0 Q kc ks h cs sl (mkF m pc Ls (.ref a :: st)) := by
  subst hp
  exact go_stepT K fun T L X eT => castY X C.1 C.2.2.2.2.2.1 C.2.2.2.2.2.2.1 w eT F (g := mkF m pc Ls (.ref a :: st)) rfl rfl (hb C.2.1 hd)
theorem go_castNull (C : Ctx p s m meth c Z y bytes maxL ret) {index : Nat} (hd : decode bytes pc = .ok (.checkcast index, 3)) (hp : pc + 3 = pc') (K : Go p l e R s m args below meth c Z n0 Q kc ks h cs sl (mkF m pc' Ls (.null :: st))) : Go p l e R s m args below meth c Z n0 Q kc ks h cs sl (mkF m pc Ls (.null :: st)) := by
  subst hp
  exact go_stepX K fun T t L X eT k => X.checkcastNull C.1 (g := mkF m pc Ls (.null :: st)) rfl rfl (hb C.2.1 hd) t k
theorem go_instY (C : Ctx p s m meth c Z y bytes maxL ret) {K0 : String} {index : Nat} {a : Addr} (w : (Jvm.Cond.classLink y.cls index K0).before a0 Z = true) (F : Ins Z h a K0 true) (hd : decode bytes pc = .ok (.instanceof index, 3)) (hp : pc + 3 = pc') (K : Go p l e R s m args below meth c Z n0 Q kc ks h cs sl (mkF m pc' Ls (.int 1 :: st))) : Go p l e R s m args below meth c Z n0 Q kc ks h cs sl (mkF m pc Ls (.ref a :: st)) := by
  subst hp
  exact go_stepT K fun T L X eT => instY X C.1 C.2.2.2.2.2.1 C.2.2.2.2.2.2.1 w eT F (g := mkF m pc Ls (.ref a :: st)) rfl rfl (hb C.2.1 hd)
theorem go_instNo (C : Ctx p s m meth c Z y bytes maxL ret) {K0 K1 : String} {index : Nat} {a : Addr} (w : (Jvm.Cond.classLink y.cls index K0).before a0 Z = true) (E : Exa Z h a K1) (F : ∃ c t, Z.vm.findClass K1 = some c ∧ Z.vm.findClass K0 = some t ∧ Z.vm.assignable c t = false) (hd : decode bytes pc = .ok (.instanceof index, 3)) (hp : pc + 3 = pc') (K : Go p l e R s m args below meth c Z n0 Q kc ks h cs sl (mkF m pc' Ls (.int 0 :: st))) : Go p l e R s m args below meth c Z n0 Q kc ks h cs sl (mkF m pc Ls (.ref a :: st)) := by
  subst hp
  exact go_stepT K fun T L X eT => instNo X C.1 C.2.2.2.2.2.1 C.2.2.2.2.2.2.1 w eT E F (g := mkF m pc Ls (.ref a :: st)) rfl rfl (hb C.2.1 hd)
theorem go_initO (C : Ctx p s m meth c Z y bytes maxL ret) {idx : Nat} {a : Addr} (w1 : (Jvm.Cond.methodLink y.cls idx Lib.objectInit).before a0 Z = true) (w2 : (Jvm.Cond.instanceMethod Lib.objectInit).before a0 Z = true) (w3 : (Jvm.Cond.code Lib.objectInit ⟨#[0xb1]⟩ 1 none).before a0 Z = true) (hsz : Ls.size = maxL) (hd : decode bytes pc = .ok (.invokespecial idx, 3)) (hp : pc + 3 = pc') (hf : 1 ≤ R.frames) (hl : (st.map fun v => v.category).sum + 12 ≤ R.locals) (K : Go p l e R s m args below meth c Z n0 Q kc ks h cs sl (mkF m pc' Ls st)) : Go p l e R s m args below meth c Z n0 Q kc ks h cs sl (mkF m pc Ls (.ref a :: st)) := by
  subst hp
  exact go_stepT K fun T L X eT => initO X C.1 C.2.2.2.2.2.1 C.2.2.2.2.2.2.1 w1 w2 w3 eT (g := mkF m pc Ls (.ref a :: st)) rfl (hsz.trans C.2.2.1.symm) rfl (hb C.2.1 hd) hf (W := (st.map fun v => v.category).sum) (by show 2 * 0 + _ ≤ _; omega) hl
theorem go_ret0 (C : Ctx p s m meth c Z y bytes maxL none) (hd : decode bytes pc = .ok (.return_, 1)) (hc : cs ≤ kc) (hs : sl ≤ ks) (q : Q none h) : Go p l e R s m args below meth c Z n0 Q kc ks h cs sl (mkF m pc Ls []) := fun T L hL O X eT => by
  obtain ⟨fs, hr, hrun, hended, hW, hsame⟩ := X.leave (v := none) (fun _ => rfl) C.2.2.2.2.1
  subst eT
  exact ⟨_, _, L, X.returnOut C.1 C.2.2.2.1 (hb C.2.1 hd) hr, hrun, hended, hL, O, hW, hsame.mono hc hs, q⟩
theorem go_retI (C : Ctx p s m meth c Z y bytes maxL (some .int)) {z : Int32} (hd : decode bytes pc = .ok (.ireturn, 1)) (hc : cs ≤ kc) (hs : sl ≤ ks) (q : Q (some (.int z)) h) : Go p l e R s m args below meth c Z n0 Q kc ks h cs sl (mkF m pc Ls (.int z :: st)) := fun T L hL O X eT => by
  obtain ⟨fs, hr, hrun, hended, hW, hsame⟩ := X.leave (v := some (.int z)) (fun h => by rw [C.2.2.2.1] at h; cases h) C.2.2.2.2.1
  subst eT
  exact ⟨_, _, L, retOut X C.1 C.2.2.2.1 rfl (Or.inl ⟨rfl, Or.inl rfl, _, rfl⟩) (hb C.2.1 hd) hr, hrun, hended, hL, O, hW, hsame.mono hc hs, q⟩
theorem go_retL (C : Ctx p s m meth c Z y bytes maxL (some .long)) {z : Int64} (hd : decode bytes pc = .ok (.lreturn, 1)) (hc : cs ≤ kc) (hs : sl ≤ ks) (q : Q (some (.long z)) h) : Go p l e R s m args below meth c Z n0 Q kc ks h cs sl (mkF m pc Ls (.long z :: st)) := fun T L hL O X eT => by
  obtain ⟨fs, hr, hrun, hended, hW, hsame⟩ := X.leave (v := some (.long z)) (fun h => by rw [C.2.2.2.1] at h; cases h) C.2.2.2.2.1
  subst eT
  exact ⟨_, _, L, retOut X C.1 C.2.2.2.1 rfl (Or.inr (Or.inl ⟨rfl, rfl, _, rfl⟩)) (hb C.2.1 hd) hr, hrun, hended, hL, O, hW, hsame.mono hc hs, q⟩
theorem go_retN {t : FieldType} (C : Ctx p s m meth c Z y bytes maxL (some t)) {z z' : Int32} (ht : t = .boolean ∨ t = .byte ∨ t = .char ∨ t = .short) (hz : nar t z = z') (hd : decode bytes pc = .ok (.ireturn, 1)) (hc : cs ≤ kc) (hs : sl ≤ ks) (q : Q (some (.int z')) h) : Go p l e R s m args below meth c Z n0 Q kc ks h cs sl (mkF m pc Ls (.int z :: st)) := fun T L hL O X eT => by
  subst hz
  obtain ⟨fs, hr, hrun, hended, hW, hsame⟩ := X.leave (v := some (.int (nar t z))) (fun h => by rw [C.2.2.2.1] at h; cases h) C.2.2.2.2.1
  subst eT
  exact ⟨_, _, L, retN X C.1 C.2.2.2.1 ht (hb C.2.1 hd) hr, hrun, hended, hL, O, hW, hsame.mono hc hs, q⟩
theorem go_retA {t : FieldType} (C : Ctx p s m meth c Z y bytes maxL (some t)) {w : Value} (ht : t.isReference = true) (hw : w.isRef = true) (hd : decode bytes pc = .ok (.areturn, 1)) (hc : cs ≤ kc) (hs : sl ≤ ks) (q : Q (some w) h) : Go p l e R s m args below meth c Z n0 Q kc ks h cs sl (mkF m pc Ls (w :: st)) := fun T L hL O X eT => by
  obtain ⟨fs, hr, hrun, hended, hW, hsame⟩ := X.leave (v := some w) (fun h => by rw [C.2.2.2.1] at h; cases h) C.2.2.2.2.1
  subst eT
  exact ⟨_, _, L, retOut X C.1 C.2.2.2.1 (by cases t <;> first | (cases ht; done) | (cases w <;> first | rfl | cases hw)) (Or.inr (Or.inr (Or.inr (Or.inr ⟨rfl, ht, hw⟩)))) (hb C.2.1 hd) hr, hrun, hended, hL, O, hW, hsame.mono hc hs, q⟩
theorem go_callS (C : Ctx p s m meth c Z y bytes maxL ret) {y' : MethodName} {bytes' : ByteArray} {maxL' : Nat} {ret' : Option FieldType} {rm' : Room} {as' : Array Value} {Q' : Option Value → Heap → Prop} {index W : Nat} {argsL rest : List Value} {ps : List FieldType} {r' : Option FieldType} (w1 : (Jvm.Cond.methodLink y.cls index y').before a0 Z = true) (w2 : (Jvm.Cond.static y').before a0 Z = true) (M : Met l Z n0 y' bytes' maxL' ret' [] rm' as' h Q') (wc : (Jvm.Cond.code y' bytes' maxL' ret').before a0 Z = true) (wz : (Jvm.Cond.initialized y'.cls).before a0 Z = true) (hy : y'.cls ≠ "java/lang/invoke/MethodHandle" ∧ y'.cls ≠ "java/lang/invoke/VarHandle") (hf : rm'.frames + 1 ≤ R.frames) (hW : (rest.map fun v => v.category).sum ≤ W) (hl : W + (maxL' + 11) + rm'.locals ≤ R.locals) (hc : cs + rm'.cells ≤ R.cells) (hs : sl + rm'.slots ≤ R.slots) (hsz : Ls.size = maxL)  (hlen : parseMethodDescriptor y'.desc = some ⟨ps, r'⟩) (hal : argsL.length = ps.length) (hst : st = argsL.reverse ++ rest) (has : as' = argsL.toArray) (hd : decode bytes pc = .ok (.invokestatic index, 3)) (hp : pc + 3 = pc')
    (K : ∀ v h', Q' v h' → Go p l e R s m args below meth c Z n0 Q kc ks h' (cs + rm'.cells) (sl + rm'.slots) (mkF m pc' Ls (v.toList ++ rest))) : Go p l e R s m args below meth c Z n0 Q kc ks h cs sl (mkF m pc Ls st) := fun T L0 hL O X eT => by
  subst hp has hst
  obtain ⟨v, _, ⟨T1, L1, k1, n1⟩, -, X1, ⟨Lc1, q1, l1, y1, z1⟩, s1⟩ := Jvm.LawKit.callS X C.1 (y := y') C.2.2.2.2.2.2.1 (mvT C.2.2.2.2.2.1 w1) (mvT C.2.2.2.2.2.1 w2) (mvT C.2.2.2.2.2.1 wz) (mvT C.2.2.2.2.2.1 wc) hy (backOf (W := W) (R := R) (p := p) (e := e) (below := below) (args := args) (len := 3) (Q := fun v h L => Fr n0 L ∧ Old Z n0 h ∧ Q' v h) M C.2.2.2.2.2.1 wc wz hf hl) (g := mkF m pc Ls (argsL.reverse ++ rest)) rfl (hsz.trans C.2.2.1.symm) (argsL := argsL) (rest := rest) (lenOf hlen hal) rfl (by show 2 * 0 + _ ≤ _; omega) (hb C.2.1 hd) (fun _ _ => ⟨rfl, eT, hc, hs⟩)
  dsimp only [Pt.U, Pt.locs, Pt.cells, Pt.slots] at X1 l1 y1 z1 s1 q1
  subst l1 y1 z1
  obtain ⟨N, O', q⟩ := q1
  obtain ⟨U, w, L', h1, r⟩ := K v _ q T1 _ (Fr.app hL N) O' X1 rfl
  exact ⟨U, w, L', s1 _ h1, r⟩
theorem go_callC (C : Ctx p s m meth c Z y bytes maxL ret) {y' : MethodName} {bytes' : ByteArray} {maxL' : Nat} {ret' : Option FieldType} {rm' : Room} {as' : Array Value} {Q' : Option Value → Heap → Prop} {index W : Nat} {argsL rest : List Value} {ps : List FieldType} {r' : Option FieldType} (w1 : (Jvm.Cond.methodLink y.cls index y').before a0 Z = true) (w2 : (Jvm.Cond.instanceMethod y').before a0 Z = true) (hin : y'.name = "<init>") (hr0 : ret' = none) (M : Met l Z n0 y' bytes' maxL' ret' [] rm' as' h Q') (wc : (Jvm.Cond.code y' bytes' maxL' ret').before a0 Z = true) (wz : (Jvm.Cond.initialized y'.cls).before a0 Z = true) (hy : y'.cls ≠ "java/lang/invoke/MethodHandle" ∧ y'.cls ≠ "java/lang/invoke/VarHandle") (hf : rm'.frames + 1 ≤ R.frames) (hW : (rest.map fun v => v.category).sum ≤ W) (hl : W + (maxL' + 11) + rm'.locals ≤ R.locals) (hc : cs + rm'.cells ≤ R.cells) (hs : sl + rm'.slots ≤ R.slots) (hsz : Ls.size = maxL) {a : Addr} (hlen : parseMethodDescriptor y'.desc = some ⟨ps, r'⟩) (hal : argsL.length = ps.length) (hst : st = argsL.reverse ++ .ref a :: rest) (has : as' = (.ref a :: argsL).toArray) (hd : decode bytes pc = .ok (.invokespecial index, 3)) (hp : pc + 3 = pc')
    (K : ∀ v h', Q' v h' → Go p l e R s m args below meth c Z n0 Q kc ks h' (cs + rm'.cells) (sl + rm'.slots) (mkF m pc' Ls (v.toList ++ rest))) : Go p l e R s m args below meth c Z n0 Q kc ks h cs sl (mkF m pc Ls st) := fun T L0 hL O X eT => by
  subst hp has hst
  subst hr0
  obtain ⟨v, _, ⟨T1, L1, k1, n1⟩, -, X1, ⟨Lc1, q1, l1, y1, z1⟩, s1⟩ := X.specialBack C.1 (y := y') hin C.2.2.2.2.2.2.1 (mvT C.2.2.2.2.2.1 w1) (mvT C.2.2.2.2.2.1 w2) (mvT C.2.2.2.2.2.1 wc) hy (backOf (W := W) (R := R) (p := p) (e := e) (below := below) (args := args) (len := 3) (Q := fun v h L => Fr n0 L ∧ Old Z n0 h ∧ Q' v h) M C.2.2.2.2.2.1 wc wz hf hl) (g := mkF m pc Ls (argsL.reverse ++ .ref a :: rest)) rfl (hsz.trans C.2.2.1.symm) (Steps.refl _) (a := a) (argsL := argsL) (rest := rest) (lenOf hlen hal) rfl (by show 2 * 0 + _ ≤ _; omega) (hb C.2.1 hd) (fun _ _ => ⟨rfl, eT, hc, hs⟩)
  dsimp only [Pt.U, Pt.locs, Pt.cells, Pt.slots] at X1 l1 y1 z1 s1 q1
  subst l1 y1 z1
  obtain ⟨N, O', q⟩ := q1
  obtain ⟨U, w, L', h1, r⟩ := K v _ q T1 _ (Fr.app hL N) O' X1 rfl
  exact ⟨U, w, L', s1.trans h1, r⟩
theorem go_callV (C : Ctx p s m meth c Z y bytes maxL ret) {y' : MethodName} {bytes' : ByteArray} {maxL' : Nat} {ret' : Option FieldType} {rm' : Room} {as' : Array Value} {Q' : Option Value → Heap → Prop} {index W : Nat} {argsL rest : List Value} {ps : List FieldType} {r' : Option FieldType} (w1 : (Jvm.Cond.methodLink y.cls index y').before a0 Z = true) (w2 : (Jvm.Cond.declares y').before a0 Z = true) {K0 : String} (w3 : (Jvm.Cond.selects K0 y' y').before a0 Z = true) (w4 : (Jvm.Cond.instanceMethod y').before a0 Z = true) (M : Met l Z n0 y' bytes' maxL' ret' [] rm' as' h Q') (wc : (Jvm.Cond.code y' bytes' maxL' ret').before a0 Z = true) (wz : (Jvm.Cond.initialized y'.cls).before a0 Z = true) (hy : y'.cls ≠ "java/lang/invoke/MethodHandle" ∧ y'.cls ≠ "java/lang/invoke/VarHandle") (hf : rm'.frames + 1 ≤ R.frames) (hW : (rest.map fun v => v.category).sum ≤ W) (hl : W + (maxL' + 11) + rm'.locals ≤ R.locals) (hc : cs + rm'.cells ≤ R.cells) (hs : sl + rm'.slots ≤ R.slots) (hsz : Ls.size = maxL) {a : Addr} (E : Exa Z h a K0) (hlen : parseMethodDescriptor y'.desc = some ⟨ps, r'⟩) (hal : argsL.length = ps.length) (hst : st = argsL.reverse ++ .ref a :: rest) (has : as' = (.ref a :: argsL).toArray) (hd : decode bytes pc = .ok (.invokevirtual index, 3)) (hp : pc + 3 = pc')
    (K : ∀ v h', Q' v h' → Go p l e R s m args below meth c Z n0 Q kc ks h' (cs + rm'.cells) (sl + rm'.slots) (mkF m pc' Ls (v.toList ++ rest))) : Go p l e R s m args below meth c Z n0 Q kc ks h cs sl (mkF m pc Ls st) := fun T L0 hL O X eT => by
  subst hp has hst
  obtain ⟨cq, kq, qa, qb, qc⟩ := isOf C.2.2.2.2.2.1 eT E
  obtain ⟨v, _, ⟨T1, L1, k1, n1⟩, -, X1, ⟨Lc1, q1, l1, y1, z1⟩, s1⟩ := X.virtualBack C.1 (y := y') (z := y') C.2.2.2.2.2.2.1 (mvT C.2.2.2.2.2.1 w1) (mvT C.2.2.2.2.2.1 w2) (notFace_of_selects (args := #[]) (mvT C.2.2.2.2.2.1 w3)) (mvT C.2.2.2.2.2.1 w3) (mvT C.2.2.2.2.2.1 w4) hy (backOf (W := W) (R := R) (p := p) (e := e) (below := below) (args := args) (len := 3) (Q := fun v h L => Fr n0 L ∧ Old Z n0 h ∧ Q' v h) M C.2.2.2.2.2.1 wc wz hf hl) qa qc (g := mkF m pc Ls (argsL.reverse ++ .ref a :: rest)) rfl (hsz.trans C.2.2.1.symm) (Steps.refl _) (argsL := argsL) (rest := rest) (lenOf hlen hal) rfl (by show 2 * 0 + _ ≤ _; omega) (hb C.2.1 hd) (fun _ _ => ⟨rfl, eT, hc, hs⟩)
  dsimp only [Pt.U, Pt.locs, Pt.cells, Pt.slots] at X1 l1 y1 z1 s1 q1
  subst l1 y1 z1
  obtain ⟨N, O', q⟩ := q1
  obtain ⟨U, w, L', h1, r⟩ := K v _ q T1 _ (Fr.app hL N) O' X1 rfl
  exact ⟨U, w, L', s1.trans h1, r⟩
theorem go_callU (C : Ctx p s m meth c Z y bytes maxL ret) {y' : MethodName} {bytes' : ByteArray} {maxL' : Nat} {ret' : Option FieldType} {rm' : Room} {as' : Array Value} {Q' : Option Value → Heap → Prop} {index W : Nat} {argsL rest : List Value} {ps : List FieldType} {r' : Option FieldType} {K1 : String} (w1 : (Jvm.Cond.methodLink y.cls index ⟨K1, y'.name, y'.desc⟩).before a0 Z = true) (w2 : (Jvm.Cond.sameMethod K1 y'.cls y'.name y'.desc).before a0 Z = true) (w3 : (Jvm.Cond.declares y').before a0 Z = true) {K0 : String} (w4 : (Jvm.Cond.selects K0 ⟨K1, y'.name, y'.desc⟩ y').before a0 Z = true) (w5 : (Jvm.Cond.instanceMethod y').before a0 Z = true) (M : Met l Z n0 y' bytes' maxL' ret' [] rm' as' h Q') (wc : (Jvm.Cond.code y' bytes' maxL' ret').before a0 Z = true) (wz : (Jvm.Cond.initialized y'.cls).before a0 Z = true) (hy : y'.cls ≠ "java/lang/invoke/MethodHandle" ∧ y'.cls ≠ "java/lang/invoke/VarHandle") (hf : rm'.frames + 1 ≤ R.frames) (hW : (rest.map fun v => v.category).sum ≤ W) (hl : W + (maxL' + 11) + rm'.locals ≤ R.locals) (hc : cs + rm'.cells ≤ R.cells) (hs : sl + rm'.slots ≤ R.slots) (hsz : Ls.size = maxL) {a : Addr} (E : Exa Z h a K0) (hlen : parseMethodDescriptor y'.desc = some ⟨ps, r'⟩) (hal : argsL.length = ps.length) (hst : st = argsL.reverse ++ .ref a :: rest) (has : as' = (.ref a :: argsL).toArray) (hd : decode bytes pc = .ok (.invokevirtual index, 3)) (hp : pc + 3 = pc')
    (K : ∀ v h', Q' v h' → Go p l e R s m args below meth c Z n0 Q kc ks h' (cs + rm'.cells) (sl + rm'.slots) (mkF m pc' Ls (v.toList ++ rest))) : Go p l e R s m args below meth c Z n0 Q kc ks h cs sl (mkF m pc Ls st) := fun T L0 hL O X eT => by
  subst hp has hst
  obtain ⟨cq, kq, qa, qb, qc⟩ := isOf C.2.2.2.2.2.1 eT E
  obtain ⟨v, _, ⟨T1, L1, k1, n1⟩, -, X1, ⟨Lc1, q1, l1, y1, z1⟩, s1⟩ := X.virtualBackUp C.1 (x := ⟨K1, y'.name, y'.desc⟩) (y := y') (owner := y'.cls) C.2.2.2.2.2.2.1 (mvT C.2.2.2.2.2.1 w1) (mvT C.2.2.2.2.2.1 w2) (mvT C.2.2.2.2.2.1 w3) hy (mvT C.2.2.2.2.2.1 w4) (mvT C.2.2.2.2.2.1 w5) (backOf (W := W) (R := R) (p := p) (e := e) (below := below) (args := args) (len := 3) (Q := fun v h L => Fr n0 L ∧ Old Z n0 h ∧ Q' v h) M C.2.2.2.2.2.1 wc wz hf hl) qa qc (g := mkF m pc Ls (argsL.reverse ++ .ref a :: rest)) rfl (hsz.trans C.2.2.1.symm) (Steps.refl _) (argsL := argsL) (rest := rest) (lenOf hlen hal) rfl (by show 2 * 0 + _ ≤ _; omega) (hb C.2.1 hd) (fun _ _ => ⟨rfl, eT, hc, hs⟩)
  dsimp only [Pt.U, Pt.locs, Pt.cells, Pt.slots] at X1 l1 y1 z1 s1 q1
  subst l1 y1 z1
  obtain ⟨N, O', q⟩ := q1
  obtain ⟨U, w, L', h1, r⟩ := K v _ q T1 _ (Fr.app hL N) O' X1 rfl
  exact ⟨U, w, L', s1.trans h1, r⟩
theorem go_callI (C : Ctx p s m meth c Z y bytes maxL ret) {y' : MethodName} {bytes' : ByteArray} {maxL' : Nat} {ret' : Option FieldType} {rm' : Room} {as' : Array Value} {Q' : Option Value → Heap → Prop} {index W : Nat} {argsL rest : List Value} {ps : List FieldType} {r' : Option FieldType} {xi : MethodName} {count : Nat} (w1 : (Jvm.Cond.methodLink y.cls index xi).before a0 Z = true) (w2 : (Jvm.Cond.declares xi).before a0 Z = true) (w3 : (Jvm.Cond.interfaceMethod xi.cls xi.cls xi.name xi.desc).before a0 Z = true) {K0 : String} (w4 : (Jvm.Cond.selects K0 xi y').before a0 Z = true) (w5 : (Jvm.Cond.instanceMethod y').before a0 Z = true) (w6 : (Jvm.Cond.publicMethod y').before a0 Z = true) (w7 : (Jvm.Cond.unhidden K0 xi.name xi.desc).before a0 Z = true) (w8 : (Jvm.Cond.castable K0 xi.cls).before a0 Z = true) (hfa : (Jvm.Cond.interfaceMethod xi.cls xi.cls xi.name xi.desc).faceAtom = true) (hyi : xi.cls ≠ "java/lang/invoke/MethodHandle" ∧ xi.cls ≠ "java/lang/invoke/VarHandle") (M : Met l Z n0 y' bytes' maxL' ret' [] rm' as' h Q') (wc : (Jvm.Cond.code y' bytes' maxL' ret').before a0 Z = true) (wz : (Jvm.Cond.initialized y'.cls).before a0 Z = true) (hy : y'.cls ≠ "java/lang/invoke/MethodHandle" ∧ y'.cls ≠ "java/lang/invoke/VarHandle") (hf : rm'.frames + 1 ≤ R.frames) (hW : (rest.map fun v => v.category).sum ≤ W) (hl : W + (maxL' + 11) + rm'.locals ≤ R.locals) (hc : cs + rm'.cells ≤ R.cells) (hs : sl + rm'.slots ≤ R.slots) (hsz : Ls.size = maxL) {a : Addr} (E : Exa Z h a K0) (hlen : parseMethodDescriptor xi.desc = some ⟨ps, r'⟩) (hal : argsL.length = ps.length) (hst : st = argsL.reverse ++ .ref a :: rest) (has : as' = (.ref a :: argsL).toArray) (hd : decode bytes pc = .ok (.invokeinterface index count, 5)) (hp : pc + 5 = pc')
    (K : ∀ v h', Q' v h' → Go p l e R s m args below meth c Z n0 Q kc ks h' (cs + rm'.cells) (sl + rm'.slots) (mkF m pc' Ls (v.toList ++ rest))) : Go p l e R s m args below meth c Z n0 Q kc ks h cs sl (mkF m pc Ls st) := fun T L0 hL O X eT => by
  subst hp has hst
  obtain ⟨cq, kq, qa, qb, qc⟩ := isOf C.2.2.2.2.2.1 eT E
  obtain ⟨v, _, ⟨T1, L1, k1, n1⟩, -, X1, ⟨Lc1, q1, l1, y1, z1⟩, s1⟩ := X.interfaceBack C.1 (xi := xi) (y := y') C.2.2.2.2.2.2.1 (mvT C.2.2.2.2.2.1 w1) (mvT C.2.2.2.2.2.1 w2) (mvT C.2.2.2.2.2.1 w3 (by simp [Cond.onTables, Cond.keepsFace, Cond.keeps, Cond.steady, hfa])) (mvT C.2.2.2.2.2.1 w4) (mvT C.2.2.2.2.2.1 w5) (mvT C.2.2.2.2.2.1 w6) (mvT C.2.2.2.2.2.1 w7) (mvT C.2.2.2.2.2.1 w8) hyi (backOf (W := W) (R := R) (p := p) (e := e) (below := below) (args := args) (len := 5) (Q := fun v h L => Fr n0 L ∧ Old Z n0 h ∧ Q' v h) M C.2.2.2.2.2.1 wc wz hf hl) qa qb qc (g := mkF m pc Ls (argsL.reverse ++ .ref a :: rest)) rfl (hsz.trans C.2.2.1.symm) (Steps.refl _) (argsL := argsL) (rest := rest) (lenOf hlen hal) rfl (by show 2 * 0 + _ ≤ _; omega) (hb C.2.1 hd) (fun _ _ => ⟨rfl, eT, hc, hs⟩)
  dsimp only [Pt.U, Pt.locs, Pt.cells, Pt.slots] at X1 l1 y1 z1 s1 q1
  subst l1 y1 z1
  obtain ⟨N, O', q⟩ := q1
  obtain ⟨U, w, L', h1, r⟩ := K v _ q T1 _ (Fr.app hL N) O' X1 rfl
  exact ⟨U, w, L', s1.trans h1, r⟩
def Ar (Z : State) (h : Heap) (a : Addr) (ty : FieldType) (k : ClassId) (vs : List Value) : Prop := ∃ cl : Cell, Arr Z h a cl ty ∧ cl.cls = k ∧ cl.slots.toList = vs
theorem Ar.ext {a : Addr} {ty : FieldType} {k : ClassId} {vs : List Value} (F : Ar Z h a ty k vs) (E : Ext h h') : Ar Z h' a ty k vs := by obtain ⟨cl, A, r⟩ := F; exact ⟨cl, A.ext E, r⟩
theorem Ar.other {a b : Addr} {sl : Nat} {v : Value} {ty : FieldType} {k : ClassId} {vs : List Value} (F : Ar Z h b ty k vs) (W : Wr h h' a sl v) (q : b ≠ a) : Ar Z h' b ty k vs := by obtain ⟨cl, A, r⟩ := F; exact ⟨cl, A.other W q, r⟩
theorem Ar.keep {a : Addr} {ty : FieldType} {k : ClassId} {vs : List Value} {ws : List Addr} (F : Ar Z h a ty k vs) (K : Keep h h' ws) (q : a ∉ ws) : Ar Z h' a ty k vs := by obtain ⟨cl, A, r⟩ := F; exact ⟨cl, ⟨K.2.1 a cl A.1 q, A.2⟩, r⟩
theorem Ar.lt {a : Addr} {ty : FieldType} {k : ClassId} {vs : List Value} (F : Ar Z h a ty k vs) : a < h.size := by obtain ⟨cl, A, r⟩ := F; exact A.lt
theorem Ar.new {a : Addr} {ty : FieldType} {k : ClassId} {n : Int32} {len : Nat} (A : Arr Z h a (newA k ty n) ty) (hn : n.toNatClampNeg = len) : Ar Z h a ty k (List.replicate len (defaultValue ty)) := ⟨_, A, rfl, by subst hn; simp [newA]⟩
theorem Ar.inb {cl : Cell} {vs : List Value} {j : Int32} {i : Nat} (hn : ¬ j < 0) (hj : j.toNatClampNeg = i) (e0 : cl.slots.toList = vs) (hi : i < vs.length) : ¬ (j < 0 ∨ cl.slots.size ≤ j.toNatClampNeg) := by
  subst e0 hj
  rw [Array.length_toList] at hi
  exact fun q => q.elim hn (fun q => absurd hi (Nat.not_lt.mpr q))
theorem Ar.upd {a : Addr} {ty : FieldType} {cl : Cell} {vs : List Value} {j : Int32} {i : Nat} {v : Value} (A : Arr Z h a (cl.setSlot j.toNatClampNeg v) ty) (hj : j.toNatClampNeg = i) (e0 : cl.slots.toList = vs) : Ar Z h a ty cl.cls (vs.set i v) := ⟨_, A, rfl, by subst hj e0; simp [Cell.setSlot]⟩
theorem go_newPA (C : Ctx p s m meth c Z y bytes maxL ret) {aty : ArrayType} {n : Int32} {len : Nat} {ty : FieldType} (hty : newarray.typeOf aty = ty) (w : (Jvm.Cond.arrayClass ty).before a0 Z = true) (hd : decode bytes pc = .ok (.newarray aty, 2)) (hp : pc + 2 = pc') (hn : ¬ n < 0) (hlen : n.toNatClampNeg = len) (hb' : len * 8 ≤ 536870912) (hc : cs + 1 ≤ R.cells) (hl : sl + len ≤ R.slots)
    (K : ∀ h' a k, a = h.size → n0 ≤ a → Ext h h' → Ar Z h' a ty k (List.replicate len (defaultValue ty)) → Go p l e R s m args below meth c Z n0 Q kc ks h' (cs + 1) (sl + len) (mkF m pc' Ls (.ref a :: st))) : Go p l e R s m args below meth c Z n0 Q kc ks h cs sl (mkF m pc Ls (.int n :: st)) := by
  subst hty
  exact go_newP C w hd hp hn (Nat.le_of_eq hlen) hb' hc hl fun h' a k e1 e2 E A => K h' a k e1 e2 E (Ar.new A hlen)
theorem go_newRA (C : Ctx p s m meth c Z y bytes maxL ret) {K0 : String} {index : Nat} {n : Int32} {len : Nat} (w1 : (Jvm.Cond.classLink y.cls index K0).before a0 Z = true) (w2 : (Jvm.Cond.arrayOver (.object K0)).before a0 Z = true) (hd : decode bytes pc = .ok (.anewarray index, 3)) (hp : pc + 3 = pc') (hn : ¬ n < 0) (hlen : n.toNatClampNeg = len) (hb' : len * 8 ≤ 536870912) (hc : cs + 1 ≤ R.cells) (hl : sl + len ≤ R.slots)
    (K : ∀ h' a k, a = h.size → n0 ≤ a → Ext h h' → Ar Z h' a (.object K0) k (List.replicate len .null) → Ovr Z k K0 → Go p l e R s m args below meth c Z n0 Q kc ks h' (cs + 1) (sl + len) (mkF m pc' Ls (.ref a :: st))) : Go p l e R s m args below meth c Z n0 Q kc ks h cs sl (mkF m pc Ls (.int n :: st)) :=
  go_newR C w1 w2 hd hp hn (Nat.le_of_eq hlen) hb' hc hl fun h' a k e1 e2 E A O => K h' a k e1 e2 E (Ar.new A hlen) O
theorem go_iaset (C : Ctx p s m meth c Z y bytes maxL ret) {a : Addr} {k : ClassId} {vs vs' : List Value} {j : Int32} {i : Nat} {x : Int32} (A : Ar Z h a .int k vs) (hn : ¬ j < 0) (hj : j.toNatClampNeg = i) (hi : i < vs.length) (hvs : vs.set i (.int x) = vs') (hd : decode bytes pc = .ok (.iastore, 1)) (hp : pc + 1 = pc') (ha : n0 ≤ a)
    (K : ∀ h', Wr h h' a i (.int x) → Ar Z h' a .int k vs' → Go p l e R s m args below meth c Z n0 Q kc ks h' cs sl (mkF m pc' Ls st)) : Go p l e R s m args below meth c Z n0 Q kc ks h cs sl (mkF m pc Ls (.int x :: .int j :: .ref a :: st)) := by
  obtain ⟨cl, A, rfl, e0⟩ := A
  subst hvs
  exact go_stI C A (Ar.inb hn hj e0 hi) hd hp ha fun h' W A' => K h' (hj ▸ W) (Ar.upd A' hj e0)
theorem go_laset (C : Ctx p s m meth c Z y bytes maxL ret) {a : Addr} {k : ClassId} {vs vs' : List Value} {j : Int32} {i : Nat} {x : Int64} (A : Ar Z h a .long k vs) (hn : ¬ j < 0) (hj : j.toNatClampNeg = i) (hi : i < vs.length) (hvs : vs.set i (.long x) = vs') (hd : decode bytes pc = .ok (.lastore, 1)) (hp : pc + 1 = pc') (ha : n0 ≤ a)
    (K : ∀ h', Wr h h' a i (.long x) → Ar Z h' a .long k vs' → Go p l e R s m args below meth c Z n0 Q kc ks h' cs sl (mkF m pc' Ls st)) : Go p l e R s m args below meth c Z n0 Q kc ks h cs sl (mkF m pc Ls (.long x :: .int j :: .ref a :: st)) := by
  obtain ⟨cl, A, rfl, e0⟩ := A
  subst hvs
  exact go_stJ C A (Ar.inb hn hj e0 hi) hd hp ha fun h' W A' => K h' (hj ▸ W) (Ar.upd A' hj e0)
theorem go_caset (C : Ctx p s m meth c Z y bytes maxL ret) {a : Addr} {k : ClassId} {vs vs' : List Value} {j : Int32} {i : Nat} {x : Int32} (A : Ar Z h a .char k vs) (hn : ¬ j < 0) (hj : j.toNatClampNeg = i) (hi : i < vs.length) (hvs : vs.set i (.int (nar .char x)) = vs') (hd : decode bytes pc = .ok (.castore, 1)) (hp : pc + 1 = pc') (ha : n0 ≤ a)
    (K : ∀ h', Wr h h' a i (.int (nar .char x)) → Ar Z h' a .char k vs' → Go p l e R s m args below meth c Z n0 Q kc ks h' cs sl (mkF m pc' Ls st)) : Go p l e R s m args below meth c Z n0 Q kc ks h cs sl (mkF m pc Ls (.int x :: .int j :: .ref a :: st)) := by
  obtain ⟨cl, A, rfl, e0⟩ := A
  subst hvs
  exact go_stC C A (Ar.inb hn hj e0 hi) hd hp ha fun h' W A' => K h' (hj ▸ W) (Ar.upd A' hj e0)
theorem go_raset (C : Ctx p s m meth c Z y bytes maxL ret) {a b : Addr} {k : ClassId} {K0 : String} {vs vs' : List Value} {j : Int32} {i : Nat} (A : Ar Z h a (.object K0) k vs) (V : Ovr Z k K0) (I : Ins Z h b K0 true) (hn : ¬ j < 0) (hj : j.toNatClampNeg = i) (hi : i < vs.length) (hvs : vs.set i (.ref b) = vs') (hd : decode bytes pc = .ok (.aastore, 1)) (hp : pc + 1 = pc') (ha : n0 ≤ a)
    (K : ∀ h', Wr h h' a i (.ref b) → Ar Z h' a (.object K0) k vs' → Go p l e R s m args below meth c Z n0 Q kc ks h' cs sl (mkF m pc' Ls st)) : Go p l e R s m args below meth c Z n0 Q kc ks h cs sl (mkF m pc Ls (.ref b :: .int j :: .ref a :: st)) := by
  obtain ⟨cl, A, rfl, e0⟩ := A
  subst hvs
  exact go_stR C A (Ar.inb hn hj e0 hi) rfl (Sto.of A V I) hd hp ha fun h' W A' => K h' (hj ▸ W) (Ar.upd A' hj e0)
theorem go_raget (C : Ctx p s m meth c Z y bytes maxL ret) {a : Addr} {k : ClassId} {vs : List Value} {ty : FieldType} {j : Int32} {i : Nat} {v : Value} (A : Ar Z h a ty k vs) (hty : ty.isReference = true) (hn : ¬ j < 0) (hj : j.toNatClampNeg = i) (hv : vs[i]? = some v) (hd : decode bytes pc = .ok (.aaload, 1)) (hp : pc + 1 = pc') (K : Go p l e R s m args below meth c Z n0 Q kc ks h cs sl (mkF m pc' Ls (v :: st))) : Go p l e R s m args below meth c Z n0 Q kc ks h cs sl (mkF m pc Ls (.int j :: .ref a :: st)) := by
  obtain ⟨cl, A, rfl, e0⟩ := A
  exact go_aaload C A hty (Ar.inb hn hj e0 (List.getElem?_eq_some_iff.mp hv).1) (by subst e0 hj; rw [← hv, Array.getElem?_toList]) hd hp K
theorem go_alen (C : Ctx p s m meth c Z y bytes maxL ret) {a : Addr} {k : ClassId} {vs : List Value} {ty : FieldType} {z : Int32} (A : Ar Z h a ty k vs) (hz : vs.length.toInt32 = z) (hd : decode bytes pc = .ok (.arraylength, 1)) (hp : pc + 1 = pc') (K : Go p l e R s m args below meth c Z n0 Q kc ks h cs sl (mkF m pc' Ls (.int z :: st))) : Go p l e R s m args below meth c Z n0 Q kc ks h cs sl (mkF m pc Ls (.ref a :: st)) := by
  obtain ⟨cl, A, rfl, e0⟩ := A
  exact go_arraylength C A (by rw [← hz, ← e0, Array.length_toList]) hd hp K
theorem go_iaget (C : Ctx p s m meth c Z y bytes maxL ret) {a : Addr} {k : ClassId} {vs : List Value} {j : Int32} {i : Nat} {v : Value} (A : Ar Z h a .int k vs) (hn : ¬ j < 0) (hj : j.toNatClampNeg = i) (hv : vs[i]? = some v) (hd : decode bytes pc = .ok (.iaload, 1)) (hp : pc + 1 = pc') (K : Go p l e R s m args below meth c Z n0 Q kc ks h cs sl (mkF m pc' Ls (v :: st))) : Go p l e R s m args below meth c Z n0 Q kc ks h cs sl (mkF m pc Ls (.int j :: .ref a :: st)) := by
  obtain ⟨cl, A, rfl, e0⟩ := A
  exact go_iaload C A (Ar.inb hn hj e0 (List.getElem?_eq_some_iff.mp hv).1) (by subst e0 hj; rw [← hv, Array.getElem?_toList]) hd hp K
theorem go_laget (C : Ctx p s m meth c Z y bytes maxL ret) {a : Addr} {k : ClassId} {vs : List Value} {j : Int32} {i : Nat} {v : Value} (A : Ar Z h a .long k vs) (hn : ¬ j < 0) (hj : j.toNatClampNeg = i) (hv : vs[i]? = some v) (hd : decode bytes pc = .ok (.laload, 1)) (hp : pc + 1 = pc') (K : Go p l e R s m args below meth c Z n0 Q kc ks h cs sl (mkF m pc' Ls (v :: st))) : Go p l e R s m args below meth c Z n0 Q kc ks h cs sl (mkF m pc Ls (.int j :: .ref a :: st)) := by
  obtain ⟨cl, A, rfl, e0⟩ := A
  exact go_laload C A (Ar.inb hn hj e0 (List.getElem?_eq_some_iff.mp hv).1) (by subst e0 hj; rw [← hv, Array.getElem?_toList]) hd hp K
theorem go_caget (C : Ctx p s m meth c Z y bytes maxL ret) {a : Addr} {k : ClassId} {vs : List Value} {j : Int32} {i : Nat} {v : Value} (A : Ar Z h a .char k vs) (hn : ¬ j < 0) (hj : j.toNatClampNeg = i) (hv : vs[i]? = some v) (hd : decode bytes pc = .ok (.caload, 1)) (hp : pc + 1 = pc') (K : Go p l e R s m args below meth c Z n0 Q kc ks h cs sl (mkF m pc' Ls (v :: st))) : Go p l e R s m args below meth c Z n0 Q kc ks h cs sl (mkF m pc Ls (.int j :: .ref a :: st)) := by
  obtain ⟨cl, A, rfl, e0⟩ := A
  exact go_caload C A (Ar.inb hn hj e0 (List.getElem?_eq_some_iff.mp hv).1) (by subst e0 hj; rw [← hv, Array.getElem?_toList]) hd hp K
theorem go_clone (C : Ctx p s m meth c Z y bytes maxL ret) {ad : String} {index : Nat} {a : Addr} {ty : FieldType} {k : ClassId} {vs : List Value} {len W : Nat}
    (w1 : (Jvm.Cond.methodLink y.cls index ⟨ad, "clone", "()Ljava/lang/Object;"⟩).before a0 Z = true) (w2 : (Jvm.Cond.sameMethod ad "java/lang/Object" "clone" "()Ljava/lang/Object;").before a0 Z = true) (w3 : (Jvm.Cond.native ⟨"java/lang/Object", "clone", "()Ljava/lang/Object;"⟩).before a0 Z = true)
    (w4 : (Jvm.Cond.instanceMethod ⟨"java/lang/Object", "clone", "()Ljava/lang/Object;"⟩).before a0 Z = true) (w5 : (Jvm.Cond.selects ad ⟨ad, "clone", "()Ljava/lang/Object;"⟩ ⟨"java/lang/Object", "clone", "()Ljava/lang/Object;"⟩).before a0 Z = true) (w6 : (Jvm.Cond.castable ad "java/lang/Cloneable").before a0 Z = true)
    (A : Ar Z h a ty k vs) (E : Exa Z h a ad) (hfit : ∀ v ∈ vs, fits ty v = true) (hsz : Ls.size = maxL) (hd : decode bytes pc = .ok (.invokevirtual index, 3)) (hp : pc + 3 = pc') (hf : 1 ≤ R.frames) (hW : (st.map fun v => v.category).sum ≤ W) (hl : W + 14 ≤ R.locals) (hlen : vs.length = len) (hc : cs + 1 ≤ R.cells) (hsl : sl + len ≤ R.slots)
    (K : ∀ h' b, b = h.size → n0 ≤ b → Ext h h' → Ar Z h' b ty k vs → Exa Z h' b ad → Go p l e R s m args below meth c Z n0 Q kc ks h' (cs + 1) (sl + len) (mkF m pc' Ls (.ref b :: st))) : Go p l e R s m args below meth c Z n0 Q kc ks h cs sl (mkF m pc Ls (.ref a :: st)) := fun T L0 hL O X eT => by
  subst hp
  obtain ⟨cl, A, hk', e0⟩ := A
  have FC : FitC Z cl := fitC_of A fun i hi v hv => hfit v (by subst e0; exact List.mem_of_getElem? (by rw [Array.getElem?_toList]; exact hv))
  obtain ⟨T', h', X', e', E', A', Ex', hs⟩ := cloneA X C.1 C.2.2.2.2.2.1 C.2.2.2.2.2.2.1 w1 w2 w3 w4 w5 w6 eT A E FC (g := mkF m pc Ls (.ref a :: st)) rfl (hsz.trans C.2.2.1.symm) rfl (hb C.2.1 hd) hf (W := W) (by show 2 * 0 + _ ≤ _; omega) hl (cap := len) (by rw [← hlen, ← e0, Array.length_toList]; exact Nat.le_refl _) hc hsl
  obtain ⟨U, v, L', h1, r⟩ := K h' h.size rfl (O.1 ▸ O.2.1) E' ⟨cloneOf cl, A', hk', e0⟩ Ex' T' _ hL (O.ext E') X' e'
  exact ⟨U, v, L', hs U h1, r⟩
theorem go_newPE (C : Ctx p s m meth c Z y bytes maxL ret) {aty : ArrayType} {n : Int32} {len : Nat} {ty : FieldType} {ad : String} (hty : newarray.typeOf aty = ty) (had : "[" ++ ty.toString = ad) (w : (Jvm.Cond.arrayClass ty).before a0 Z = true) (hd : decode bytes pc = .ok (.newarray aty, 2)) (hp : pc + 2 = pc') (hn : ¬ n < 0) (hlen : n.toNatClampNeg = len) (hb' : len * 8 ≤ 536870912) (hc : cs + 1 ≤ R.cells) (hl : sl + len ≤ R.slots)
    (K : ∀ h' a k, a = h.size → n0 ≤ a → Ext h h' → Ar Z h' a ty k (List.replicate len (defaultValue ty)) → Exa Z h' a ad → Go p l e R s m args below meth c Z n0 Q kc ks h' (cs + 1) (sl + len) (mkF m pc' Ls (.ref a :: st))) : Go p l e R s m args below meth c Z n0 Q kc ks h cs sl (mkF m pc Ls (.int n :: st)) := fun T L0 hL O X eT => by
  subst hp hty
  obtain ⟨T', h', k, X', e', E, A, Ex, hs⟩ := newPE X C.1 C.2.2.2.2.2.1 w eT (g := mkF m pc Ls (.int n :: st)) rfl (hb C.2.1 hd) rfl hn (Nat.le_of_eq hlen) hb' hc hl had
  obtain ⟨U, v, L', h1, r⟩ := K h' h.size k rfl (O.1 ▸ O.2.1) E (Ar.new A hlen) Ex T' _ hL (O.ext E) X' e'
  exact ⟨U, v, L', hs U h1, r⟩
theorem go_newAA (C : Ctx p s m meth c Z y bytes maxL ret) {K0 ad : String} {ty : FieldType} {index : Nat} {n : Int32} {len : Nat} (hC : (FieldType.array ty).toString = K0) (had : "[" ++ K0 = ad) (w1 : (Jvm.Cond.classLink y.cls index K0).before a0 Z = true) (w2 : (Jvm.Cond.arrayOver (.array ty)).before a0 Z = true) (hd : decode bytes pc = .ok (.anewarray index, 3)) (hp : pc + 3 = pc') (hn : ¬ n < 0) (hlen : n.toNatClampNeg = len) (hb' : len * 8 ≤ 536870912) (hc : cs + 1 ≤ R.cells) (hl : sl + len ≤ R.slots)
    (K : ∀ h' a k, a = h.size → n0 ≤ a → Ext h h' → Ar Z h' a (.array ty) k (List.replicate len .null) → OvrA Z k ty K0 → Exa Z h' a ad → Go p l e R s m args below meth c Z n0 Q kc ks h' (cs + 1) (sl + len) (mkF m pc' Ls (.ref a :: st))) : Go p l e R s m args below meth c Z n0 Q kc ks h cs sl (mkF m pc Ls (.int n :: st)) := fun T L0 hL O X eT => by
  subst hp
  obtain ⟨T', h', k, X', e', E, A, Ex, V, hs⟩ := newRA X C.1 C.2.2.2.2.2.1 C.2.2.2.2.2.2.1 hC w1 w2 eT (g := mkF m pc Ls (.int n :: st)) rfl (hb C.2.1 hd) rfl hn (Nat.le_of_eq hlen) hb' hc hl had
  obtain ⟨U, v, L', h1, r⟩ := K h' h.size k rfl (O.1 ▸ O.2.1) E (Ar.new A hlen) V Ex T' _ hL (O.ext E) X' e'
  exact ⟨U, v, L', hs U h1, r⟩
theorem go_aaset (C : Ctx p s m meth c Z y bytes maxL ret) {a b : Addr} {k : ClassId} {K0 : String} {ty : FieldType} {vs vs' : List Value} {j : Int32} {i : Nat} (A : Ar Z h a (.array ty) k vs) (V : OvrA Z k ty K0) (I : Ins Z h b K0 true) (hn : ¬ j < 0) (hj : j.toNatClampNeg = i) (hi : i < vs.length) (hvs : vs.set i (.ref b) = vs') (hd : decode bytes pc = .ok (.aastore, 1)) (hp : pc + 1 = pc') (ha : n0 ≤ a)
    (K : ∀ h', Wr h h' a i (.ref b) → Ar Z h' a (.array ty) k vs' → Go p l e R s m args below meth c Z n0 Q kc ks h' cs sl (mkF m pc' Ls st)) : Go p l e R s m args below meth c Z n0 Q kc ks h cs sl (mkF m pc Ls (.ref b :: .int j :: .ref a :: st)) := by
  obtain ⟨cl, A, rfl, e0⟩ := A
  subst hvs
  exact go_stR C A (Ar.inb hn hj e0 hi) rfl (Sto.ofVA A rfl V I) hd hp ha fun h' W A' => K h' (hj ▸ W) (Ar.upd A' hj e0)
theorem go_dupX2 (C : Ctx p s m meth c Z y bytes maxL ret) {u v w : Value} (hd : decode bytes pc = .ok (.dup_x2, 1)) (hu : u.category = 1) (hv : v.category = 1) (hw : w.category = 1) (hp : pc + 1 = pc') (K : Go p l e R s m args below meth c Z n0 Q kc ks h cs sl (mkF m pc' Ls (u :: v :: w :: u :: st))) : Go p l e R s m args below meth c Z n0 Q kc ks h cs sl (mkF m pc Ls (u :: v :: w :: st)) := by
  subst hp
  refine go_step K fun T t a k => ?_
  have hx := C.1
  have hd' := hb C.2.1 hd
  jvm_step a [a.top, hx, hd', hu, hv, hw]
  exact k
theorem go_callP (C : Ctx p s m meth c Z y bytes maxL ret) {y' : MethodName} {bytes' : ByteArray} {maxL' : Nat} {ret' : Option FieldType} {rm' : Room} {as' : Array Value} {Q' : Option Value → Heap → Prop} {index W : Nat} {argsL rest : List Value} {ps : List FieldType} {r' : Option FieldType} (w1 : (Jvm.Cond.methodLink y.cls index y').before a0 Z = true) (w2 : (Jvm.Cond.instanceMethod y').before a0 Z = true) (w3 : (Jvm.Cond.privateMethod y').before a0 Z = true) {nn : Nat} (wi : (Jvm.Cond.instantiable y'.cls nn).before a0 Z = true) (M : Met l Z n0 y' bytes' maxL' ret' [] rm' as' h Q') (wc : (Jvm.Cond.code y' bytes' maxL' ret').before a0 Z = true) (wz : (Jvm.Cond.initialized y'.cls).before a0 Z = true) (hy : y'.cls ≠ "java/lang/invoke/MethodHandle" ∧ y'.cls ≠ "java/lang/invoke/VarHandle") (hf : rm'.frames + 1 ≤ R.frames) (hW : (rest.map fun v => v.category).sum ≤ W) (hl : W + (maxL' + 11) + rm'.locals ≤ R.locals) (hc : cs + rm'.cells ≤ R.cells) (hs : sl + rm'.slots ≤ R.slots) (hsz : Ls.size = maxL) {a : Addr} {K0 : String} (E : Exa Z h a K0) (hlen : parseMethodDescriptor y'.desc = some ⟨ps, r'⟩) (hal : argsL.length = ps.length) (hst : st = argsL.reverse ++ .ref a :: rest) (has : as' = (.ref a :: argsL).toArray) (hd : decode bytes pc = .ok (.invokevirtual index, 3)) (hp : pc + 3 = pc')
    (K : ∀ v h', Q' v h' → Go p l e R s m args below meth c Z n0 Q kc ks h' (cs + rm'.cells) (sl + rm'.slots) (mkF m pc' Ls (v.toList ++ rest))) : Go p l e R s m args below meth c Z n0 Q kc ks h cs sl (mkF m pc Ls st) := fun T L0 hL O X eT => by
  subst hp has hst
  obtain ⟨mk, methM, hnamed, hmethM, hstM, habM⟩ := Cond.instanceMethod_spec (mvT (args := args) C.2.2.2.2.2.1 w2)
  obtain ⟨methM', cM, hmethM', -, -, -, -, -, -, hsigM⟩ := Cond.code_spec hnamed (mvT (args := args) C.2.2.2.2.2.1 wc)
  cases hmethM.symm.trans hmethM'
  obtain ⟨c0, kP, i1, hkP, -, hkPi0, -⟩ := Cond.instantiable_spec (mvT (args := args) C.2.2.2.2.2.1 wi)
  have hkPi := (Bool.or_eq_false_iff.mp hkPi0).1
  cases (findClass_of_methodNamed hnamed).symm.trans i1
  obtain ⟨cell, hcell0, hobj⟩ := E.cell
  have hcell : T.heap[a]? = some cell := by rw [eT]; exact hcell0
  have hselP : selectMethod e.platform s.vm cell.cls mk = .method mk := selectMethod_private hmethM (Cond.privateMethod_at (mvP (args := args) C.2.2.2.2.2.1 w3) mk methM hnamed hmethM)
  obtain ⟨vm₁, X₁, hstep₁⟩ := X.invokevirtual C.1 C.2.2.2.2.2.2.1 (mvT C.2.2.2.2.2.1 w1) hnamed hmethM hstM hkP hkPi hy (a := a) (cell := cell) hcell hobj hselP hmethM habM hkP hkPi (g := mkF m pc Ls (argsL.reverse ++ .ref a :: rest)) rfl (argsL := argsL) (rest := rest) (lenOf hlen hal _ hsigM) rfl (hb C.2.1 hd)
  obtain ⟨v, ⟨T1, L1, k1, n1⟩, X1, ⟨Lc1, q1, l1, y1, z1⟩, hsteps⟩ := (backOf (W := W) (R := R) (p := p) (e := e) (below := below) (args := args) (len := 3) (Q := fun v h L => Fr n0 L ∧ Old Z n0 h ∧ Q' v h) M C.2.2.2.2.2.1 wc wz hf hl) m meth c ⟨T.setVm vm₁, L0, cs, sl⟩ (mkF m pc Ls rest) (.invokevirtual index) mk (.ref a :: argsL).toArray X₁ rfl (hsz.trans C.2.2.1.symm) (hb C.2.1 hd) (by show 2 * 0 + (rest.map fun v => v.category).sum ≤ W; omega) (X₁.named hnamed) ⟨rfl, eT, hc, hs⟩
  have s1 := (hstep₁ _ fun acts => by rw [doInvoke_state]; exact Steps.refl _).trans hsteps
  dsimp only [Pt.U, Pt.locs, Pt.cells, Pt.slots] at X1 l1 y1 z1 s1 q1
  subst l1 y1 z1
  obtain ⟨N, O', q⟩ := q1
  obtain ⟨U, w, L', h1, r⟩ := K v _ q T1 _ (Fr.app hL N) O' X1 rfl
  exact ⟨U, w, L', s1.trans h1, r⟩
end OwnGo
theorem wd_0 {Z : State} {a0 : Array Value} (hw : ∀ d ∈ tables_1, d.before a0 Z = true) : (Jvm.Cond.arrayClass Jvm.ClassFile.FieldType.int).before a0 Z = true := hw _ (List.mem_of_getElem? (i := 0) rfl)
theorem wd_1 {Z : State} {a0 : Array Value} (hw : ∀ d ∈ tables_1, d.before a0 Z = true) : (Jvm.Cond.constant "com/example/ratatoskr/ratatoskr/gmtp/StatusOfPinLaw" (43 : Nat) (2147483647 : Int32)).before a0 Z = true := hw _ (List.mem_of_getElem? (i := 1) rfl)
theorem wd_2 {Z : State} {a0 : Array Value} (hw : ∀ d ∈ tables_1, d.before a0 Z = true) : (Jvm.Cond.methodLink "com/example/ratatoskr/ratatoskr/gmtp/StatusOfPinLaw" (44 : Nat) ({ cls := "com/example/ratatoskr/ratatoskr/gmtp/Status", name := "of", desc := "(I)Lcom/example/ratatoskr/ratatoskr/gmtp/Status;" } : Jvm.MethodName)).before a0 Z = true := hw _ (List.mem_of_getElem? (i := 2) rfl)
theorem wd_3 {Z : State} {a0 : Array Value} (hw : ∀ d ∈ tables_1, d.before a0 Z = true) : (Jvm.Cond.static ({ cls := "com/example/ratatoskr/ratatoskr/gmtp/Status", name := "of", desc := "(I)Lcom/example/ratatoskr/ratatoskr/gmtp/Status;" } : Jvm.MethodName)).before a0 Z = true := hw _ (List.mem_of_getElem? (i := 3) rfl)
theorem wd_4 {Z : State} {a0 : Array Value} (hw : ∀ d ∈ tables_1, d.before a0 Z = true) : (Jvm.Cond.initialized "com/example/ratatoskr/ratatoskr/gmtp/Status").before a0 Z = true := hw _ (List.mem_of_getElem? (i := 4) rfl)
theorem wd_5 {Z : State} {a0 : Array Value} (hw : ∀ d ∈ tables_1, d.before a0 Z = true) : (Jvm.Cond.code ({ cls := "com/example/ratatoskr/ratatoskr/gmtp/Status", name := "of", desc := "(I)Lcom/example/ratatoskr/ratatoskr/gmtp/Status;" } : Jvm.MethodName) prog_23_method_4_code (5 : Nat) (Option.some (Jvm.ClassFile.FieldType.object "com/example/ratatoskr/ratatoskr/gmtp/Status"))).before a0 Z = true := hw _ (List.mem_of_getElem? (i := 5) rfl)
theorem wd_6 {Z : State} {a0 : Array Value} (hw : ∀ d ∈ tables_1, d.before a0 Z = true) : (Jvm.Cond.fieldLink "com/example/ratatoskr/ratatoskr/gmtp/Status" (64 : Nat) "com/example/ratatoskr/ratatoskr/gmtp/Status" "ALL" "[Lcom/example/ratatoskr/ratatoskr/gmtp/Status;").before a0 Z = true := hw _ (List.mem_of_getElem? (i := 6) rfl)
theorem wd_7 {Z : State} {a0 : Array Value} (hw : ∀ d ∈ tables_1, d.before a0 Z = true) : (Jvm.Cond.laysStatic "com/example/ratatoskr/ratatoskr/gmtp/Status" "ALL" "[Lcom/example/ratatoskr/ratatoskr/gmtp/Status;").before a0 Z = true := hw _ (List.mem_of_getElem? (i := 7) rfl)
theorem wd_8 {Z : State} {a0 : Array Value} (hw : ∀ d ∈ tables_1, d.before a0 Z = true) : (Jvm.Cond.laysStatic "com/example/ratatoskr/ratatoskr/gmtp/Status" "OK" "Lcom/example/ratatoskr/ratatoskr/gmtp/Status;").before a0 Z = true := hw _ (List.mem_of_getElem? (i := 8) rfl)
theorem wd_9 {Z : State} {a0 : Array Value} (hw : ∀ d ∈ tables_1, d.before a0 Z = true) : (Jvm.Cond.fieldLink "com/example/ratatoskr/ratatoskr/gmtp/Status" (56 : Nat) "com/example/ratatoskr/ratatoskr/gmtp/Status" "code" "I").before a0 Z = true := hw _ (List.mem_of_getElem? (i := 9) rfl)
theorem wd_11 {Z : State} {a0 : Array Value} (hw : ∀ d ∈ tables_1, d.before a0 Z = true) : (Jvm.Cond.laysStatic "com/example/ratatoskr/ratatoskr/gmtp/Status" "QUIT" "Lcom/example/ratatoskr/ratatoskr/gmtp/Status;").before a0 Z = true := hw _ (List.mem_of_getElem? (i := 11) rfl)
theorem wd_12 {Z : State} {a0 : Array Value} (hw : ∀ d ∈ tables_1, d.before a0 Z = true) : (Jvm.Cond.laysStatic "com/example/ratatoskr/ratatoskr/gmtp/Status" "SERVER_NOT_FOUND" "Lcom/example/ratatoskr/ratatoskr/gmtp/Status;").before a0 Z = true := hw _ (List.mem_of_getElem? (i := 12) rfl)
theorem wd_13 {Z : State} {a0 : Array Value} (hw : ∀ d ∈ tables_1, d.before a0 Z = true) : (Jvm.Cond.laysStatic "com/example/ratatoskr/ratatoskr/gmtp/Status" "NOT_CONNECT" "Lcom/example/ratatoskr/ratatoskr/gmtp/Status;").before a0 Z = true := hw _ (List.mem_of_getElem? (i := 13) rfl)
theorem wd_14 {Z : State} {a0 : Array Value} (hw : ∀ d ∈ tables_1, d.before a0 Z = true) : (Jvm.Cond.laysStatic "com/example/ratatoskr/ratatoskr/gmtp/Status" "ACCESS_DENIED" "Lcom/example/ratatoskr/ratatoskr/gmtp/Status;").before a0 Z = true := hw _ (List.mem_of_getElem? (i := 14) rfl)
theorem wd_15 {Z : State} {a0 : Array Value} (hw : ∀ d ∈ tables_1, d.before a0 Z = true) : (Jvm.Cond.laysStatic "com/example/ratatoskr/ratatoskr/gmtp/Status" "ILLEGAL_REQUEST" "Lcom/example/ratatoskr/ratatoskr/gmtp/Status;").before a0 Z = true := hw _ (List.mem_of_getElem? (i := 15) rfl)
theorem wd_16 {Z : State} {a0 : Array Value} (hw : ∀ d ∈ tables_1, d.before a0 Z = true) : (Jvm.Cond.laysStatic "com/example/ratatoskr/ratatoskr/gmtp/Status" "UNKNOWN_METHOD" "Lcom/example/ratatoskr/ratatoskr/gmtp/Status;").before a0 Z = true := hw _ (List.mem_of_getElem? (i := 16) rfl)
theorem wd_17 {Z : State} {a0 : Array Value} (hw : ∀ d ∈ tables_1, d.before a0 Z = true) : (Jvm.Cond.laysStatic "com/example/ratatoskr/ratatoskr/gmtp/Status" "ILLEGAL_PARAMETER" "Lcom/example/ratatoskr/ratatoskr/gmtp/Status;").before a0 Z = true := hw _ (List.mem_of_getElem? (i := 17) rfl)
theorem wd_18 {Z : State} {a0 : Array Value} (hw : ∀ d ∈ tables_1, d.before a0 Z = true) : (Jvm.Cond.laysStatic "com/example/ratatoskr/ratatoskr/gmtp/Status" "TIME_OUT" "Lcom/example/ratatoskr/ratatoskr/gmtp/Status;").before a0 Z = true := hw _ (List.mem_of_getElem? (i := 18) rfl)
theorem wd_19 {Z : State} {a0 : Array Value} (hw : ∀ d ∈ tables_1, d.before a0 Z = true) : (Jvm.Cond.laysStatic "com/example/ratatoskr/ratatoskr/gmtp/Status" "ILLEGAL_EXPRESSION" "Lcom/example/ratatoskr/ratatoskr/gmtp/Status;").before a0 Z = true := hw _ (List.mem_of_getElem? (i := 19) rfl)
theorem wd_20 {Z : State} {a0 : Array Value} (hw : ∀ d ∈ tables_1, d.before a0 Z = true) : (Jvm.Cond.laysStatic "com/example/ratatoskr/ratatoskr/gmtp/Status" "INTERNAL_ERROR" "Lcom/example/ratatoskr/ratatoskr/gmtp/Status;").before a0 Z = true := hw _ (List.mem_of_getElem? (i := 20) rfl)
theorem wd_21 {Z : State} {a0 : Array Value} (hw : ∀ d ∈ tables_1, d.before a0 Z = true) : (Jvm.Cond.methodLink "com/example/ratatoskr/ratatoskr/gmtp/StatusOfPinLaw" (48 : Nat) ({ cls := "com/example/ratatoskr/ratatoskr/gmtp/StatusOfPinLaw", name := "expected", desc := "(I)Lcom/example/ratatoskr/ratatoskr/gmtp/Status;" } : Jvm.MethodName)).before a0 Z = true := hw _ (List.mem_of_getElem? (i := 21) rfl)
theorem wd_22 {Z : State} {a0 : Array Value} (hw : ∀ d ∈ tables_1, d.before a0 Z = true) : (Jvm.Cond.static ({ cls := "com/example/ratatoskr/ratatoskr/gmtp/StatusOfPinLaw", name := "expected", desc := "(I)Lcom/example/ratatoskr/ratatoskr/gmtp/Status;" } : Jvm.MethodName)).before a0 Z = true := hw _ (List.mem_of_getElem? (i := 22) rfl)
theorem wd_23 {Z : State} {a0 : Array Value} (hw : ∀ d ∈ tables_1, d.before a0 Z = true) : (Jvm.Cond.initialized "com/example/ratatoskr/ratatoskr/gmtp/StatusOfPinLaw").before a0 Z = true := hw _ (List.mem_of_getElem? (i := 23) rfl)
theorem wd_24 {Z : State} {a0 : Array Value} (hw : ∀ d ∈ tables_1, d.before a0 Z = true) : (Jvm.Cond.code ({ cls := "com/example/ratatoskr/ratatoskr/gmtp/StatusOfPinLaw", name := "expected", desc := "(I)Lcom/example/ratatoskr/ratatoskr/gmtp/Status;" } : Jvm.MethodName) method_2_code (1 : Nat) (Option.some (Jvm.ClassFile.FieldType.object "com/example/ratatoskr/ratatoskr/gmtp/Status"))).before a0 Z = true := hw _ (List.mem_of_getElem? (i := 24) rfl)
theorem wd_25 {Z : State} {a0 : Array Value} (hw : ∀ d ∈ tables_1, d.before a0 Z = true) : (Jvm.Cond.fieldLink "com/example/ratatoskr/ratatoskr/gmtp/StatusOfPinLaw" (7 : Nat) "com/example/ratatoskr/ratatoskr/gmtp/Status" "OK" "Lcom/example/ratatoskr/ratatoskr/gmtp/Status;").before a0 Z = true := hw _ (List.mem_of_getElem? (i := 25) rfl)
theorem wd_26 {Z : State} {a0 : Array Value} (hw : ∀ d ∈ tables_1, d.before a0 Z = true) : (Jvm.Cond.fieldLink "com/example/ratatoskr/ratatoskr/gmtp/StatusOfPinLaw" (19 : Nat) "com/example/ratatoskr/ratatoskr/gmtp/Status" "NOT_CONNECT" "Lcom/example/ratatoskr/ratatoskr/gmtp/Status;").before a0 Z = true := hw _ (List.mem_of_getElem? (i := 26) rfl)
theorem wd_27 {Z : State} {a0 : Array Value} (hw : ∀ d ∈ tables_1, d.before a0 Z = true) : (Jvm.Cond.fieldLink "com/example/ratatoskr/ratatoskr/gmtp/StatusOfPinLaw" (40 : Nat) "com/example/ratatoskr/ratatoskr/gmtp/Status" "INTERNAL_ERROR" "Lcom/example/ratatoskr/ratatoskr/gmtp/Status;").before a0 Z = true := hw _ (List.mem_of_getElem? (i := 27) rfl)
theorem wd_28 {Z : State} {a0 : Array Value} (hw : ∀ d ∈ tables_1, d.before a0 Z = true) : (Jvm.Cond.fieldLink "com/example/ratatoskr/ratatoskr/gmtp/StatusOfPinLaw" (13 : Nat) "com/example/ratatoskr/ratatoskr/gmtp/Status" "QUIT" "Lcom/example/ratatoskr/ratatoskr/gmtp/Status;").before a0 Z = true := hw _ (List.mem_of_getElem? (i := 28) rfl)
theorem wd_29 {Z : State} {a0 : Array Value} (hw : ∀ d ∈ tables_1, d.before a0 Z = true) : (Jvm.Cond.fieldLink "com/example/ratatoskr/ratatoskr/gmtp/StatusOfPinLaw" (28 : Nat) "com/example/ratatoskr/ratatoskr/gmtp/Status" "UNKNOWN_METHOD" "Lcom/example/ratatoskr/ratatoskr/gmtp/Status;").before a0 Z = true := hw _ (List.mem_of_getElem? (i := 29) rfl)
theorem wd_30 {Z : State} {a0 : Array Value} (hw : ∀ d ∈ tables_1, d.before a0 Z = true) : (Jvm.Cond.fieldLink "com/example/ratatoskr/ratatoskr/gmtp/StatusOfPinLaw" (25 : Nat) "com/example/ratatoskr/ratatoskr/gmtp/Status" "ILLEGAL_REQUEST" "Lcom/example/ratatoskr/ratatoskr/gmtp/Status;").before a0 Z = true := hw _ (List.mem_of_getElem? (i := 30) rfl)
theorem wd_31 {Z : State} {a0 : Array Value} (hw : ∀ d ∈ tables_1, d.before a0 Z = true) : (Jvm.Cond.fieldLink "com/example/ratatoskr/ratatoskr/gmtp/StatusOfPinLaw" (16 : Nat) "com/example/ratatoskr/ratatoskr/gmtp/Status" "SERVER_NOT_FOUND" "Lcom/example/ratatoskr/ratatoskr/gmtp/Status;").before a0 Z = true := hw _ (List.mem_of_getElem? (i := 31) rfl)
theorem wd_32 {Z : State} {a0 : Array Value} (hw : ∀ d ∈ tables_1, d.before a0 Z = true) : (Jvm.Cond.fieldLink "com/example/ratatoskr/ratatoskr/gmtp/StatusOfPinLaw" (22 : Nat) "com/example/ratatoskr/ratatoskr/gmtp/Status" "ACCESS_DENIED" "Lcom/example/ratatoskr/ratatoskr/gmtp/Status;").before a0 Z = true := hw _ (List.mem_of_getElem? (i := 32) rfl)
theorem wd_33 {Z : State} {a0 : Array Value} (hw : ∀ d ∈ tables_1, d.before a0 Z = true) : (Jvm.Cond.fieldLink "com/example/ratatoskr/ratatoskr/gmtp/StatusOfPinLaw" (37 : Nat) "com/example/ratatoskr/ratatoskr/gmtp/Status" "ILLEGAL_EXPRESSION" "Lcom/example/ratatoskr/ratatoskr/gmtp/Status;").before a0 Z = true := hw _ (List.mem_of_getElem? (i := 33) rfl)
theorem wd_34 {Z : State} {a0 : Array Value} (hw : ∀ d ∈ tables_1, d.before a0 Z = true) : (Jvm.Cond.fieldLink "com/example/ratatoskr/ratatoskr/gmtp/StatusOfPinLaw" (34 : Nat) "com/example/ratatoskr/ratatoskr/gmtp/Status" "TIME_OUT" "Lcom/example/ratatoskr/ratatoskr/gmtp/Status;").before a0 Z = true := hw _ (List.mem_of_getElem? (i := 34) rfl)
theorem wd_35 {Z : State} {a0 : Array Value} (hw : ∀ d ∈ tables_1, d.before a0 Z = true) : (Jvm.Cond.fieldLink "com/example/ratatoskr/ratatoskr/gmtp/StatusOfPinLaw" (31 : Nat) "com/example/ratatoskr/ratatoskr/gmtp/Status" "ILLEGAL_PARAMETER" "Lcom/example/ratatoskr/ratatoskr/gmtp/Status;").before a0 Z = true := hw _ (List.mem_of_getElem? (i := 35) rfl)
theorem pd_0 : parseMethodDescriptor "(I)Lcom/example/ratatoskr/ratatoskr/gmtp/Status;" = some ⟨[.int], some (.object "com/example/ratatoskr/ratatoskr/gmtp/Status")⟩ := by decide +kernel
theorem dc_method_2_code_0 : decode method_2_code 0 = .ok (.iload_n 0, 1) := by decide +kernel
theorem dc_method_2_code_1 : decode method_2_code 1 = .ok (.sipush 200, 3) := by decide +kernel
theorem dc_method_2_code_4 : decode method_2_code 4 = .ok (.if_icmp .ne 7, 3) := by decide +kernel
theorem dc_method_2_code_7 : decode method_2_code 7 = .ok (.getstatic 7, 3) := by decide +kernel
theorem dc_method_2_code_10 : decode method_2_code 10 = .ok (.areturn, 1) := by decide +kernel
theorem dc_method_2_code_11 : decode method_2_code 11 = .ok (.iload_n 0, 1) := by decide +kernel
theorem dc_method_2_code_12 : decode method_2_code 12 = .ok (.sipush 210, 3) := by decide +kernel
theorem dc_method_2_code_15 : decode method_2_code 15 = .ok (.if_icmp .ne 7, 3) := by decide +kernel
theorem dc_method_2_code_18 : decode method_2_code 18 = .ok (.getstatic 13, 3) := by decide +kernel
theorem dc_method_2_code_21 : decode method_2_code 21 = .ok (.areturn, 1) := by decide +kernel
theorem dc_method_2_code_22 : decode method_2_code 22 = .ok (.iload_n 0, 1) := by decide +kernel
theorem dc_method_2_code_23 : decode method_2_code 23 = .ok (.sipush 300, 3) := by decide +kernel
theorem dc_method_2_code_26 : decode method_2_code 26 = .ok (.if_icmp .ne 7, 3) := by decide +kernel
theorem dc_method_2_code_29 : decode method_2_code 29 = .ok (.getstatic 16, 3) := by decide +kernel
theorem dc_method_2_code_32 : decode method_2_code 32 = .ok (.areturn, 1) := by decide +kernel
theorem dc_method_2_code_33 : decode method_2_code 33 = .ok (.iload_n 0, 1) := by decide +kernel
theorem dc_method_2_code_34 : decode method_2_code 34 = .ok (.sipush 310, 3) := by decide +kernel
theorem dc_method_2_code_37 : decode method_2_code 37 = .ok (.if_icmp .ne 7, 3) := by decide +kernel
theorem dc_method_2_code_40 : decode method_2_code 40 = .ok (.getstatic 19, 3) := by decide +kernel
theorem dc_method_2_code_43 : decode method_2_code 43 = .ok (.areturn, 1) := by decide +kernel
theorem dc_method_2_code_44 : decode method_2_code 44 = .ok (.iload_n 0, 1) := by decide +kernel
theorem dc_method_2_code_45 : decode method_2_code 45 = .ok (.sipush 320, 3) := by decide +kernel
theorem dc_method_2_code_48 : decode method_2_code 48 = .ok (.if_icmp .ne 7, 3) := by decide +kernel
theorem dc_method_2_code_51 : decode method_2_code 51 = .ok (.getstatic 22, 3) := by decide +kernel
theorem dc_method_2_code_54 : decode method_2_code 54 = .ok (.areturn, 1) := by decide +kernel
theorem dc_method_2_code_55 : decode method_2_code 55 = .ok (.iload_n 0, 1) := by decide +kernel
theorem dc_method_2_code_56 : decode method_2_code 56 = .ok (.sipush 400, 3) := by decide +kernel
theorem dc_method_2_code_59 : decode method_2_code 59 = .ok (.if_icmp .ne 7, 3) := by decide +kernel
theorem dc_method_2_code_62 : decode method_2_code 62 = .ok (.getstatic 25, 3) := by decide +kernel
theorem dc_method_2_code_65 : decode method_2_code 65 = .ok (.areturn, 1) := by decide +kernel
theorem dc_method_2_code_66 : decode method_2_code 66 = .ok (.iload_n 0, 1) := by decide +kernel
theorem dc_method_2_code_67 : decode method_2_code 67 = .ok (.sipush 410, 3) := by decide +kernel
theorem dc_method_2_code_70 : decode method_2_code 70 = .ok (.if_icmp .ne 7, 3) := by decide +kernel
theorem dc_method_2_code_73 : decode method_2_code 73 = .ok (.getstatic 28, 3) := by decide +kernel
theorem dc_method_2_code_76 : decode method_2_code 76 = .ok (.areturn, 1) := by decide +kernel
theorem dc_method_2_code_77 : decode method_2_code 77 = .ok (.iload_n 0, 1) := by decide +kernel
theorem dc_method_2_code_78 : decode method_2_code 78 = .ok (.sipush 420, 3) := by decide +kernel
theorem dc_method_2_code_81 : decode method_2_code 81 = .ok (.if_icmp .ne 7, 3) := by decide +kernel
theorem dc_method_2_code_84 : decode method_2_code 84 = .ok (.getstatic 31, 3) := by decide +kernel
theorem dc_method_2_code_87 : decode method_2_code 87 = .ok (.areturn, 1) := by decide +kernel
theorem dc_method_2_code_88 : decode method_2_code 88 = .ok (.iload_n 0, 1) := by decide +kernel
theorem dc_method_2_code_89 : decode method_2_code 89 = .ok (.sipush 430, 3) := by decide +kernel
theorem dc_method_2_code_92 : decode method_2_code 92 = .ok (.if_icmp .ne 7, 3) := by decide +kernel
theorem dc_method_2_code_95 : decode method_2_code 95 = .ok (.getstatic 34, 3) := by decide +kernel
theorem dc_method_2_code_98 : decode method_2_code 98 = .ok (.areturn, 1) := by decide +kernel
theorem dc_method_2_code_99 : decode method_2_code 99 = .ok (.iload_n 0, 1) := by decide +kernel
theorem dc_method_2_code_100 : decode method_2_code 100 = .ok (.sipush 440, 3) := by decide +kernel
theorem dc_method_2_code_103 : decode method_2_code 103 = .ok (.if_icmp .ne 7, 3) := by decide +kernel
theorem dc_method_2_code_106 : decode method_2_code 106 = .ok (.getstatic 37, 3) := by decide +kernel
theorem dc_method_2_code_109 : decode method_2_code 109 = .ok (.areturn, 1) := by decide +kernel
theorem dc_method_2_code_110 : decode method_2_code 110 = .ok (.iload_n 0, 1) := by decide +kernel
theorem dc_method_2_code_111 : decode method_2_code 111 = .ok (.sipush 500, 3) := by decide +kernel
theorem dc_method_2_code_114 : decode method_2_code 114 = .ok (.if_icmp .ne 7, 3) := by decide +kernel
theorem dc_method_2_code_117 : decode method_2_code 117 = .ok (.getstatic 40, 3) := by decide +kernel
theorem dc_method_2_code_120 : decode method_2_code 120 = .ok (.areturn, 1) := by decide +kernel
theorem dc_method_2_code_121 : decode method_2_code 121 = .ok (.aconst_null, 1) := by decide +kernel
theorem dc_method_2_code_122 : decode method_2_code 122 = .ok (.areturn, 1) := by decide +kernel
theorem dc_prog_23_method_4_code_0 : decode prog_23_method_4_code 0 = .ok (.getstatic 64, 3) := by decide +kernel
theorem dc_prog_23_method_4_code_3 : decode prog_23_method_4_code 3 = .ok (.astore_n 1, 1) := by decide +kernel
theorem dc_prog_23_method_4_code_4 : decode prog_23_method_4_code 4 = .ok (.aload_n 1, 1) := by decide +kernel
theorem dc_prog_23_method_4_code_5 : decode prog_23_method_4_code 5 = .ok (.arraylength, 1) := by decide +kernel
theorem dc_prog_23_method_4_code_6 : decode prog_23_method_4_code 6 = .ok (.istore_n 2, 1) := by decide +kernel
theorem dc_prog_23_method_4_code_7 : decode prog_23_method_4_code 7 = .ok (.iconst 0, 1) := by decide +kernel
theorem dc_prog_23_method_4_code_8 : decode prog_23_method_4_code 8 = .ok (.istore_n 3, 1) := by decide +kernel
theorem dc_prog_23_method_4_code_9 : decode prog_23_method_4_code 9 = .ok (.iload_n 3, 1) := by decide +kernel
theorem dc_prog_23_method_4_code_10 : decode prog_23_method_4_code 10 = .ok (.iload_n 2, 1) := by decide +kernel
theorem dc_prog_23_method_4_code_11 : decode prog_23_method_4_code 11 = .ok (.if_icmp .ge 26, 3) := by decide +kernel
theorem dc_prog_23_method_4_code_14 : decode prog_23_method_4_code 14 = .ok (.aload_n 1, 1) := by decide +kernel
theorem dc_prog_23_method_4_code_15 : decode prog_23_method_4_code 15 = .ok (.iload_n 3, 1) := by decide +kernel
theorem dc_prog_23_method_4_code_16 : decode prog_23_method_4_code 16 = .ok (.aaload, 1) := by decide +kernel
theorem dc_prog_23_method_4_code_17 : decode prog_23_method_4_code 17 = .ok (.astore 4, 2) := by decide +kernel
theorem dc_prog_23_method_4_code_19 : decode prog_23_method_4_code 19 = .ok (.aload 4, 2) := by decide +kernel
theorem dc_prog_23_method_4_code_21 : decode prog_23_method_4_code 21 = .ok (.getfield 56, 3) := by decide +kernel
theorem dc_prog_23_method_4_code_24 : decode prog_23_method_4_code 24 = .ok (.iload_n 0, 1) := by decide +kernel
theorem dc_prog_23_method_4_code_25 : decode prog_23_method_4_code 25 = .ok (.if_icmp .ne 6, 3) := by decide +kernel
theorem dc_prog_23_method_4_code_28 : decode prog_23_method_4_code 28 = .ok (.aload 4, 2) := by decide +kernel
theorem dc_prog_23_method_4_code_30 : decode prog_23_method_4_code 30 = .ok (.areturn, 1) := by decide +kernel
theorem dc_prog_23_method_4_code_31 : decode prog_23_method_4_code 31 = .ok (.iinc 3 1, 3) := by decide +kernel
theorem dc_prog_23_method_4_code_34 : decode prog_23_method_4_code 34 = .ok (.goto (-25), 3) := by decide +kernel
theorem dc_prog_23_method_4_code_37 : decode prog_23_method_4_code 37 = .ok (.aconst_null, 1) := by decide +kernel
theorem dc_prog_23_method_4_code_38 : decode prog_23_method_4_code 38 = .ok (.areturn, 1) := by decide +kernel
theorem own_eqI {args : Array Value} {first s : State} {o : Option Outcome} {idx : List Nat} {t : Term} {k : Int32} (h : (Jvm.Cond.eq t (.int k)).value args first o s idx = some true) : t.eval args first o idx s = some (.int k) := by
  simp only [Cond.value, Term.eval] at h
  cases ht : t.eval args first o idx s with
  | none => simp [ht] at h
  | some x => cases x <;> simp [ht] at h ⊢; exact h
def En_OK (Z : State) (h : Heap) (a : Addr) : Prop := Sta Z h "com/example/ratatoskr/ratatoskr/gmtp/Status" "OK" "Lcom/example/ratatoskr/ratatoskr/gmtp/Status;" (.ref a) ∧ Exa Z h a "com/example/ratatoskr/ratatoskr/gmtp/Status" ∧ Fld Z h a "com/example/ratatoskr/ratatoskr/gmtp/Status" "code" "I" (.int (200 : Int32))
theorem En_OK.ext {Z : State} {h h' : Heap} {a : Addr} (F : En_OK Z h a) (E : Ext h h') : En_OK Z h' a := ⟨F.1.ext E, F.2.1.ext E, F.2.2.ext E⟩
def En_QUIT (Z : State) (h : Heap) (a : Addr) : Prop := Sta Z h "com/example/ratatoskr/ratatoskr/gmtp/Status" "QUIT" "Lcom/example/ratatoskr/ratatoskr/gmtp/Status;" (.ref a) ∧ Exa Z h a "com/example/ratatoskr/ratatoskr/gmtp/Status" ∧ Fld Z h a "com/example/ratatoskr/ratatoskr/gmtp/Status" "code" "I" (.int (210 : Int32))
theorem En_QUIT.ext {Z : State} {h h' : Heap} {a : Addr} (F : En_QUIT Z h a) (E : Ext h h') : En_QUIT Z h' a := ⟨F.1.ext E, F.2.1.ext E, F.2.2.ext E⟩
def En_SERVER_NOT_FOUND (Z : State) (h : Heap) (a : Addr) : Prop := Sta Z h "com/example/ratatoskr/ratatoskr/gmtp/Status" "SERVER_NOT_FOUND" "Lcom/example/ratatoskr/ratatoskr/gmtp/Status;" (.ref a) ∧ Exa Z h a "com/example/ratatoskr/ratatoskr/gmtp/Status" ∧ Fld Z h a "com/example/ratatoskr/ratatoskr/gmtp/Status" "code" "I" (.int (300 : Int32))
theorem En_SERVER_NOT_FOUND.ext {Z : State} {h h' : Heap} {a : Addr} (F : En_SERVER_NOT_FOUND Z h a) (E : Ext h h') : En_SERVER_NOT_FOUND Z h' a := ⟨F.1.ext E, F.2.1.ext E, F.2.2.ext E⟩
def En_NOT_CONNECT (Z : State) (h : Heap) (a : Addr) : Prop := Sta Z h "com/example/ratatoskr/ratatoskr/gmtp/Status" "NOT_CONNECT" "Lcom/example/ratatoskr/ratatoskr/gmtp/Status;" (.ref a) ∧ Exa Z h a "com/example/ratatoskr/ratatoskr/gmtp/Status" ∧ Fld Z h a "com/example/ratatoskr/ratatoskr/gmtp/Status" "code" "I" (.int (310 : Int32))
theorem En_NOT_CONNECT.ext {Z : State} {h h' : Heap} {a : Addr} (F : En_NOT_CONNECT Z h a) (E : Ext h h') : En_NOT_CONNECT Z h' a := ⟨F.1.ext E, F.2.1.ext E, F.2.2.ext E⟩
def En_ACCESS_DENIED (Z : State) (h : Heap) (a : Addr) : Prop := Sta Z h "com/example/ratatoskr/ratatoskr/gmtp/Status" "ACCESS_DENIED" "Lcom/example/ratatoskr/ratatoskr/gmtp/Status;" (.ref a) ∧ Exa Z h a "com/example/ratatoskr/ratatoskr/gmtp/Status" ∧ Fld Z h a "com/example/ratatoskr/ratatoskr/gmtp/Status" "code" "I" (.int (320 : Int32))
theorem En_ACCESS_DENIED.ext {Z : State} {h h' : Heap} {a : Addr} (F : En_ACCESS_DENIED Z h a) (E : Ext h h') : En_ACCESS_DENIED Z h' a := ⟨F.1.ext E, F.2.1.ext E, F.2.2.ext E⟩
def En_ILLEGAL_REQUEST (Z : State) (h : Heap) (a : Addr) : Prop := Sta Z h "com/example/ratatoskr/ratatoskr/gmtp/Status" "ILLEGAL_REQUEST" "Lcom/example/ratatoskr/ratatoskr/gmtp/Status;" (.ref a) ∧ Exa Z h a "com/example/ratatoskr/ratatoskr/gmtp/Status" ∧ Fld Z h a "com/example/ratatoskr/ratatoskr/gmtp/Status" "code" "I" (.int (400 : Int32))
theorem En_ILLEGAL_REQUEST.ext {Z : State} {h h' : Heap} {a : Addr} (F : En_ILLEGAL_REQUEST Z h a) (E : Ext h h') : En_ILLEGAL_REQUEST Z h' a := ⟨F.1.ext E, F.2.1.ext E, F.2.2.ext E⟩
def En_UNKNOWN_METHOD (Z : State) (h : Heap) (a : Addr) : Prop := Sta Z h "com/example/ratatoskr/ratatoskr/gmtp/Status" "UNKNOWN_METHOD" "Lcom/example/ratatoskr/ratatoskr/gmtp/Status;" (.ref a) ∧ Exa Z h a "com/example/ratatoskr/ratatoskr/gmtp/Status" ∧ Fld Z h a "com/example/ratatoskr/ratatoskr/gmtp/Status" "code" "I" (.int (410 : Int32))
theorem En_UNKNOWN_METHOD.ext {Z : State} {h h' : Heap} {a : Addr} (F : En_UNKNOWN_METHOD Z h a) (E : Ext h h') : En_UNKNOWN_METHOD Z h' a := ⟨F.1.ext E, F.2.1.ext E, F.2.2.ext E⟩
def En_ILLEGAL_PARAMETER (Z : State) (h : Heap) (a : Addr) : Prop := Sta Z h "com/example/ratatoskr/ratatoskr/gmtp/Status" "ILLEGAL_PARAMETER" "Lcom/example/ratatoskr/ratatoskr/gmtp/Status;" (.ref a) ∧ Exa Z h a "com/example/ratatoskr/ratatoskr/gmtp/Status" ∧ Fld Z h a "com/example/ratatoskr/ratatoskr/gmtp/Status" "code" "I" (.int (420 : Int32))
theorem En_ILLEGAL_PARAMETER.ext {Z : State} {h h' : Heap} {a : Addr} (F : En_ILLEGAL_PARAMETER Z h a) (E : Ext h h') : En_ILLEGAL_PARAMETER Z h' a := ⟨F.1.ext E, F.2.1.ext E, F.2.2.ext E⟩
def En_TIME_OUT (Z : State) (h : Heap) (a : Addr) : Prop := Sta Z h "com/example/ratatoskr/ratatoskr/gmtp/Status" "TIME_OUT" "Lcom/example/ratatoskr/ratatoskr/gmtp/Status;" (.ref a) ∧ Exa Z h a "com/example/ratatoskr/ratatoskr/gmtp/Status" ∧ Fld Z h a "com/example/ratatoskr/ratatoskr/gmtp/Status" "code" "I" (.int (430 : Int32))
theorem En_TIME_OUT.ext {Z : State} {h h' : Heap} {a : Addr} (F : En_TIME_OUT Z h a) (E : Ext h h') : En_TIME_OUT Z h' a := ⟨F.1.ext E, F.2.1.ext E, F.2.2.ext E⟩
def En_ILLEGAL_EXPRESSION (Z : State) (h : Heap) (a : Addr) : Prop := Sta Z h "com/example/ratatoskr/ratatoskr/gmtp/Status" "ILLEGAL_EXPRESSION" "Lcom/example/ratatoskr/ratatoskr/gmtp/Status;" (.ref a) ∧ Exa Z h a "com/example/ratatoskr/ratatoskr/gmtp/Status" ∧ Fld Z h a "com/example/ratatoskr/ratatoskr/gmtp/Status" "code" "I" (.int (440 : Int32))
theorem En_ILLEGAL_EXPRESSION.ext {Z : State} {h h' : Heap} {a : Addr} (F : En_ILLEGAL_EXPRESSION Z h a) (E : Ext h h') : En_ILLEGAL_EXPRESSION Z h' a := ⟨F.1.ext E, F.2.1.ext E, F.2.2.ext E⟩
def En_INTERNAL_ERROR (Z : State) (h : Heap) (a : Addr) : Prop := Sta Z h "com/example/ratatoskr/ratatoskr/gmtp/Status" "INTERNAL_ERROR" "Lcom/example/ratatoskr/ratatoskr/gmtp/Status;" (.ref a) ∧ Exa Z h a "com/example/ratatoskr/ratatoskr/gmtp/Status" ∧ Fld Z h a "com/example/ratatoskr/ratatoskr/gmtp/Status" "code" "I" (.int (500 : Int32))
theorem En_INTERNAL_ERROR.ext {Z : State} {h h' : Heap} {a : Addr} (F : En_INTERNAL_ERROR Z h a) (E : Ext h h') : En_INTERNAL_ERROR Z h' a := ⟨F.1.ext E, F.2.1.ext E, F.2.2.ext E⟩
theorem own_eqR {args : Array Value} {first s : State} {o : Option Outcome} {idx : List Nat} {t u : Term} {a : Addr} (h : (Jvm.Cond.eq t u).value args first o s idx = some true) (hu : u.eval args first o idx s = some (.ref a)) : t.eval args first o idx s = some (.ref a) := by
  simp only [Cond.value, hu] at h
  cases ht : t.eval args first o idx s with
  | none => simp [ht] at h
  | some x => cases x <;> simp [ht] at h ⊢; exact h
theorem own_len {args : Array Value} {s : State} {t : Term} {n : Int32} {a : Addr} {cl : Cell} (N : Nat) (h : (Term.length t).eval args s none [] s = some (.int n)) (ht : t.eval args s none [] s = some (.ref a)) (hc : s.heap[a]? = some cl) (hn : n.toInt = N) : cl.slots.size = N := by
  simp only [Term.eval, ht, Option.bind_eq_bind, Option.bind_some] at h
  obtain ⟨cell, hcell, h⟩ := Option.bind_eq_some_iff.mp h
  cases hc.symm.trans (State.arrayAt?_spec hcell).1
  by_cases hs : cl.slots.size < 2147483648
  · rw [if_pos hs] at h
    have q : cl.slots.size.toInt32 = n := by cases h; rfl
    have z := len_toInt (n := cl.slots.size) hs
    rw [q, hn] at z
    omega
  · rw [if_neg hs] at h; cases h
theorem own_elem {args : Array Value} {s : State} {t : Term} {j : Int32} {v : Value} {a : Addr} {cl : Cell} (i : Nat) (h : (Term.elem t (.int j)).eval args s none [] s = some v) (ht : t.eval args s none [] s = some (.ref a)) (hc : s.heap[a]? = some cl) (hi : j.toNatClampNeg = i) : cl.slots[i]? = some v := by
  subst hi
  exact (elem_in h ht (Term.int_eval j) hc).2
theorem own_list11 {L : Array Value} {v0 v1 v2 v3 v4 v5 v6 v7 v8 v9 v10 : Value} (hl : L.size = 11) (h0 : L[0]? = some v0) (h1 : L[1]? = some v1) (h2 : L[2]? = some v2) (h3 : L[3]? = some v3) (h4 : L[4]? = some v4) (h5 : L[5]? = some v5) (h6 : L[6]? = some v6) (h7 : L[7]? = some v7) (h8 : L[8]? = some v8) (h9 : L[9]? = some v9) (h10 : L[10]? = some v10) : L.toList = [v0, v1, v2, v3, v4, v5, v6, v7, v8, v9, v10] := by
  obtain ⟨L⟩ := L
  match L, hl with
  | [x0, x1, x2, x3, x4, x5, x6, x7, x8, x9, x10], _ =>
    simp at h0 h1 h2 h3 h4 h5 h6 h7 h8 h9 h10
    simp [h0, h1, h2, h3, h4, h5, h6, h7, h8, h9, h10]
theorem acmp_eqT {v w : Value} (h : v = w) : XT.acmp .eq v w = true := decide_eq_true h
theorem acmp_eqF {v w : Value} (h : ¬ v = w) : XT.acmp .eq v w = false := decide_eq_false h
theorem acmp_neT {v w : Value} (h : ¬ v = w) : XT.acmp .ne v w = true := decide_eq_true h
theorem acmp_neF {v w : Value} (h : v = w) : XT.acmp .ne v w = false := decide_eq_false (fun q => q h)
theorem own_ne {i k : Int32} {d : Int} (h : ¬ i = k) (hk : k.toInt = d) : i.toInt ≠ d := fun q => h (Int32.toInt_inj.mp (q.trans hk.symm))
theorem own_mask (x : Int32) : 0 ≤ (x &&& 2147483647).toInt := (c_and x 2147483647 (by decide)).1
theorem own_rem (x k : Int32) (d : Int) (hk : k.toInt = d) (hd : 0 < d) : 0 ≤ ((x &&& 2147483647) % k).toInt ∧ ((x &&& 2147483647) % k).toInt < d := by
  have h := (c_irem (x &&& 2147483647) k d hk).1 (own_mask x)
  rw [h]
  exact ⟨Int.emod_nonneg _ (by omega), Int.emod_lt_of_pos _ hd⟩
theorem own_cases11 {i : Int32} (h : 0 ≤ i.toInt ∧ i.toInt < 11) : i = 0 ∨ i = 1 ∨ i = 2 ∨ i = 3 ∨ i = 4 ∨ i = 5 ∨ i = 6 ∨ i = 7 ∨ i = 8 ∨ i = 9 ∨ i = 10 := by
  simp only [← Int32.toInt_inj, Int32.reduceToInt]
  omega
def sel (c : Int32) (a0 a1 a2 a3 a4 a5 a6 a7 a8 a9 a10 : Addr) : Value := if c = 200 then .ref a0 else if c = 210 then .ref a1 else if c = 300 then .ref a2 else if c = 310 then .ref a3 else if c = 320 then .ref a4 else if c = 400 then .ref a5 else if c = 410 then .ref a6 else if c = 420 then .ref a7 else if c = 430 then .ref a8 else if c = 440 then .ref a9 else if c = 500 then .ref a10 else .null
theorem sel_cat (c : Int32) (a0 a1 a2 a3 a4 a5 a6 a7 a8 a9 a10 : Addr) : (sel c a0 a1 a2 a3 a4 a5 a6 a7 a8 a9 a10).category = 1 := by
  unfold sel
  repeat (first | rfl | split)
theorem sel_ref (c : Int32) (a0 a1 a2 a3 a4 a5 a6 a7 a8 a9 a10 : Addr) : (sel c a0 a1 a2 a3 a4 a5 a6 a7 a8 a9 a10).isRef = true := by
  unfold sel
  repeat (first | rfl | split)
set_option maxRecDepth 65536 in
set_option maxHeartbeats 4000000 in
theorem of_met (l : Launch) (Z : State) (a0 : Array Value) (hw : ∀ d ∈ tables_1, d.before a0 Z = true) (n0 : Nat) (h : Heap) (O : Old Z n0 h) {a_OK : Addr} (EnOK : En_OK Z h a_OK) {a_QUIT : Addr} (EnQUIT : En_QUIT Z h a_QUIT) {a_SERVER_NOT_FOUND : Addr} (EnSERVER_NOT_FOUND : En_SERVER_NOT_FOUND Z h a_SERVER_NOT_FOUND) {a_NOT_CONNECT : Addr} (EnNOT_CONNECT : En_NOT_CONNECT Z h a_NOT_CONNECT) {a_ACCESS_DENIED : Addr} (EnACCESS_DENIED : En_ACCESS_DENIED Z h a_ACCESS_DENIED) {a_ILLEGAL_REQUEST : Addr} (EnILLEGAL_REQUEST : En_ILLEGAL_REQUEST Z h a_ILLEGAL_REQUEST) {a_UNKNOWN_METHOD : Addr} (EnUNKNOWN_METHOD : En_UNKNOWN_METHOD Z h a_UNKNOWN_METHOD) {a_ILLEGAL_PARAMETER : Addr} (EnILLEGAL_PARAMETER : En_ILLEGAL_PARAMETER Z h a_ILLEGAL_PARAMETER) {a_TIME_OUT : Addr} (EnTIME_OUT : En_TIME_OUT Z h a_TIME_OUT) {a_ILLEGAL_EXPRESSION : Addr} (EnILLEGAL_EXPRESSION : En_ILLEGAL_EXPRESSION Z h a_ILLEGAL_EXPRESSION) {a_INTERNAL_ERROR : Addr} (EnINTERNAL_ERROR : En_INTERNAL_ERROR Z h a_INTERNAL_ERROR) {a_ALL : Addr} {k_ALL : ClassId} (S_ALL : Sta Z h "com/example/ratatoskr/ratatoskr/gmtp/Status" "ALL" "[Lcom/example/ratatoskr/ratatoskr/gmtp/Status;" (.ref a_ALL)) (A_ALL : Ar Z h a_ALL (.object "com/example/ratatoskr/ratatoskr/gmtp/Status") k_ALL [(.ref a_OK), (.ref a_QUIT), (.ref a_SERVER_NOT_FOUND), (.ref a_NOT_CONNECT), (.ref a_ACCESS_DENIED), (.ref a_ILLEGAL_REQUEST), (.ref a_UNKNOWN_METHOD), (.ref a_ILLEGAL_PARAMETER), (.ref a_TIME_OUT), (.ref a_ILLEGAL_EXPRESSION), (.ref a_INTERNAL_ERROR)]) (ch : Int32) :
    Met l Z n0 (⟨"com/example/ratatoskr/ratatoskr/gmtp/Status", "of", "(I)Lcom/example/ratatoskr/ratatoskr/gmtp/Status;"⟩ : MethodName) prog_23_method_4_code 5 (some (.object "com/example/ratatoskr/ratatoskr/gmtp/Status")) [] ({ frames := 0, cells := 0, slots := 0, locals := 0 } : Room) #[(.int ch)] h (fun v h' => v = some (sel ch a_OK a_QUIT a_SERVER_NOT_FOUND a_NOT_CONNECT a_ACCESS_DENIED a_ILLEGAL_REQUEST a_UNKNOWN_METHOD a_ILLEGAL_PARAMETER a_TIME_OUT a_ILLEGAL_EXPRESSION a_INTERNAL_ERROR) ∧ h = h') := by
  refine met_of (Ls := #[(.val (.int ch)), .unset, .unset, .unset, .unset]) (by decide +kernel) (fun m => by first | rfl | (simp [entryFrame, mkF, argsToLocals, Value.category]; done)) O ?_
  intro p e s m below meth cd C
  refine go_getS C (pc' := 3) (host := "") (Or.inl (wd_6 hw)) Via.refl S_ALL dc_prog_23_method_4_code_0 rfl ?_
  refine go_astoreN C (pc' := 4) dc_prog_23_method_4_code_3 rfl (Ls' := #[(.val (.int ch)), (.val (.ref a_ALL)), .unset, .unset, .unset]) rfl rfl ?_
  refine go_aloadN C (pc' := 5) dc_prog_23_method_4_code_4 rfl rfl rfl ?_
  refine go_alen C (pc' := 6) A_ALL (z := (11 : Int32)) rfl dc_prog_23_method_4_code_5 rfl ?_
  refine go_istoreN C (pc' := 7) dc_prog_23_method_4_code_6 (Ls' := #[(.val (.int ch)), (.val (.ref a_ALL)), (.val (.int (11 : Int32))), .unset, .unset]) rfl rfl ?_
  refine go_iconst C (pc' := 8) dc_prog_23_method_4_code_7 (z := (0 : Int32)) (by decide) rfl ?_
  refine go_istoreN C (pc' := 9) dc_prog_23_method_4_code_8 (Ls' := #[(.val (.int ch)), (.val (.ref a_ALL)), (.val (.int (11 : Int32))), (.val (.int (0 : Int32))), .unset]) rfl rfl ?_
  refine go_iloadN C (pc' := 10) dc_prog_23_method_4_code_9 rfl rfl ?_
  refine go_iloadN C (pc' := 11) dc_prog_23_method_4_code_10 rfl rfl ?_
  refine go_icmpNo C (pc' := 14) dc_prog_23_method_4_code_11 (by decide) rfl ?_
  refine go_aloadN C (pc' := 15) dc_prog_23_method_4_code_14 rfl rfl rfl ?_
  refine go_iloadN C (pc' := 16) dc_prog_23_method_4_code_15 rfl rfl ?_
  refine go_raget C (pc' := 17) A_ALL rfl (by decide) (i := 0) (by decide) rfl dc_prog_23_method_4_code_16 rfl ?_
  refine go_astore C (pc' := 19) dc_prog_23_method_4_code_17 rfl (Ls' := #[(.val (.int ch)), (.val (.ref a_ALL)), (.val (.int (11 : Int32))), (.val (.int (0 : Int32))), (.val (.ref a_OK))]) rfl rfl ?_
  refine go_aload C (pc' := 21) dc_prog_23_method_4_code_19 rfl rfl rfl ?_
  refine go_getF C (pc' := 24) (host := "") (Or.inl (wd_9 hw)) Via.refl EnOK.2.2 dc_prog_23_method_4_code_21 rfl ?_
  refine go_iloadN C (pc' := 25) dc_prog_23_method_4_code_24 rfl rfl ?_
  by_cases hc1 : (200 : Int32) = ch
  · refine go_icmpNo C (pc' := 28) dc_prog_23_method_4_code_25 (teq hc1).2 rfl ?_
    refine go_aload C (pc' := 30) dc_prog_23_method_4_code_28 rfl rfl rfl ?_
    exact go_retA C rfl rfl dc_prog_23_method_4_code_30 (by decide) (by decide) ⟨by simp only [sel, if_pos hc1.symm], rfl⟩
  · refine go_icmpYes C (pc' := 31) dc_prog_23_method_4_code_25 (feq hc1).2 (by decide) (by decide) ?_
    refine go_iinc C (pc' := 34) dc_prog_23_method_4_code_31 rfl (Ls' := #[(.val (.int ch)), (.val (.ref a_ALL)), (.val (.int (11 : Int32))), (.val (.int ((0 : Int32) + (1 : Int32)))), (.val (.ref a_OK))]) rfl rfl ?_
    refine go_ls (Ls' := #[(.val (.int ch)), (.val (.ref a_ALL)), (.val (.int (11 : Int32))), (.val (.int (1 : Int32))), (.val (.ref a_OK))]) (by rw [show ((0 : Int32) + (1 : Int32)) = (1 : Int32) from by decide]) ?_
    refine go_goto C (pc' := 9) dc_prog_23_method_4_code_34 (by decide) (by decide) ?_
    refine go_iloadN C (pc' := 10) dc_prog_23_method_4_code_9 rfl rfl ?_
    refine go_iloadN C (pc' := 11) dc_prog_23_method_4_code_10 rfl rfl ?_
    refine go_icmpNo C (pc' := 14) dc_prog_23_method_4_code_11 (by decide) rfl ?_
    refine go_aloadN C (pc' := 15) dc_prog_23_method_4_code_14 rfl rfl rfl ?_
    refine go_iloadN C (pc' := 16) dc_prog_23_method_4_code_15 rfl rfl ?_
    refine go_raget C (pc' := 17) A_ALL rfl (by decide) (i := 1) (by decide) rfl dc_prog_23_method_4_code_16 rfl ?_
    refine go_astore C (pc' := 19) dc_prog_23_method_4_code_17 rfl (Ls' := #[(.val (.int ch)), (.val (.ref a_ALL)), (.val (.int (11 : Int32))), (.val (.int (1 : Int32))), (.val (.ref a_QUIT))]) rfl rfl ?_
    refine go_aload C (pc' := 21) dc_prog_23_method_4_code_19 rfl rfl rfl ?_
    refine go_getF C (pc' := 24) (host := "") (Or.inl (wd_9 hw)) Via.refl EnQUIT.2.2 dc_prog_23_method_4_code_21 rfl ?_
    refine go_iloadN C (pc' := 25) dc_prog_23_method_4_code_24 rfl rfl ?_
    by_cases hc2 : (210 : Int32) = ch
    · refine go_icmpNo C (pc' := 28) dc_prog_23_method_4_code_25 (teq hc2).2 rfl ?_
      refine go_aload C (pc' := 30) dc_prog_23_method_4_code_28 rfl rfl rfl ?_
      exact go_retA C rfl rfl dc_prog_23_method_4_code_30 (by decide) (by decide) ⟨by simp only [sel, if_neg (Ne.symm hc1), if_pos hc2.symm], rfl⟩
    · refine go_icmpYes C (pc' := 31) dc_prog_23_method_4_code_25 (feq hc2).2 (by decide) (by decide) ?_
      refine go_iinc C (pc' := 34) dc_prog_23_method_4_code_31 rfl (Ls' := #[(.val (.int ch)), (.val (.ref a_ALL)), (.val (.int (11 : Int32))), (.val (.int ((1 : Int32) + (1 : Int32)))), (.val (.ref a_QUIT))]) rfl rfl ?_
      refine go_ls (Ls' := #[(.val (.int ch)), (.val (.ref a_ALL)), (.val (.int (11 : Int32))), (.val (.int (2 : Int32))), (.val (.ref a_QUIT))]) (by rw [show ((1 : Int32) + (1 : Int32)) = (2 : Int32) from by decide]) ?_
      refine go_goto C (pc' := 9) dc_prog_23_method_4_code_34 (by decide) (by decide) ?_
      refine go_iloadN C (pc' := 10) dc_prog_23_method_4_code_9 rfl rfl ?_
      refine go_iloadN C (pc' := 11) dc_prog_23_method_4_code_10 rfl rfl ?_
      refine go_icmpNo C (pc' := 14) dc_prog_23_method_4_code_11 (by decide) rfl ?_
      refine go_aloadN C (pc' := 15) dc_prog_23_method_4_code_14 rfl rfl rfl ?_
      refine go_iloadN C (pc' := 16) dc_prog_23_method_4_code_15 rfl rfl ?_
      refine go_raget C (pc' := 17) A_ALL rfl (by decide) (i := 2) (by decide) rfl dc_prog_23_method_4_code_16 rfl ?_
      refine go_astore C (pc' := 19) dc_prog_23_method_4_code_17 rfl (Ls' := #[(.val (.int ch)), (.val (.ref a_ALL)), (.val (.int (11 : Int32))), (.val (.int (2 : Int32))), (.val (.ref a_SERVER_NOT_FOUND))]) rfl rfl ?_
      refine go_aload C (pc' := 21) dc_prog_23_method_4_code_19 rfl rfl rfl ?_
      refine go_getF C (pc' := 24) (host := "") (Or.inl (wd_9 hw)) Via.refl EnSERVER_NOT_FOUND.2.2 dc_prog_23_method_4_code_21 rfl ?_
      refine go_iloadN C (pc' := 25) dc_prog_23_method_4_code_24 rfl rfl ?_
      by_cases hc3 : (300 : Int32) = ch
      · refine go_icmpNo C (pc' := 28) dc_prog_23_method_4_code_25 (teq hc3).2 rfl ?_
        refine go_aload C (pc' := 30) dc_prog_23_method_4_code_28 rfl rfl rfl ?_
        exact go_retA C rfl rfl dc_prog_23_method_4_code_30 (by decide) (by decide) ⟨by simp only [sel, if_neg (Ne.symm hc1), if_neg (Ne.symm hc2), if_pos hc3.symm], rfl⟩
      · refine go_icmpYes C (pc' := 31) dc_prog_23_method_4_code_25 (feq hc3).2 (by decide) (by decide) ?_
        refine go_iinc C (pc' := 34) dc_prog_23_method_4_code_31 rfl (Ls' := #[(.val (.int ch)), (.val (.ref a_ALL)), (.val (.int (11 : Int32))), (.val (.int ((2 : Int32) + (1 : Int32)))), (.val (.ref a_SERVER_NOT_FOUND))]) rfl rfl ?_
        refine go_ls (Ls' := #[(.val (.int ch)), (.val (.ref a_ALL)), (.val (.int (11 : Int32))), (.val (.int (3 : Int32))), (.val (.ref a_SERVER_NOT_FOUND))]) (by rw [show ((2 : Int32) + (1 : Int32)) = (3 : Int32) from by decide]) ?_
        refine go_goto C (pc' := 9) dc_prog_23_method_4_code_34 (by decide) (by decide) ?_
        refine go_iloadN C (pc' := 10) dc_prog_23_method_4_code_9 rfl rfl ?_
        refine go_iloadN C (pc' := 11) dc_prog_23_method_4_code_10 rfl rfl ?_
        refine go_icmpNo C (pc' := 14) dc_prog_23_method_4_code_11 (by decide) rfl ?_
        refine go_aloadN C (pc' := 15) dc_prog_23_method_4_code_14 rfl rfl rfl ?_
        refine go_iloadN C (pc' := 16) dc_prog_23_method_4_code_15 rfl rfl ?_
        refine go_raget C (pc' := 17) A_ALL rfl (by decide) (i := 3) (by decide) rfl dc_prog_23_method_4_code_16 rfl ?_
        refine go_astore C (pc' := 19) dc_prog_23_method_4_code_17 rfl (Ls' := #[(.val (.int ch)), (.val (.ref a_ALL)), (.val (.int (11 : Int32))), (.val (.int (3 : Int32))), (.val (.ref a_NOT_CONNECT))]) rfl rfl ?_
        refine go_aload C (pc' := 21) dc_prog_23_method_4_code_19 rfl rfl rfl ?_
        refine go_getF C (pc' := 24) (host := "") (Or.inl (wd_9 hw)) Via.refl EnNOT_CONNECT.2.2 dc_prog_23_method_4_code_21 rfl ?_
        refine go_iloadN C (pc' := 25) dc_prog_23_method_4_code_24 rfl rfl ?_
        by_cases hc4 : (310 : Int32) = ch
        · refine go_icmpNo C (pc' := 28) dc_prog_23_method_4_code_25 (teq hc4).2 rfl ?_
          refine go_aload C (pc' := 30) dc_prog_23_method_4_code_28 rfl rfl rfl ?_
          exact go_retA C rfl rfl dc_prog_23_method_4_code_30 (by decide) (by decide) ⟨by simp only [sel, if_neg (Ne.symm hc1), if_neg (Ne.symm hc2), if_neg (Ne.symm hc3), if_pos hc4.symm], rfl⟩
        · refine go_icmpYes C (pc' := 31) dc_prog_23_method_4_code_25 (feq hc4).2 (by decide) (by decide) ?_
          refine go_iinc C (pc' := 34) dc_prog_23_method_4_code_31 rfl (Ls' := #[(.val (.int ch)), (.val (.ref a_ALL)), (.val (.int (11 : Int32))), (.val (.int ((3 : Int32) + (1 : Int32)))), (.val (.ref a_NOT_CONNECT))]) rfl rfl ?_
          refine go_ls (Ls' := #[(.val (.int ch)), (.val (.ref a_ALL)), (.val (.int (11 : Int32))), (.val (.int (4 : Int32))), (.val (.ref a_NOT_CONNECT))]) (by rw [show ((3 : Int32) + (1 : Int32)) = (4 : Int32) from by decide]) ?_
          refine go_goto C (pc' := 9) dc_prog_23_method_4_code_34 (by decide) (by decide) ?_
          refine go_iloadN C (pc' := 10) dc_prog_23_method_4_code_9 rfl rfl ?_
          refine go_iloadN C (pc' := 11) dc_prog_23_method_4_code_10 rfl rfl ?_
          refine go_icmpNo C (pc' := 14) dc_prog_23_method_4_code_11 (by decide) rfl ?_
          refine go_aloadN C (pc' := 15) dc_prog_23_method_4_code_14 rfl rfl rfl ?_
          refine go_iloadN C (pc' := 16) dc_prog_23_method_4_code_15 rfl rfl ?_
          refine go_raget C (pc' := 17) A_ALL rfl (by decide) (i := 4) (by decide) rfl dc_prog_23_method_4_code_16 rfl ?_
          refine go_astore C (pc' := 19) dc_prog_23_method_4_code_17 rfl (Ls' := #[(.val (.int ch)), (.val (.ref a_ALL)), (.val (.int (11 : Int32))), (.val (.int (4 : Int32))), (.val (.ref a_ACCESS_DENIED))]) rfl rfl ?_
          refine go_aload C (pc' := 21) dc_prog_23_method_4_code_19 rfl rfl rfl ?_
          refine go_getF C (pc' := 24) (host := "") (Or.inl (wd_9 hw)) Via.refl EnACCESS_DENIED.2.2 dc_prog_23_method_4_code_21 rfl ?_
          refine go_iloadN C (pc' := 25) dc_prog_23_method_4_code_24 rfl rfl ?_
          by_cases hc5 : (320 : Int32) = ch
          · refine go_icmpNo C (pc' := 28) dc_prog_23_method_4_code_25 (teq hc5).2 rfl ?_
            refine go_aload C (pc' := 30) dc_prog_23_method_4_code_28 rfl rfl rfl ?_
            exact go_retA C rfl rfl dc_prog_23_method_4_code_30 (by decide) (by decide) ⟨by simp only [sel, if_neg (Ne.symm hc1), if_neg (Ne.symm hc2), if_neg (Ne.symm hc3), if_neg (Ne.symm hc4), if_pos hc5.symm], rfl⟩
          · refine go_icmpYes C (pc' := 31) dc_prog_23_method_4_code_25 (feq hc5).2 (by decide) (by decide) ?_
            refine go_iinc C (pc' := 34) dc_prog_23_method_4_code_31 rfl (Ls' := #[(.val (.int ch)), (.val (.ref a_ALL)), (.val (.int (11 : Int32))), (.val (.int ((4 : Int32) + (1 : Int32)))), (.val (.ref a_ACCESS_DENIED))]) rfl rfl ?_
            refine go_ls (Ls' := #[(.val (.int ch)), (.val (.ref a_ALL)), (.val (.int (11 : Int32))), (.val (.int (5 : Int32))), (.val (.ref a_ACCESS_DENIED))]) (by rw [show ((4 : Int32) + (1 : Int32)) = (5 : Int32) from by decide]) ?_
            refine go_goto C (pc' := 9) dc_prog_23_method_4_code_34 (by decide) (by decide) ?_
            refine go_iloadN C (pc' := 10) dc_prog_23_method_4_code_9 rfl rfl ?_
            refine go_iloadN C (pc' := 11) dc_prog_23_method_4_code_10 rfl rfl ?_
            refine go_icmpNo C (pc' := 14) dc_prog_23_method_4_code_11 (by decide) rfl ?_
            refine go_aloadN C (pc' := 15) dc_prog_23_method_4_code_14 rfl rfl rfl ?_
            refine go_iloadN C (pc' := 16) dc_prog_23_method_4_code_15 rfl rfl ?_
            refine go_raget C (pc' := 17) A_ALL rfl (by decide) (i := 5) (by decide) rfl dc_prog_23_method_4_code_16 rfl ?_
            refine go_astore C (pc' := 19) dc_prog_23_method_4_code_17 rfl (Ls' := #[(.val (.int ch)), (.val (.ref a_ALL)), (.val (.int (11 : Int32))), (.val (.int (5 : Int32))), (.val (.ref a_ILLEGAL_REQUEST))]) rfl rfl ?_
            refine go_aload C (pc' := 21) dc_prog_23_method_4_code_19 rfl rfl rfl ?_
            refine go_getF C (pc' := 24) (host := "") (Or.inl (wd_9 hw)) Via.refl EnILLEGAL_REQUEST.2.2 dc_prog_23_method_4_code_21 rfl ?_
            refine go_iloadN C (pc' := 25) dc_prog_23_method_4_code_24 rfl rfl ?_
            by_cases hc6 : (400 : Int32) = ch
            · refine go_icmpNo C (pc' := 28) dc_prog_23_method_4_code_25 (teq hc6).2 rfl ?_
              refine go_aload C (pc' := 30) dc_prog_23_method_4_code_28 rfl rfl rfl ?_
              exact go_retA C rfl rfl dc_prog_23_method_4_code_30 (by decide) (by decide) ⟨by simp only [sel, if_neg (Ne.symm hc1), if_neg (Ne.symm hc2), if_neg (Ne.symm hc3), if_neg (Ne.symm hc4), if_neg (Ne.symm hc5), if_pos hc6.symm], rfl⟩
            · refine go_icmpYes C (pc' := 31) dc_prog_23_method_4_code_25 (feq hc6).2 (by decide) (by decide) ?_
              refine go_iinc C (pc' := 34) dc_prog_23_method_4_code_31 rfl (Ls' := #[(.val (.int ch)), (.val (.ref a_ALL)), (.val (.int (11 : Int32))), (.val (.int ((5 : Int32) + (1 : Int32)))), (.val (.ref a_ILLEGAL_REQUEST))]) rfl rfl ?_
              refine go_ls (Ls' := #[(.val (.int ch)), (.val (.ref a_ALL)), (.val (.int (11 : Int32))), (.val (.int (6 : Int32))), (.val (.ref a_ILLEGAL_REQUEST))]) (by rw [show ((5 : Int32) + (1 : Int32)) = (6 : Int32) from by decide]) ?_
              refine go_goto C (pc' := 9) dc_prog_23_method_4_code_34 (by decide) (by decide) ?_
              refine go_iloadN C (pc' := 10) dc_prog_23_method_4_code_9 rfl rfl ?_
              refine go_iloadN C (pc' := 11) dc_prog_23_method_4_code_10 rfl rfl ?_
              refine go_icmpNo C (pc' := 14) dc_prog_23_method_4_code_11 (by decide) rfl ?_
              refine go_aloadN C (pc' := 15) dc_prog_23_method_4_code_14 rfl rfl rfl ?_
              refine go_iloadN C (pc' := 16) dc_prog_23_method_4_code_15 rfl rfl ?_
              refine go_raget C (pc' := 17) A_ALL rfl (by decide) (i := 6) (by decide) rfl dc_prog_23_method_4_code_16 rfl ?_
              refine go_astore C (pc' := 19) dc_prog_23_method_4_code_17 rfl (Ls' := #[(.val (.int ch)), (.val (.ref a_ALL)), (.val (.int (11 : Int32))), (.val (.int (6 : Int32))), (.val (.ref a_UNKNOWN_METHOD))]) rfl rfl ?_
              refine go_aload C (pc' := 21) dc_prog_23_method_4_code_19 rfl rfl rfl ?_
              refine go_getF C (pc' := 24) (host := "") (Or.inl (wd_9 hw)) Via.refl EnUNKNOWN_METHOD.2.2 dc_prog_23_method_4_code_21 rfl ?_
              refine go_iloadN C (pc' := 25) dc_prog_23_method_4_code_24 rfl rfl ?_
              by_cases hc7 : (410 : Int32) = ch
              · refine go_icmpNo C (pc' := 28) dc_prog_23_method_4_code_25 (teq hc7).2 rfl ?_
                refine go_aload C (pc' := 30) dc_prog_23_method_4_code_28 rfl rfl rfl ?_
                exact go_retA C rfl rfl dc_prog_23_method_4_code_30 (by decide) (by decide) ⟨by simp only [sel, if_neg (Ne.symm hc1), if_neg (Ne.symm hc2), if_neg (Ne.symm hc3), if_neg (Ne.symm hc4), if_neg (Ne.symm hc5), if_neg (Ne.symm hc6), if_pos hc7.symm], rfl⟩
              · refine go_icmpYes C (pc' := 31) dc_prog_23_method_4_code_25 (feq hc7).2 (by decide) (by decide) ?_
                refine go_iinc C (pc' := 34) dc_prog_23_method_4_code_31 rfl (Ls' := #[(.val (.int ch)), (.val (.ref a_ALL)), (.val (.int (11 : Int32))), (.val (.int ((6 : Int32) + (1 : Int32)))), (.val (.ref a_UNKNOWN_METHOD))]) rfl rfl ?_
                refine go_ls (Ls' := #[(.val (.int ch)), (.val (.ref a_ALL)), (.val (.int (11 : Int32))), (.val (.int (7 : Int32))), (.val (.ref a_UNKNOWN_METHOD))]) (by rw [show ((6 : Int32) + (1 : Int32)) = (7 : Int32) from by decide]) ?_
                refine go_goto C (pc' := 9) dc_prog_23_method_4_code_34 (by decide) (by decide) ?_
                refine go_iloadN C (pc' := 10) dc_prog_23_method_4_code_9 rfl rfl ?_
                refine go_iloadN C (pc' := 11) dc_prog_23_method_4_code_10 rfl rfl ?_
                refine go_icmpNo C (pc' := 14) dc_prog_23_method_4_code_11 (by decide) rfl ?_
                refine go_aloadN C (pc' := 15) dc_prog_23_method_4_code_14 rfl rfl rfl ?_
                refine go_iloadN C (pc' := 16) dc_prog_23_method_4_code_15 rfl rfl ?_
                refine go_raget C (pc' := 17) A_ALL rfl (by decide) (i := 7) (by decide) rfl dc_prog_23_method_4_code_16 rfl ?_
                refine go_astore C (pc' := 19) dc_prog_23_method_4_code_17 rfl (Ls' := #[(.val (.int ch)), (.val (.ref a_ALL)), (.val (.int (11 : Int32))), (.val (.int (7 : Int32))), (.val (.ref a_ILLEGAL_PARAMETER))]) rfl rfl ?_
                refine go_aload C (pc' := 21) dc_prog_23_method_4_code_19 rfl rfl rfl ?_
                refine go_getF C (pc' := 24) (host := "") (Or.inl (wd_9 hw)) Via.refl EnILLEGAL_PARAMETER.2.2 dc_prog_23_method_4_code_21 rfl ?_
                refine go_iloadN C (pc' := 25) dc_prog_23_method_4_code_24 rfl rfl ?_
                by_cases hc8 : (420 : Int32) = ch
                · refine go_icmpNo C (pc' := 28) dc_prog_23_method_4_code_25 (teq hc8).2 rfl ?_
                  refine go_aload C (pc' := 30) dc_prog_23_method_4_code_28 rfl rfl rfl ?_
                  exact go_retA C rfl rfl dc_prog_23_method_4_code_30 (by decide) (by decide) ⟨by simp only [sel, if_neg (Ne.symm hc1), if_neg (Ne.symm hc2), if_neg (Ne.symm hc3), if_neg (Ne.symm hc4), if_neg (Ne.symm hc5), if_neg (Ne.symm hc6), if_neg (Ne.symm hc7), if_pos hc8.symm], rfl⟩
                · refine go_icmpYes C (pc' := 31) dc_prog_23_method_4_code_25 (feq hc8).2 (by decide) (by decide) ?_
                  refine go_iinc C (pc' := 34) dc_prog_23_method_4_code_31 rfl (Ls' := #[(.val (.int ch)), (.val (.ref a_ALL)), (.val (.int (11 : Int32))), (.val (.int ((7 : Int32) + (1 : Int32)))), (.val (.ref a_ILLEGAL_PARAMETER))]) rfl rfl ?_
                  refine go_ls (Ls' := #[(.val (.int ch)), (.val (.ref a_ALL)), (.val (.int (11 : Int32))), (.val (.int (8 : Int32))), (.val (.ref a_ILLEGAL_PARAMETER))]) (by rw [show ((7 : Int32) + (1 : Int32)) = (8 : Int32) from by decide]) ?_
                  refine go_goto C (pc' := 9) dc_prog_23_method_4_code_34 (by decide) (by decide) ?_
                  refine go_iloadN C (pc' := 10) dc_prog_23_method_4_code_9 rfl rfl ?_
                  refine go_iloadN C (pc' := 11) dc_prog_23_method_4_code_10 rfl rfl ?_
                  refine go_icmpNo C (pc' := 14) dc_prog_23_method_4_code_11 (by decide) rfl ?_
                  refine go_aloadN C (pc' := 15) dc_prog_23_method_4_code_14 rfl rfl rfl ?_
                  refine go_iloadN C (pc' := 16) dc_prog_23_method_4_code_15 rfl rfl ?_
                  refine go_raget C (pc' := 17) A_ALL rfl (by decide) (i := 8) (by decide) rfl dc_prog_23_method_4_code_16 rfl ?_
                  refine go_astore C (pc' := 19) dc_prog_23_method_4_code_17 rfl (Ls' := #[(.val (.int ch)), (.val (.ref a_ALL)), (.val (.int (11 : Int32))), (.val (.int (8 : Int32))), (.val (.ref a_TIME_OUT))]) rfl rfl ?_
                  refine go_aload C (pc' := 21) dc_prog_23_method_4_code_19 rfl rfl rfl ?_
                  refine go_getF C (pc' := 24) (host := "") (Or.inl (wd_9 hw)) Via.refl EnTIME_OUT.2.2 dc_prog_23_method_4_code_21 rfl ?_
                  refine go_iloadN C (pc' := 25) dc_prog_23_method_4_code_24 rfl rfl ?_
                  by_cases hc9 : (430 : Int32) = ch
                  · refine go_icmpNo C (pc' := 28) dc_prog_23_method_4_code_25 (teq hc9).2 rfl ?_
                    refine go_aload C (pc' := 30) dc_prog_23_method_4_code_28 rfl rfl rfl ?_
                    exact go_retA C rfl rfl dc_prog_23_method_4_code_30 (by decide) (by decide) ⟨by simp only [sel, if_neg (Ne.symm hc1), if_neg (Ne.symm hc2), if_neg (Ne.symm hc3), if_neg (Ne.symm hc4), if_neg (Ne.symm hc5), if_neg (Ne.symm hc6), if_neg (Ne.symm hc7), if_neg (Ne.symm hc8), if_pos hc9.symm], rfl⟩
                  · refine go_icmpYes C (pc' := 31) dc_prog_23_method_4_code_25 (feq hc9).2 (by decide) (by decide) ?_
                    refine go_iinc C (pc' := 34) dc_prog_23_method_4_code_31 rfl (Ls' := #[(.val (.int ch)), (.val (.ref a_ALL)), (.val (.int (11 : Int32))), (.val (.int ((8 : Int32) + (1 : Int32)))), (.val (.ref a_TIME_OUT))]) rfl rfl ?_
                    refine go_ls (Ls' := #[(.val (.int ch)), (.val (.ref a_ALL)), (.val (.int (11 : Int32))), (.val (.int (9 : Int32))), (.val (.ref a_TIME_OUT))]) (by rw [show ((8 : Int32) + (1 : Int32)) = (9 : Int32) from by decide]) ?_
                    refine go_goto C (pc' := 9) dc_prog_23_method_4_code_34 (by decide) (by decide) ?_
                    refine go_iloadN C (pc' := 10) dc_prog_23_method_4_code_9 rfl rfl ?_
                    refine go_iloadN C (pc' := 11) dc_prog_23_method_4_code_10 rfl rfl ?_
                    refine go_icmpNo C (pc' := 14) dc_prog_23_method_4_code_11 (by decide) rfl ?_
                    refine go_aloadN C (pc' := 15) dc_prog_23_method_4_code_14 rfl rfl rfl ?_
                    refine go_iloadN C (pc' := 16) dc_prog_23_method_4_code_15 rfl rfl ?_
                    refine go_raget C (pc' := 17) A_ALL rfl (by decide) (i := 9) (by decide) rfl dc_prog_23_method_4_code_16 rfl ?_
                    refine go_astore C (pc' := 19) dc_prog_23_method_4_code_17 rfl (Ls' := #[(.val (.int ch)), (.val (.ref a_ALL)), (.val (.int (11 : Int32))), (.val (.int (9 : Int32))), (.val (.ref a_ILLEGAL_EXPRESSION))]) rfl rfl ?_
                    refine go_aload C (pc' := 21) dc_prog_23_method_4_code_19 rfl rfl rfl ?_
                    refine go_getF C (pc' := 24) (host := "") (Or.inl (wd_9 hw)) Via.refl EnILLEGAL_EXPRESSION.2.2 dc_prog_23_method_4_code_21 rfl ?_
                    refine go_iloadN C (pc' := 25) dc_prog_23_method_4_code_24 rfl rfl ?_
                    by_cases hc10 : (440 : Int32) = ch
                    · refine go_icmpNo C (pc' := 28) dc_prog_23_method_4_code_25 (teq hc10).2 rfl ?_
                      refine go_aload C (pc' := 30) dc_prog_23_method_4_code_28 rfl rfl rfl ?_
                      exact go_retA C rfl rfl dc_prog_23_method_4_code_30 (by decide) (by decide) ⟨by simp only [sel, if_neg (Ne.symm hc1), if_neg (Ne.symm hc2), if_neg (Ne.symm hc3), if_neg (Ne.symm hc4), if_neg (Ne.symm hc5), if_neg (Ne.symm hc6), if_neg (Ne.symm hc7), if_neg (Ne.symm hc8), if_neg (Ne.symm hc9), if_pos hc10.symm], rfl⟩
                    · refine go_icmpYes C (pc' := 31) dc_prog_23_method_4_code_25 (feq hc10).2 (by decide) (by decide) ?_
                      refine go_iinc C (pc' := 34) dc_prog_23_method_4_code_31 rfl (Ls' := #[(.val (.int ch)), (.val (.ref a_ALL)), (.val (.int (11 : Int32))), (.val (.int ((9 : Int32) + (1 : Int32)))), (.val (.ref a_ILLEGAL_EXPRESSION))]) rfl rfl ?_
                      refine go_ls (Ls' := #[(.val (.int ch)), (.val (.ref a_ALL)), (.val (.int (11 : Int32))), (.val (.int (10 : Int32))), (.val (.ref a_ILLEGAL_EXPRESSION))]) (by rw [show ((9 : Int32) + (1 : Int32)) = (10 : Int32) from by decide]) ?_
                      refine go_goto C (pc' := 9) dc_prog_23_method_4_code_34 (by decide) (by decide) ?_
                      refine go_iloadN C (pc' := 10) dc_prog_23_method_4_code_9 rfl rfl ?_
                      refine go_iloadN C (pc' := 11) dc_prog_23_method_4_code_10 rfl rfl ?_
                      refine go_icmpNo C (pc' := 14) dc_prog_23_method_4_code_11 (by decide) rfl ?_
                      refine go_aloadN C (pc' := 15) dc_prog_23_method_4_code_14 rfl rfl rfl ?_
                      refine go_iloadN C (pc' := 16) dc_prog_23_method_4_code_15 rfl rfl ?_
                      refine go_raget C (pc' := 17) A_ALL rfl (by decide) (i := 10) (by decide) rfl dc_prog_23_method_4_code_16 rfl ?_
                      refine go_astore C (pc' := 19) dc_prog_23_method_4_code_17 rfl (Ls' := #[(.val (.int ch)), (.val (.ref a_ALL)), (.val (.int (11 : Int32))), (.val (.int (10 : Int32))), (.val (.ref a_INTERNAL_ERROR))]) rfl rfl ?_
                      refine go_aload C (pc' := 21) dc_prog_23_method_4_code_19 rfl rfl rfl ?_
                      refine go_getF C (pc' := 24) (host := "") (Or.inl (wd_9 hw)) Via.refl EnINTERNAL_ERROR.2.2 dc_prog_23_method_4_code_21 rfl ?_
                      refine go_iloadN C (pc' := 25) dc_prog_23_method_4_code_24 rfl rfl ?_
                      by_cases hc11 : (500 : Int32) = ch
                      · refine go_icmpNo C (pc' := 28) dc_prog_23_method_4_code_25 (teq hc11).2 rfl ?_
                        refine go_aload C (pc' := 30) dc_prog_23_method_4_code_28 rfl rfl rfl ?_
                        exact go_retA C rfl rfl dc_prog_23_method_4_code_30 (by decide) (by decide) ⟨by simp only [sel, if_neg (Ne.symm hc1), if_neg (Ne.symm hc2), if_neg (Ne.symm hc3), if_neg (Ne.symm hc4), if_neg (Ne.symm hc5), if_neg (Ne.symm hc6), if_neg (Ne.symm hc7), if_neg (Ne.symm hc8), if_neg (Ne.symm hc9), if_neg (Ne.symm hc10), if_pos hc11.symm], rfl⟩
                      · refine go_icmpYes C (pc' := 31) dc_prog_23_method_4_code_25 (feq hc11).2 (by decide) (by decide) ?_
                        refine go_iinc C (pc' := 34) dc_prog_23_method_4_code_31 rfl (Ls' := #[(.val (.int ch)), (.val (.ref a_ALL)), (.val (.int (11 : Int32))), (.val (.int ((10 : Int32) + (1 : Int32)))), (.val (.ref a_INTERNAL_ERROR))]) rfl rfl ?_
                        refine go_ls (Ls' := #[(.val (.int ch)), (.val (.ref a_ALL)), (.val (.int (11 : Int32))), (.val (.int (11 : Int32))), (.val (.ref a_INTERNAL_ERROR))]) (by rw [show ((10 : Int32) + (1 : Int32)) = (11 : Int32) from by decide]) ?_
                        refine go_goto C (pc' := 9) dc_prog_23_method_4_code_34 (by decide) (by decide) ?_
                        refine go_iloadN C (pc' := 10) dc_prog_23_method_4_code_9 rfl rfl ?_
                        refine go_iloadN C (pc' := 11) dc_prog_23_method_4_code_10 rfl rfl ?_
                        refine go_icmpYes C (pc' := 37) dc_prog_23_method_4_code_11 (by decide) (by decide) (by decide) ?_
                        refine go_aconstNull C (pc' := 38) dc_prog_23_method_4_code_37 rfl ?_
                        exact go_retA C rfl rfl dc_prog_23_method_4_code_38 (by decide) (by decide) ⟨by simp only [sel, if_neg (Ne.symm hc1), if_neg (Ne.symm hc2), if_neg (Ne.symm hc3), if_neg (Ne.symm hc4), if_neg (Ne.symm hc5), if_neg (Ne.symm hc6), if_neg (Ne.symm hc7), if_neg (Ne.symm hc8), if_neg (Ne.symm hc9), if_neg (Ne.symm hc10), if_neg (Ne.symm hc11)], rfl⟩
set_option maxRecDepth 65536 in
set_option maxHeartbeats 4000000 in
theorem exp_met (l : Launch) (Z : State) (a0 : Array Value) (hw : ∀ d ∈ tables_1, d.before a0 Z = true) (n0 : Nat) (h : Heap) (O : Old Z n0 h) {a_OK : Addr} (EnOK : En_OK Z h a_OK) {a_QUIT : Addr} (EnQUIT : En_QUIT Z h a_QUIT) {a_SERVER_NOT_FOUND : Addr} (EnSERVER_NOT_FOUND : En_SERVER_NOT_FOUND Z h a_SERVER_NOT_FOUND) {a_NOT_CONNECT : Addr} (EnNOT_CONNECT : En_NOT_CONNECT Z h a_NOT_CONNECT) {a_ACCESS_DENIED : Addr} (EnACCESS_DENIED : En_ACCESS_DENIED Z h a_ACCESS_DENIED) {a_ILLEGAL_REQUEST : Addr} (EnILLEGAL_REQUEST : En_ILLEGAL_REQUEST Z h a_ILLEGAL_REQUEST) {a_UNKNOWN_METHOD : Addr} (EnUNKNOWN_METHOD : En_UNKNOWN_METHOD Z h a_UNKNOWN_METHOD) {a_ILLEGAL_PARAMETER : Addr} (EnILLEGAL_PARAMETER : En_ILLEGAL_PARAMETER Z h a_ILLEGAL_PARAMETER) {a_TIME_OUT : Addr} (EnTIME_OUT : En_TIME_OUT Z h a_TIME_OUT) {a_ILLEGAL_EXPRESSION : Addr} (EnILLEGAL_EXPRESSION : En_ILLEGAL_EXPRESSION Z h a_ILLEGAL_EXPRESSION) {a_INTERNAL_ERROR : Addr} (EnINTERNAL_ERROR : En_INTERNAL_ERROR Z h a_INTERNAL_ERROR) (ch : Int32) :
    Met l Z n0 (⟨"com/example/ratatoskr/ratatoskr/gmtp/StatusOfPinLaw", "expected", "(I)Lcom/example/ratatoskr/ratatoskr/gmtp/Status;"⟩ : MethodName) method_2_code 1 (some (.object "com/example/ratatoskr/ratatoskr/gmtp/Status")) [] ({ frames := 0, cells := 0, slots := 0, locals := 0 } : Room) #[(.int ch)] h (fun v h' => v = some (sel ch a_OK a_QUIT a_SERVER_NOT_FOUND a_NOT_CONNECT a_ACCESS_DENIED a_ILLEGAL_REQUEST a_UNKNOWN_METHOD a_ILLEGAL_PARAMETER a_TIME_OUT a_ILLEGAL_EXPRESSION a_INTERNAL_ERROR) ∧ h = h') := by
  refine met_of (Ls := #[(.val (.int ch))]) (by decide +kernel) (fun m => by first | rfl | (simp [entryFrame, mkF, argsToLocals, Value.category]; done)) O ?_
  intro p e s m below meth cd C
  refine go_iloadN C (pc' := 1) dc_method_2_code_0 rfl rfl ?_
  refine go_sipush C (pc' := 4) dc_method_2_code_1 (z := (200 : Int32)) (by decide) rfl ?_
  by_cases hc1 : ch = (200 : Int32)
  · refine go_icmpNo C (pc' := 7) dc_method_2_code_4 (teq hc1).2 rfl ?_
    refine go_getS C (pc' := 10) (host := "") (Or.inl (wd_25 hw)) Via.refl EnOK.1 dc_method_2_code_7 rfl ?_
    exact go_retA C rfl rfl dc_method_2_code_10 (by decide) (by decide) ⟨by simp only [sel, if_pos hc1], rfl⟩
  · refine go_icmpYes C (pc' := 11) dc_method_2_code_4 (feq hc1).2 (by decide) (by decide) ?_
    refine go_iloadN C (pc' := 12) dc_method_2_code_11 rfl rfl ?_
    refine go_sipush C (pc' := 15) dc_method_2_code_12 (z := (210 : Int32)) (by decide) rfl ?_
    by_cases hc2 : ch = (210 : Int32)
    · refine go_icmpNo C (pc' := 18) dc_method_2_code_15 (teq hc2).2 rfl ?_
      refine go_getS C (pc' := 21) (host := "") (Or.inl (wd_28 hw)) Via.refl EnQUIT.1 dc_method_2_code_18 rfl ?_
      exact go_retA C rfl rfl dc_method_2_code_21 (by decide) (by decide) ⟨by simp only [sel, if_neg hc1, if_pos hc2], rfl⟩
    · refine go_icmpYes C (pc' := 22) dc_method_2_code_15 (feq hc2).2 (by decide) (by decide) ?_
      refine go_iloadN C (pc' := 23) dc_method_2_code_22 rfl rfl ?_
      refine go_sipush C (pc' := 26) dc_method_2_code_23 (z := (300 : Int32)) (by decide) rfl ?_
      by_cases hc3 : ch = (300 : Int32)
      · refine go_icmpNo C (pc' := 29) dc_method_2_code_26 (teq hc3).2 rfl ?_
        refine go_getS C (pc' := 32) (host := "") (Or.inl (wd_31 hw)) Via.refl EnSERVER_NOT_FOUND.1 dc_method_2_code_29 rfl ?_
        exact go_retA C rfl rfl dc_method_2_code_32 (by decide) (by decide) ⟨by simp only [sel, if_neg hc1, if_neg hc2, if_pos hc3], rfl⟩
      · refine go_icmpYes C (pc' := 33) dc_method_2_code_26 (feq hc3).2 (by decide) (by decide) ?_
        refine go_iloadN C (pc' := 34) dc_method_2_code_33 rfl rfl ?_
        refine go_sipush C (pc' := 37) dc_method_2_code_34 (z := (310 : Int32)) (by decide) rfl ?_
        by_cases hc4 : ch = (310 : Int32)
        · refine go_icmpNo C (pc' := 40) dc_method_2_code_37 (teq hc4).2 rfl ?_
          refine go_getS C (pc' := 43) (host := "") (Or.inl (wd_26 hw)) Via.refl EnNOT_CONNECT.1 dc_method_2_code_40 rfl ?_
          exact go_retA C rfl rfl dc_method_2_code_43 (by decide) (by decide) ⟨by simp only [sel, if_neg hc1, if_neg hc2, if_neg hc3, if_pos hc4], rfl⟩
        · refine go_icmpYes C (pc' := 44) dc_method_2_code_37 (feq hc4).2 (by decide) (by decide) ?_
          refine go_iloadN C (pc' := 45) dc_method_2_code_44 rfl rfl ?_
          refine go_sipush C (pc' := 48) dc_method_2_code_45 (z := (320 : Int32)) (by decide) rfl ?_
          by_cases hc5 : ch = (320 : Int32)
          · refine go_icmpNo C (pc' := 51) dc_method_2_code_48 (teq hc5).2 rfl ?_
            refine go_getS C (pc' := 54) (host := "") (Or.inl (wd_32 hw)) Via.refl EnACCESS_DENIED.1 dc_method_2_code_51 rfl ?_
            exact go_retA C rfl rfl dc_method_2_code_54 (by decide) (by decide) ⟨by simp only [sel, if_neg hc1, if_neg hc2, if_neg hc3, if_neg hc4, if_pos hc5], rfl⟩
          · refine go_icmpYes C (pc' := 55) dc_method_2_code_48 (feq hc5).2 (by decide) (by decide) ?_
            refine go_iloadN C (pc' := 56) dc_method_2_code_55 rfl rfl ?_
            refine go_sipush C (pc' := 59) dc_method_2_code_56 (z := (400 : Int32)) (by decide) rfl ?_
            by_cases hc6 : ch = (400 : Int32)
            · refine go_icmpNo C (pc' := 62) dc_method_2_code_59 (teq hc6).2 rfl ?_
              refine go_getS C (pc' := 65) (host := "") (Or.inl (wd_30 hw)) Via.refl EnILLEGAL_REQUEST.1 dc_method_2_code_62 rfl ?_
              exact go_retA C rfl rfl dc_method_2_code_65 (by decide) (by decide) ⟨by simp only [sel, if_neg hc1, if_neg hc2, if_neg hc3, if_neg hc4, if_neg hc5, if_pos hc6], rfl⟩
            · refine go_icmpYes C (pc' := 66) dc_method_2_code_59 (feq hc6).2 (by decide) (by decide) ?_
              refine go_iloadN C (pc' := 67) dc_method_2_code_66 rfl rfl ?_
              refine go_sipush C (pc' := 70) dc_method_2_code_67 (z := (410 : Int32)) (by decide) rfl ?_
              by_cases hc7 : ch = (410 : Int32)
              · refine go_icmpNo C (pc' := 73) dc_method_2_code_70 (teq hc7).2 rfl ?_
                refine go_getS C (pc' := 76) (host := "") (Or.inl (wd_29 hw)) Via.refl EnUNKNOWN_METHOD.1 dc_method_2_code_73 rfl ?_
                exact go_retA C rfl rfl dc_method_2_code_76 (by decide) (by decide) ⟨by simp only [sel, if_neg hc1, if_neg hc2, if_neg hc3, if_neg hc4, if_neg hc5, if_neg hc6, if_pos hc7], rfl⟩
              · refine go_icmpYes C (pc' := 77) dc_method_2_code_70 (feq hc7).2 (by decide) (by decide) ?_
                refine go_iloadN C (pc' := 78) dc_method_2_code_77 rfl rfl ?_
                refine go_sipush C (pc' := 81) dc_method_2_code_78 (z := (420 : Int32)) (by decide) rfl ?_
                by_cases hc8 : ch = (420 : Int32)
                · refine go_icmpNo C (pc' := 84) dc_method_2_code_81 (teq hc8).2 rfl ?_
                  refine go_getS C (pc' := 87) (host := "") (Or.inl (wd_35 hw)) Via.refl EnILLEGAL_PARAMETER.1 dc_method_2_code_84 rfl ?_
                  exact go_retA C rfl rfl dc_method_2_code_87 (by decide) (by decide) ⟨by simp only [sel, if_neg hc1, if_neg hc2, if_neg hc3, if_neg hc4, if_neg hc5, if_neg hc6, if_neg hc7, if_pos hc8], rfl⟩
                · refine go_icmpYes C (pc' := 88) dc_method_2_code_81 (feq hc8).2 (by decide) (by decide) ?_
                  refine go_iloadN C (pc' := 89) dc_method_2_code_88 rfl rfl ?_
                  refine go_sipush C (pc' := 92) dc_method_2_code_89 (z := (430 : Int32)) (by decide) rfl ?_
                  by_cases hc9 : ch = (430 : Int32)
                  · refine go_icmpNo C (pc' := 95) dc_method_2_code_92 (teq hc9).2 rfl ?_
                    refine go_getS C (pc' := 98) (host := "") (Or.inl (wd_34 hw)) Via.refl EnTIME_OUT.1 dc_method_2_code_95 rfl ?_
                    exact go_retA C rfl rfl dc_method_2_code_98 (by decide) (by decide) ⟨by simp only [sel, if_neg hc1, if_neg hc2, if_neg hc3, if_neg hc4, if_neg hc5, if_neg hc6, if_neg hc7, if_neg hc8, if_pos hc9], rfl⟩
                  · refine go_icmpYes C (pc' := 99) dc_method_2_code_92 (feq hc9).2 (by decide) (by decide) ?_
                    refine go_iloadN C (pc' := 100) dc_method_2_code_99 rfl rfl ?_
                    refine go_sipush C (pc' := 103) dc_method_2_code_100 (z := (440 : Int32)) (by decide) rfl ?_
                    by_cases hc10 : ch = (440 : Int32)
                    · refine go_icmpNo C (pc' := 106) dc_method_2_code_103 (teq hc10).2 rfl ?_
                      refine go_getS C (pc' := 109) (host := "") (Or.inl (wd_33 hw)) Via.refl EnILLEGAL_EXPRESSION.1 dc_method_2_code_106 rfl ?_
                      exact go_retA C rfl rfl dc_method_2_code_109 (by decide) (by decide) ⟨by simp only [sel, if_neg hc1, if_neg hc2, if_neg hc3, if_neg hc4, if_neg hc5, if_neg hc6, if_neg hc7, if_neg hc8, if_neg hc9, if_pos hc10], rfl⟩
                    · refine go_icmpYes C (pc' := 110) dc_method_2_code_103 (feq hc10).2 (by decide) (by decide) ?_
                      refine go_iloadN C (pc' := 111) dc_method_2_code_110 rfl rfl ?_
                      refine go_sipush C (pc' := 114) dc_method_2_code_111 (z := (500 : Int32)) (by decide) rfl ?_
                      by_cases hc11 : ch = (500 : Int32)
                      · refine go_icmpNo C (pc' := 117) dc_method_2_code_114 (teq hc11).2 rfl ?_
                        refine go_getS C (pc' := 120) (host := "") (Or.inl (wd_27 hw)) Via.refl EnINTERNAL_ERROR.1 dc_method_2_code_117 rfl ?_
                        exact go_retA C rfl rfl dc_method_2_code_120 (by decide) (by decide) ⟨by simp only [sel, if_neg hc1, if_neg hc2, if_neg hc3, if_neg hc4, if_neg hc5, if_neg hc6, if_neg hc7, if_neg hc8, if_neg hc9, if_neg hc10, if_pos hc11], rfl⟩
                      · refine go_icmpYes C (pc' := 121) dc_method_2_code_114 (feq hc11).2 (by decide) (by decide) ?_
                        refine go_aconstNull C (pc' := 122) dc_method_2_code_121 rfl ?_
                        exact go_retA C rfl rfl dc_method_2_code_122 (by decide) (by decide) ⟨by simp only [sel, if_neg hc1, if_neg hc2, if_neg hc3, if_neg hc4, if_neg hc5, if_neg hc6, if_neg hc7, if_neg hc8, if_neg hc9, if_neg hc10, if_neg hc11], rfl⟩
set_option maxRecDepth 65536 in
set_option maxHeartbeats 40000000 in
theorem law_met (l : Launch) (Z : State) (a0 : Array Value) (hw : ∀ d ∈ tables_1, d.before a0 Z = true) (x0 : Int32) (x1 : Int32) (x2 : Int32) {a_OK : Addr} (EnOK : En_OK Z Z.heap a_OK) {a_QUIT : Addr} (EnQUIT : En_QUIT Z Z.heap a_QUIT) {a_SERVER_NOT_FOUND : Addr} (EnSERVER_NOT_FOUND : En_SERVER_NOT_FOUND Z Z.heap a_SERVER_NOT_FOUND) {a_NOT_CONNECT : Addr} (EnNOT_CONNECT : En_NOT_CONNECT Z Z.heap a_NOT_CONNECT) {a_ACCESS_DENIED : Addr} (EnACCESS_DENIED : En_ACCESS_DENIED Z Z.heap a_ACCESS_DENIED) {a_ILLEGAL_REQUEST : Addr} (EnILLEGAL_REQUEST : En_ILLEGAL_REQUEST Z Z.heap a_ILLEGAL_REQUEST) {a_UNKNOWN_METHOD : Addr} (EnUNKNOWN_METHOD : En_UNKNOWN_METHOD Z Z.heap a_UNKNOWN_METHOD) {a_ILLEGAL_PARAMETER : Addr} (EnILLEGAL_PARAMETER : En_ILLEGAL_PARAMETER Z Z.heap a_ILLEGAL_PARAMETER) {a_TIME_OUT : Addr} (EnTIME_OUT : En_TIME_OUT Z Z.heap a_TIME_OUT) {a_ILLEGAL_EXPRESSION : Addr} (EnILLEGAL_EXPRESSION : En_ILLEGAL_EXPRESSION Z Z.heap a_ILLEGAL_EXPRESSION) {a_INTERNAL_ERROR : Addr} (EnINTERNAL_ERROR : En_INTERNAL_ERROR Z Z.heap a_INTERNAL_ERROR) {a_ALL : Addr} {k_ALL : ClassId} (S_ALL : Sta Z Z.heap "com/example/ratatoskr/ratatoskr/gmtp/Status" "ALL" "[Lcom/example/ratatoskr/ratatoskr/gmtp/Status;" (.ref a_ALL)) (A_ALL : Ar Z Z.heap a_ALL (.object "com/example/ratatoskr/ratatoskr/gmtp/Status") k_ALL [(.ref a_OK), (.ref a_QUIT), (.ref a_SERVER_NOT_FOUND), (.ref a_NOT_CONNECT), (.ref a_ACCESS_DENIED), (.ref a_ILLEGAL_REQUEST), (.ref a_UNKNOWN_METHOD), (.ref a_ILLEGAL_PARAMETER), (.ref a_TIME_OUT), (.ref a_ILLEGAL_EXPRESSION), (.ref a_INTERNAL_ERROR)]) :
    Met l Z Z.heap.size x code maxLocals ret tables_1 room_1 #[(.int x0), (.int x1), (.int x2)] Z.heap (fun v _ => v = some (.int (1 : Int32))) := by
  have O := Old.start Z
  refine met_of (Ls := #[(.val (.int x0)), (.val (.int x1)), (.val (.int x2)), .unset, .unset, .unset, .unset]) (by decide +kernel) (fun m => by first | rfl | (simp [entryFrame, mkF, argsToLocals, Value.category, maxLocals]; done)) O ?_
  intro p e s m below meth cd C
  refine go_bipush C (pc' := 2) at_0 (z := (11 : Int32)) (by decide) rfl ?_
  refine go_newPA C (pc' := 4) (len := 11) (ty := .int) rfl (wd_0 hw) at_2 rfl (by decide) (by decide) (by decide) (by decide) (by decide) ?_
  intro h1 b1 k1 g1 n1 E1 A1
  have sz_b1 := Nat.le_trans (Nat.le_refl _) (Nat.le_of_eq g1.symm)
  have ne_a_OK_b1 : a_OK ≠ b1 := Nat.ne_of_lt (by rw [g1]; exact EnOK.2.1.lt)
  have ne_a_QUIT_b1 : a_QUIT ≠ b1 := Nat.ne_of_lt (by rw [g1]; exact EnQUIT.2.1.lt)
  have ne_a_SERVER_NOT_FOUND_b1 : a_SERVER_NOT_FOUND ≠ b1 := Nat.ne_of_lt (by rw [g1]; exact EnSERVER_NOT_FOUND.2.1.lt)
  have ne_a_NOT_CONNECT_b1 : a_NOT_CONNECT ≠ b1 := Nat.ne_of_lt (by rw [g1]; exact EnNOT_CONNECT.2.1.lt)
  have ne_a_ACCESS_DENIED_b1 : a_ACCESS_DENIED ≠ b1 := Nat.ne_of_lt (by rw [g1]; exact EnACCESS_DENIED.2.1.lt)
  have ne_a_ILLEGAL_REQUEST_b1 : a_ILLEGAL_REQUEST ≠ b1 := Nat.ne_of_lt (by rw [g1]; exact EnILLEGAL_REQUEST.2.1.lt)
  have ne_a_UNKNOWN_METHOD_b1 : a_UNKNOWN_METHOD ≠ b1 := Nat.ne_of_lt (by rw [g1]; exact EnUNKNOWN_METHOD.2.1.lt)
  have ne_a_ILLEGAL_PARAMETER_b1 : a_ILLEGAL_PARAMETER ≠ b1 := Nat.ne_of_lt (by rw [g1]; exact EnILLEGAL_PARAMETER.2.1.lt)
  have ne_a_TIME_OUT_b1 : a_TIME_OUT ≠ b1 := Nat.ne_of_lt (by rw [g1]; exact EnTIME_OUT.2.1.lt)
  have ne_a_ILLEGAL_EXPRESSION_b1 : a_ILLEGAL_EXPRESSION ≠ b1 := Nat.ne_of_lt (by rw [g1]; exact EnILLEGAL_EXPRESSION.2.1.lt)
  have ne_a_INTERNAL_ERROR_b1 : a_INTERNAL_ERROR ≠ b1 := Nat.ne_of_lt (by rw [g1]; exact EnINTERNAL_ERROR.2.1.lt)
  have ne_a_ALL_b1 : a_ALL ≠ b1 := Nat.ne_of_lt (by rw [g1]; exact A_ALL.lt)
  refine go_old fun O1 => ?_
  refine go_dup C (pc' := 5) at_4 rfl rfl ?_
  refine go_iconst C (pc' := 6) at_5 (z := (0 : Int32)) (by decide) rfl ?_
  refine go_sipush C (pc' := 9) at_6 (z := (200 : Int32)) (by decide) rfl ?_
  refine go_iaset C (pc' := 10) A1 (by decide) (i := 0) (by decide) (by simp) (vs' := [(.int (200 : Int32)), (.int (0 : Int32)), (.int (0 : Int32)), (.int (0 : Int32)), (.int (0 : Int32)), (.int (0 : Int32)), (.int (0 : Int32)), (.int (0 : Int32)), (.int (0 : Int32)), (.int (0 : Int32)), (.int (0 : Int32))]) rfl at_9 rfl n1 ?_
  intro h2 W2 A2
  refine go_old fun O2 => ?_
  refine go_dup C (pc' := 11) at_10 rfl rfl ?_
  refine go_iconst C (pc' := 12) at_11 (z := (1 : Int32)) (by decide) rfl ?_
  refine go_sipush C (pc' := 15) at_12 (z := (210 : Int32)) (by decide) rfl ?_
  refine go_iaset C (pc' := 16) A2 (by decide) (i := 1) (by decide) (by simp) (vs' := [(.int (200 : Int32)), (.int (210 : Int32)), (.int (0 : Int32)), (.int (0 : Int32)), (.int (0 : Int32)), (.int (0 : Int32)), (.int (0 : Int32)), (.int (0 : Int32)), (.int (0 : Int32)), (.int (0 : Int32)), (.int (0 : Int32))]) rfl at_15 rfl n1 ?_
  intro h3 W3 A3
  refine go_old fun O3 => ?_
  refine go_dup C (pc' := 17) at_16 rfl rfl ?_
  refine go_iconst C (pc' := 18) at_17 (z := (2 : Int32)) (by decide) rfl ?_
  refine go_sipush C (pc' := 21) at_18 (z := (300 : Int32)) (by decide) rfl ?_
  refine go_iaset C (pc' := 22) A3 (by decide) (i := 2) (by decide) (by simp) (vs' := [(.int (200 : Int32)), (.int (210 : Int32)), (.int (300 : Int32)), (.int (0 : Int32)), (.int (0 : Int32)), (.int (0 : Int32)), (.int (0 : Int32)), (.int (0 : Int32)), (.int (0 : Int32)), (.int (0 : Int32)), (.int (0 : Int32))]) rfl at_21 rfl n1 ?_
  intro h4 W4 A4
  refine go_old fun O4 => ?_
  refine go_dup C (pc' := 23) at_22 rfl rfl ?_
  refine go_iconst C (pc' := 24) at_23 (z := (3 : Int32)) (by decide) rfl ?_
  refine go_sipush C (pc' := 27) at_24 (z := (310 : Int32)) (by decide) rfl ?_
  refine go_iaset C (pc' := 28) A4 (by decide) (i := 3) (by decide) (by simp) (vs' := [(.int (200 : Int32)), (.int (210 : Int32)), (.int (300 : Int32)), (.int (310 : Int32)), (.int (0 : Int32)), (.int (0 : Int32)), (.int (0 : Int32)), (.int (0 : Int32)), (.int (0 : Int32)), (.int (0 : Int32)), (.int (0 : Int32))]) rfl at_27 rfl n1 ?_
  intro h5 W5 A5
  refine go_old fun O5 => ?_
  refine go_dup C (pc' := 29) at_28 rfl rfl ?_
  refine go_iconst C (pc' := 30) at_29 (z := (4 : Int32)) (by decide) rfl ?_
  refine go_sipush C (pc' := 33) at_30 (z := (320 : Int32)) (by decide) rfl ?_
  refine go_iaset C (pc' := 34) A5 (by decide) (i := 4) (by decide) (by simp) (vs' := [(.int (200 : Int32)), (.int (210 : Int32)), (.int (300 : Int32)), (.int (310 : Int32)), (.int (320 : Int32)), (.int (0 : Int32)), (.int (0 : Int32)), (.int (0 : Int32)), (.int (0 : Int32)), (.int (0 : Int32)), (.int (0 : Int32))]) rfl at_33 rfl n1 ?_
  intro h6 W6 A6
  refine go_old fun O6 => ?_
  refine go_dup C (pc' := 35) at_34 rfl rfl ?_
  refine go_iconst C (pc' := 36) at_35 (z := (5 : Int32)) (by decide) rfl ?_
  refine go_sipush C (pc' := 39) at_36 (z := (400 : Int32)) (by decide) rfl ?_
  refine go_iaset C (pc' := 40) A6 (by decide) (i := 5) (by decide) (by simp) (vs' := [(.int (200 : Int32)), (.int (210 : Int32)), (.int (300 : Int32)), (.int (310 : Int32)), (.int (320 : Int32)), (.int (400 : Int32)), (.int (0 : Int32)), (.int (0 : Int32)), (.int (0 : Int32)), (.int (0 : Int32)), (.int (0 : Int32))]) rfl at_39 rfl n1 ?_
  intro h7 W7 A7
  refine go_old fun O7 => ?_
  refine go_dup C (pc' := 41) at_40 rfl rfl ?_
  refine go_bipush C (pc' := 43) at_41 (z := (6 : Int32)) (by decide) rfl ?_
  refine go_sipush C (pc' := 46) at_43 (z := (410 : Int32)) (by decide) rfl ?_
  refine go_iaset C (pc' := 47) A7 (by decide) (i := 6) (by decide) (by simp) (vs' := [(.int (200 : Int32)), (.int (210 : Int32)), (.int (300 : Int32)), (.int (310 : Int32)), (.int (320 : Int32)), (.int (400 : Int32)), (.int (410 : Int32)), (.int (0 : Int32)), (.int (0 : Int32)), (.int (0 : Int32)), (.int (0 : Int32))]) rfl at_46 rfl n1 ?_
  intro h8 W8 A8
  refine go_old fun O8 => ?_
  refine go_dup C (pc' := 48) at_47 rfl rfl ?_
  refine go_bipush C (pc' := 50) at_48 (z := (7 : Int32)) (by decide) rfl ?_
  refine go_sipush C (pc' := 53) at_50 (z := (420 : Int32)) (by decide) rfl ?_
  refine go_iaset C (pc' := 54) A8 (by decide) (i := 7) (by decide) (by simp) (vs' := [(.int (200 : Int32)), (.int (210 : Int32)), (.int (300 : Int32)), (.int (310 : Int32)), (.int (320 : Int32)), (.int (400 : Int32)), (.int (410 : Int32)), (.int (420 : Int32)), (.int (0 : Int32)), (.int (0 : Int32)), (.int (0 : Int32))]) rfl at_53 rfl n1 ?_
  intro h9 W9 A9
  refine go_old fun O9 => ?_
  refine go_dup C (pc' := 55) at_54 rfl rfl ?_
  refine go_bipush C (pc' := 57) at_55 (z := (8 : Int32)) (by decide) rfl ?_
  refine go_sipush C (pc' := 60) at_57 (z := (430 : Int32)) (by decide) rfl ?_
  refine go_iaset C (pc' := 61) A9 (by decide) (i := 8) (by decide) (by simp) (vs' := [(.int (200 : Int32)), (.int (210 : Int32)), (.int (300 : Int32)), (.int (310 : Int32)), (.int (320 : Int32)), (.int (400 : Int32)), (.int (410 : Int32)), (.int (420 : Int32)), (.int (430 : Int32)), (.int (0 : Int32)), (.int (0 : Int32))]) rfl at_60 rfl n1 ?_
  intro h10 W10 A10
  refine go_old fun O10 => ?_
  refine go_dup C (pc' := 62) at_61 rfl rfl ?_
  refine go_bipush C (pc' := 64) at_62 (z := (9 : Int32)) (by decide) rfl ?_
  refine go_sipush C (pc' := 67) at_64 (z := (440 : Int32)) (by decide) rfl ?_
  refine go_iaset C (pc' := 68) A10 (by decide) (i := 9) (by decide) (by simp) (vs' := [(.int (200 : Int32)), (.int (210 : Int32)), (.int (300 : Int32)), (.int (310 : Int32)), (.int (320 : Int32)), (.int (400 : Int32)), (.int (410 : Int32)), (.int (420 : Int32)), (.int (430 : Int32)), (.int (440 : Int32)), (.int (0 : Int32))]) rfl at_67 rfl n1 ?_
  intro h11 W11 A11
  refine go_old fun O11 => ?_
  refine go_dup C (pc' := 69) at_68 rfl rfl ?_
  refine go_bipush C (pc' := 71) at_69 (z := (10 : Int32)) (by decide) rfl ?_
  refine go_sipush C (pc' := 74) at_71 (z := (500 : Int32)) (by decide) rfl ?_
  refine go_iaset C (pc' := 75) A11 (by decide) (i := 10) (by decide) (by simp) (vs' := [(.int (200 : Int32)), (.int (210 : Int32)), (.int (300 : Int32)), (.int (310 : Int32)), (.int (320 : Int32)), (.int (400 : Int32)), (.int (410 : Int32)), (.int (420 : Int32)), (.int (430 : Int32)), (.int (440 : Int32)), (.int (500 : Int32))]) rfl at_74 rfl n1 ?_
  intro h12 W12 A12
  refine go_old fun O12 => ?_
  refine go_astoreN C (pc' := 76) at_75 rfl (Ls' := #[(.val (.int x0)), (.val (.int x1)), (.val (.int x2)), (.val (.ref b1)), .unset, .unset, .unset]) rfl rfl ?_
  refine go_iloadN C (pc' := 77) at_76 rfl rfl ?_
  refine go_ldcInt C (pc' := 79) (wd_1 hw) at_77 rfl ?_
  refine go_iand C (pc' := 80) at_79 rfl ?_
  refine go_bipush C (pc' := 82) at_80 (z := (11 : Int32)) (by decide) rfl ?_
  refine go_irem C (pc' := 83) at_82 (by decide) rfl ?_
  refine go_istore C (pc' := 85) at_83 (Ls' := #[(.val (.int x0)), (.val (.int x1)), (.val (.int x2)), (.val (.ref b1)), (.val (.int ((x0 &&& (2147483647 : Int32)) % (11 : Int32)))), .unset, .unset]) rfl rfl ?_
  refine go_iloadN C (pc' := 86) at_85 rfl rfl ?_
  refine go_iconst C (pc' := 87) at_86 (z := (1 : Int32)) (by decide) rfl ?_
  refine go_iand C (pc' := 88) at_87 rfl ?_
  have hi := own_rem x0 11 11 (by decide) (by decide)
  generalize ((x0 &&& (2147483647 : Int32)) % (11 : Int32)) = i at hi ⊢
  by_cases hc13 : (x2 &&& (1 : Int32)) = 0
  · refine go_ifYes C (pc' := 97) at_88 ((if0 _ _).trans (teq hc13).1) (by decide) (by decide) ?_
    rcases own_cases11 hi with rfl | rfl | rfl | rfl | rfl | rfl | rfl | rfl | rfl | rfl | rfl
    · skip
      refine go_aloadN C (pc' := 98) at_97 rfl rfl rfl ?_
      refine go_iload C (pc' := 100) at_98 rfl rfl ?_
      refine go_iaget C (pc' := 101) A12 (by decide) (i := 0) (by decide) rfl at_100 rfl ?_
      refine go_iloadN C (pc' := 102) at_101 rfl rfl ?_
      refine go_bipush C (pc' := 104) at_102 (z := (15 : Int32)) (by decide) rfl ?_
      refine go_iand C (pc' := 105) at_104 rfl ?_
      refine go_bipush C (pc' := 107) at_105 (z := (8 : Int32)) (by decide) rfl ?_
      refine go_isub C (pc' := 108) at_107 rfl ?_
      refine go_iadd C (pc' := 109) at_108 rfl ?_
      refine go_istore C (pc' := 111) at_109 (Ls' := #[(.val (.int x0)), (.val (.int x1)), (.val (.int x2)), (.val (.ref b1)), (.val (.int (0 : Int32))), (.val (.int ((200 : Int32) + ((x1 &&& (15 : Int32)) - (8 : Int32))))), .unset]) rfl rfl ?_
      refine go_iload C (pc' := 113) at_111 rfl rfl ?_
      generalize hcc : ((200 : Int32) + ((x1 &&& (15 : Int32)) - (8 : Int32))) = cc
      refine go_callS C (pc' := 116) (y' := (⟨"com/example/ratatoskr/ratatoskr/gmtp/Status", "of", "(I)Lcom/example/ratatoskr/ratatoskr/gmtp/Status;"⟩ : MethodName)) (wd_2 hw) (wd_3 hw) (of_met l Z a0 hw _ _ O12 (EnOK.ext O12.2) (EnQUIT.ext O12.2) (EnSERVER_NOT_FOUND.ext O12.2) (EnNOT_CONNECT.ext O12.2) (EnACCESS_DENIED.ext O12.2) (EnILLEGAL_REQUEST.ext O12.2) (EnUNKNOWN_METHOD.ext O12.2) (EnILLEGAL_PARAMETER.ext O12.2) (EnTIME_OUT.ext O12.2) (EnILLEGAL_EXPRESSION.ext O12.2) (EnINTERNAL_ERROR.ext O12.2) (S_ALL.ext O12.2) (A_ALL.ext O12.2) cc) (wd_5 hw) (wd_4 hw) (by decide) (by decide) (W := 0) (Nat.le_of_ble_eq_true rfl) (by decide) (by decide) (by decide) rfl (argsL := [(.int cc)]) (rest := []) pd_0 rfl rfl rfl at_113 rfl ?_
      rintro _ _ ⟨rfl, rfl⟩
      refine go_st (st' := [(sel cc a_OK a_QUIT a_SERVER_NOT_FOUND a_NOT_CONNECT a_ACCESS_DENIED a_ILLEGAL_REQUEST a_UNKNOWN_METHOD a_ILLEGAL_PARAMETER a_TIME_OUT a_ILLEGAL_EXPRESSION a_INTERNAL_ERROR)]) rfl ?_
      refine go_astore C (pc' := 118) at_116 (sel_ref _ a_OK a_QUIT a_SERVER_NOT_FOUND a_NOT_CONNECT a_ACCESS_DENIED a_ILLEGAL_REQUEST a_UNKNOWN_METHOD a_ILLEGAL_PARAMETER a_TIME_OUT a_ILLEGAL_EXPRESSION a_INTERNAL_ERROR) (Ls' := #[(.val (.int x0)), (.val (.int x1)), (.val (.int x2)), (.val (.ref b1)), (.val (.int (0 : Int32))), (.val (.int cc)), (.val (sel cc a_OK a_QUIT a_SERVER_NOT_FOUND a_NOT_CONNECT a_ACCESS_DENIED a_ILLEGAL_REQUEST a_UNKNOWN_METHOD a_ILLEGAL_PARAMETER a_TIME_OUT a_ILLEGAL_EXPRESSION a_INTERNAL_ERROR))]) (XS.store1 rfl (Or.inl rfl) (sel_cat _ a_OK a_QUIT a_SERVER_NOT_FOUND a_NOT_CONNECT a_ACCESS_DENIED a_ILLEGAL_REQUEST a_UNKNOWN_METHOD a_ILLEGAL_PARAMETER a_TIME_OUT a_ILLEGAL_EXPRESSION a_INTERNAL_ERROR)) rfl ?_
      refine go_aload C (pc' := 120) at_118 rfl (sel_ref _ a_OK a_QUIT a_SERVER_NOT_FOUND a_NOT_CONNECT a_ACCESS_DENIED a_ILLEGAL_REQUEST a_UNKNOWN_METHOD a_ILLEGAL_PARAMETER a_TIME_OUT a_ILLEGAL_EXPRESSION a_INTERNAL_ERROR) rfl ?_
      refine go_iload C (pc' := 122) at_120 rfl rfl ?_
      refine go_callS C (pc' := 125) (y' := (⟨"com/example/ratatoskr/ratatoskr/gmtp/StatusOfPinLaw", "expected", "(I)Lcom/example/ratatoskr/ratatoskr/gmtp/Status;"⟩ : MethodName)) (wd_21 hw) (wd_22 hw) (exp_met l Z a0 hw _ _ O12 (EnOK.ext O12.2) (EnQUIT.ext O12.2) (EnSERVER_NOT_FOUND.ext O12.2) (EnNOT_CONNECT.ext O12.2) (EnACCESS_DENIED.ext O12.2) (EnILLEGAL_REQUEST.ext O12.2) (EnUNKNOWN_METHOD.ext O12.2) (EnILLEGAL_PARAMETER.ext O12.2) (EnTIME_OUT.ext O12.2) (EnILLEGAL_EXPRESSION.ext O12.2) (EnINTERNAL_ERROR.ext O12.2) cc) (wd_24 hw) (wd_23 hw) (by decide) (by decide) (W := 1) (by simp [sel_cat]) (by decide) (by decide) (by decide) rfl (argsL := [(.int cc)]) (rest := [(sel cc a_OK a_QUIT a_SERVER_NOT_FOUND a_NOT_CONNECT a_ACCESS_DENIED a_ILLEGAL_REQUEST a_UNKNOWN_METHOD a_ILLEGAL_PARAMETER a_TIME_OUT a_ILLEGAL_EXPRESSION a_INTERNAL_ERROR)]) pd_0 rfl rfl rfl at_122 rfl ?_
      rintro _ _ ⟨rfl, rfl⟩
      refine go_st (st' := [(sel cc a_OK a_QUIT a_SERVER_NOT_FOUND a_NOT_CONNECT a_ACCESS_DENIED a_ILLEGAL_REQUEST a_UNKNOWN_METHOD a_ILLEGAL_PARAMETER a_TIME_OUT a_ILLEGAL_EXPRESSION a_INTERNAL_ERROR), (sel cc a_OK a_QUIT a_SERVER_NOT_FOUND a_NOT_CONNECT a_ACCESS_DENIED a_ILLEGAL_REQUEST a_UNKNOWN_METHOD a_ILLEGAL_PARAMETER a_TIME_OUT a_ILLEGAL_EXPRESSION a_INTERNAL_ERROR)]) rfl ?_
      refine go_acmpNo C (pc' := 128) at_125 (sel_ref _ a_OK a_QUIT a_SERVER_NOT_FOUND a_NOT_CONNECT a_ACCESS_DENIED a_ILLEGAL_REQUEST a_UNKNOWN_METHOD a_ILLEGAL_PARAMETER a_TIME_OUT a_ILLEGAL_EXPRESSION a_INTERNAL_ERROR) (sel_ref _ a_OK a_QUIT a_SERVER_NOT_FOUND a_NOT_CONNECT a_ACCESS_DENIED a_ILLEGAL_REQUEST a_UNKNOWN_METHOD a_ILLEGAL_PARAMETER a_TIME_OUT a_ILLEGAL_EXPRESSION a_INTERNAL_ERROR) (acmp_neF rfl) rfl ?_
      refine go_iconst C (pc' := 129) at_128 (z := (1 : Int32)) (by decide) rfl ?_
      refine go_goto C (pc' := 133) at_129 (by decide) (by decide) ?_
      exact go_retN C (by simp) (z' := (1 : Int32)) (by decide) at_133 (by decide) (by decide) rfl
    · skip
      refine go_aloadN C (pc' := 98) at_97 rfl rfl rfl ?_
      refine go_iload C (pc' := 100) at_98 rfl rfl ?_
      refine go_iaget C (pc' := 101) A12 (by decide) (i := 1) (by decide) rfl at_100 rfl ?_
      refine go_iloadN C (pc' := 102) at_101 rfl rfl ?_
      refine go_bipush C (pc' := 104) at_102 (z := (15 : Int32)) (by decide) rfl ?_
      refine go_iand C (pc' := 105) at_104 rfl ?_
      refine go_bipush C (pc' := 107) at_105 (z := (8 : Int32)) (by decide) rfl ?_
      refine go_isub C (pc' := 108) at_107 rfl ?_
      refine go_iadd C (pc' := 109) at_108 rfl ?_
      refine go_istore C (pc' := 111) at_109 (Ls' := #[(.val (.int x0)), (.val (.int x1)), (.val (.int x2)), (.val (.ref b1)), (.val (.int (1 : Int32))), (.val (.int ((210 : Int32) + ((x1 &&& (15 : Int32)) - (8 : Int32))))), .unset]) rfl rfl ?_
      refine go_iload C (pc' := 113) at_111 rfl rfl ?_
      generalize hcc : ((210 : Int32) + ((x1 &&& (15 : Int32)) - (8 : Int32))) = cc
      refine go_callS C (pc' := 116) (y' := (⟨"com/example/ratatoskr/ratatoskr/gmtp/Status", "of", "(I)Lcom/example/ratatoskr/ratatoskr/gmtp/Status;"⟩ : MethodName)) (wd_2 hw) (wd_3 hw) (of_met l Z a0 hw _ _ O12 (EnOK.ext O12.2) (EnQUIT.ext O12.2) (EnSERVER_NOT_FOUND.ext O12.2) (EnNOT_CONNECT.ext O12.2) (EnACCESS_DENIED.ext O12.2) (EnILLEGAL_REQUEST.ext O12.2) (EnUNKNOWN_METHOD.ext O12.2) (EnILLEGAL_PARAMETER.ext O12.2) (EnTIME_OUT.ext O12.2) (EnILLEGAL_EXPRESSION.ext O12.2) (EnINTERNAL_ERROR.ext O12.2) (S_ALL.ext O12.2) (A_ALL.ext O12.2) cc) (wd_5 hw) (wd_4 hw) (by decide) (by decide) (W := 0) (Nat.le_of_ble_eq_true rfl) (by decide) (by decide) (by decide) rfl (argsL := [(.int cc)]) (rest := []) pd_0 rfl rfl rfl at_113 rfl ?_
      rintro _ _ ⟨rfl, rfl⟩
      refine go_st (st' := [(sel cc a_OK a_QUIT a_SERVER_NOT_FOUND a_NOT_CONNECT a_ACCESS_DENIED a_ILLEGAL_REQUEST a_UNKNOWN_METHOD a_ILLEGAL_PARAMETER a_TIME_OUT a_ILLEGAL_EXPRESSION a_INTERNAL_ERROR)]) rfl ?_
      refine go_astore C (pc' := 118) at_116 (sel_ref _ a_OK a_QUIT a_SERVER_NOT_FOUND a_NOT_CONNECT a_ACCESS_DENIED a_ILLEGAL_REQUEST a_UNKNOWN_METHOD a_ILLEGAL_PARAMETER a_TIME_OUT a_ILLEGAL_EXPRESSION a_INTERNAL_ERROR) (Ls' := #[(.val (.int x0)), (.val (.int x1)), (.val (.int x2)), (.val (.ref b1)), (.val (.int (1 : Int32))), (.val (.int cc)), (.val (sel cc a_OK a_QUIT a_SERVER_NOT_FOUND a_NOT_CONNECT a_ACCESS_DENIED a_ILLEGAL_REQUEST a_UNKNOWN_METHOD a_ILLEGAL_PARAMETER a_TIME_OUT a_ILLEGAL_EXPRESSION a_INTERNAL_ERROR))]) (XS.store1 rfl (Or.inl rfl) (sel_cat _ a_OK a_QUIT a_SERVER_NOT_FOUND a_NOT_CONNECT a_ACCESS_DENIED a_ILLEGAL_REQUEST a_UNKNOWN_METHOD a_ILLEGAL_PARAMETER a_TIME_OUT a_ILLEGAL_EXPRESSION a_INTERNAL_ERROR)) rfl ?_
      refine go_aload C (pc' := 120) at_118 rfl (sel_ref _ a_OK a_QUIT a_SERVER_NOT_FOUND a_NOT_CONNECT a_ACCESS_DENIED a_ILLEGAL_REQUEST a_UNKNOWN_METHOD a_ILLEGAL_PARAMETER a_TIME_OUT a_ILLEGAL_EXPRESSION a_INTERNAL_ERROR) rfl ?_
      refine go_iload C (pc' := 122) at_120 rfl rfl ?_
      refine go_callS C (pc' := 125) (y' := (⟨"com/example/ratatoskr/ratatoskr/gmtp/StatusOfPinLaw", "expected", "(I)Lcom/example/ratatoskr/ratatoskr/gmtp/Status;"⟩ : MethodName)) (wd_21 hw) (wd_22 hw) (exp_met l Z a0 hw _ _ O12 (EnOK.ext O12.2) (EnQUIT.ext O12.2) (EnSERVER_NOT_FOUND.ext O12.2) (EnNOT_CONNECT.ext O12.2) (EnACCESS_DENIED.ext O12.2) (EnILLEGAL_REQUEST.ext O12.2) (EnUNKNOWN_METHOD.ext O12.2) (EnILLEGAL_PARAMETER.ext O12.2) (EnTIME_OUT.ext O12.2) (EnILLEGAL_EXPRESSION.ext O12.2) (EnINTERNAL_ERROR.ext O12.2) cc) (wd_24 hw) (wd_23 hw) (by decide) (by decide) (W := 1) (by simp [sel_cat]) (by decide) (by decide) (by decide) rfl (argsL := [(.int cc)]) (rest := [(sel cc a_OK a_QUIT a_SERVER_NOT_FOUND a_NOT_CONNECT a_ACCESS_DENIED a_ILLEGAL_REQUEST a_UNKNOWN_METHOD a_ILLEGAL_PARAMETER a_TIME_OUT a_ILLEGAL_EXPRESSION a_INTERNAL_ERROR)]) pd_0 rfl rfl rfl at_122 rfl ?_
      rintro _ _ ⟨rfl, rfl⟩
      refine go_st (st' := [(sel cc a_OK a_QUIT a_SERVER_NOT_FOUND a_NOT_CONNECT a_ACCESS_DENIED a_ILLEGAL_REQUEST a_UNKNOWN_METHOD a_ILLEGAL_PARAMETER a_TIME_OUT a_ILLEGAL_EXPRESSION a_INTERNAL_ERROR), (sel cc a_OK a_QUIT a_SERVER_NOT_FOUND a_NOT_CONNECT a_ACCESS_DENIED a_ILLEGAL_REQUEST a_UNKNOWN_METHOD a_ILLEGAL_PARAMETER a_TIME_OUT a_ILLEGAL_EXPRESSION a_INTERNAL_ERROR)]) rfl ?_
      refine go_acmpNo C (pc' := 128) at_125 (sel_ref _ a_OK a_QUIT a_SERVER_NOT_FOUND a_NOT_CONNECT a_ACCESS_DENIED a_ILLEGAL_REQUEST a_UNKNOWN_METHOD a_ILLEGAL_PARAMETER a_TIME_OUT a_ILLEGAL_EXPRESSION a_INTERNAL_ERROR) (sel_ref _ a_OK a_QUIT a_SERVER_NOT_FOUND a_NOT_CONNECT a_ACCESS_DENIED a_ILLEGAL_REQUEST a_UNKNOWN_METHOD a_ILLEGAL_PARAMETER a_TIME_OUT a_ILLEGAL_EXPRESSION a_INTERNAL_ERROR) (acmp_neF rfl) rfl ?_
      refine go_iconst C (pc' := 129) at_128 (z := (1 : Int32)) (by decide) rfl ?_
      refine go_goto C (pc' := 133) at_129 (by decide) (by decide) ?_
      exact go_retN C (by simp) (z' := (1 : Int32)) (by decide) at_133 (by decide) (by decide) rfl
    · skip
      refine go_aloadN C (pc' := 98) at_97 rfl rfl rfl ?_
      refine go_iload C (pc' := 100) at_98 rfl rfl ?_
      refine go_iaget C (pc' := 101) A12 (by decide) (i := 2) (by decide) rfl at_100 rfl ?_
      refine go_iloadN C (pc' := 102) at_101 rfl rfl ?_
      refine go_bipush C (pc' := 104) at_102 (z := (15 : Int32)) (by decide) rfl ?_
      refine go_iand C (pc' := 105) at_104 rfl ?_
      refine go_bipush C (pc' := 107) at_105 (z := (8 : Int32)) (by decide) rfl ?_
      refine go_isub C (pc' := 108) at_107 rfl ?_
      refine go_iadd C (pc' := 109) at_108 rfl ?_
      refine go_istore C (pc' := 111) at_109 (Ls' := #[(.val (.int x0)), (.val (.int x1)), (.val (.int x2)), (.val (.ref b1)), (.val (.int (2 : Int32))), (.val (.int ((300 : Int32) + ((x1 &&& (15 : Int32)) - (8 : Int32))))), .unset]) rfl rfl ?_
      refine go_iload C (pc' := 113) at_111 rfl rfl ?_
      generalize hcc : ((300 : Int32) + ((x1 &&& (15 : Int32)) - (8 : Int32))) = cc
      refine go_callS C (pc' := 116) (y' := (⟨"com/example/ratatoskr/ratatoskr/gmtp/Status", "of", "(I)Lcom/example/ratatoskr/ratatoskr/gmtp/Status;"⟩ : MethodName)) (wd_2 hw) (wd_3 hw) (of_met l Z a0 hw _ _ O12 (EnOK.ext O12.2) (EnQUIT.ext O12.2) (EnSERVER_NOT_FOUND.ext O12.2) (EnNOT_CONNECT.ext O12.2) (EnACCESS_DENIED.ext O12.2) (EnILLEGAL_REQUEST.ext O12.2) (EnUNKNOWN_METHOD.ext O12.2) (EnILLEGAL_PARAMETER.ext O12.2) (EnTIME_OUT.ext O12.2) (EnILLEGAL_EXPRESSION.ext O12.2) (EnINTERNAL_ERROR.ext O12.2) (S_ALL.ext O12.2) (A_ALL.ext O12.2) cc) (wd_5 hw) (wd_4 hw) (by decide) (by decide) (W := 0) (Nat.le_of_ble_eq_true rfl) (by decide) (by decide) (by decide) rfl (argsL := [(.int cc)]) (rest := []) pd_0 rfl rfl rfl at_113 rfl ?_
      rintro _ _ ⟨rfl, rfl⟩
      refine go_st (st' := [(sel cc a_OK a_QUIT a_SERVER_NOT_FOUND a_NOT_CONNECT a_ACCESS_DENIED a_ILLEGAL_REQUEST a_UNKNOWN_METHOD a_ILLEGAL_PARAMETER a_TIME_OUT a_ILLEGAL_EXPRESSION a_INTERNAL_ERROR)]) rfl ?_
      refine go_astore C (pc' := 118) at_116 (sel_ref _ a_OK a_QUIT a_SERVER_NOT_FOUND a_NOT_CONNECT a_ACCESS_DENIED a_ILLEGAL_REQUEST a_UNKNOWN_METHOD a_ILLEGAL_PARAMETER a_TIME_OUT a_ILLEGAL_EXPRESSION a_INTERNAL_ERROR) (Ls' := #[(.val (.int x0)), (.val (.int x1)), (.val (.int x2)), (.val (.ref b1)), (.val (.int (2 : Int32))), (.val (.int cc)), (.val (sel cc a_OK a_QUIT a_SERVER_NOT_FOUND a_NOT_CONNECT a_ACCESS_DENIED a_ILLEGAL_REQUEST a_UNKNOWN_METHOD a_ILLEGAL_PARAMETER a_TIME_OUT a_ILLEGAL_EXPRESSION a_INTERNAL_ERROR))]) (XS.store1 rfl (Or.inl rfl) (sel_cat _ a_OK a_QUIT a_SERVER_NOT_FOUND a_NOT_CONNECT a_ACCESS_DENIED a_ILLEGAL_REQUEST a_UNKNOWN_METHOD a_ILLEGAL_PARAMETER a_TIME_OUT a_ILLEGAL_EXPRESSION a_INTERNAL_ERROR)) rfl ?_
      refine go_aload C (pc' := 120) at_118 rfl (sel_ref _ a_OK a_QUIT a_SERVER_NOT_FOUND a_NOT_CONNECT a_ACCESS_DENIED a_ILLEGAL_REQUEST a_UNKNOWN_METHOD a_ILLEGAL_PARAMETER a_TIME_OUT a_ILLEGAL_EXPRESSION a_INTERNAL_ERROR) rfl ?_
      refine go_iload C (pc' := 122) at_120 rfl rfl ?_
      refine go_callS C (pc' := 125) (y' := (⟨"com/example/ratatoskr/ratatoskr/gmtp/StatusOfPinLaw", "expected", "(I)Lcom/example/ratatoskr/ratatoskr/gmtp/Status;"⟩ : MethodName)) (wd_21 hw) (wd_22 hw) (exp_met l Z a0 hw _ _ O12 (EnOK.ext O12.2) (EnQUIT.ext O12.2) (EnSERVER_NOT_FOUND.ext O12.2) (EnNOT_CONNECT.ext O12.2) (EnACCESS_DENIED.ext O12.2) (EnILLEGAL_REQUEST.ext O12.2) (EnUNKNOWN_METHOD.ext O12.2) (EnILLEGAL_PARAMETER.ext O12.2) (EnTIME_OUT.ext O12.2) (EnILLEGAL_EXPRESSION.ext O12.2) (EnINTERNAL_ERROR.ext O12.2) cc) (wd_24 hw) (wd_23 hw) (by decide) (by decide) (W := 1) (by simp [sel_cat]) (by decide) (by decide) (by decide) rfl (argsL := [(.int cc)]) (rest := [(sel cc a_OK a_QUIT a_SERVER_NOT_FOUND a_NOT_CONNECT a_ACCESS_DENIED a_ILLEGAL_REQUEST a_UNKNOWN_METHOD a_ILLEGAL_PARAMETER a_TIME_OUT a_ILLEGAL_EXPRESSION a_INTERNAL_ERROR)]) pd_0 rfl rfl rfl at_122 rfl ?_
      rintro _ _ ⟨rfl, rfl⟩
      refine go_st (st' := [(sel cc a_OK a_QUIT a_SERVER_NOT_FOUND a_NOT_CONNECT a_ACCESS_DENIED a_ILLEGAL_REQUEST a_UNKNOWN_METHOD a_ILLEGAL_PARAMETER a_TIME_OUT a_ILLEGAL_EXPRESSION a_INTERNAL_ERROR), (sel cc a_OK a_QUIT a_SERVER_NOT_FOUND a_NOT_CONNECT a_ACCESS_DENIED a_ILLEGAL_REQUEST a_UNKNOWN_METHOD a_ILLEGAL_PARAMETER a_TIME_OUT a_ILLEGAL_EXPRESSION a_INTERNAL_ERROR)]) rfl ?_
      refine go_acmpNo C (pc' := 128) at_125 (sel_ref _ a_OK a_QUIT a_SERVER_NOT_FOUND a_NOT_CONNECT a_ACCESS_DENIED a_ILLEGAL_REQUEST a_UNKNOWN_METHOD a_ILLEGAL_PARAMETER a_TIME_OUT a_ILLEGAL_EXPRESSION a_INTERNAL_ERROR) (sel_ref _ a_OK a_QUIT a_SERVER_NOT_FOUND a_NOT_CONNECT a_ACCESS_DENIED a_ILLEGAL_REQUEST a_UNKNOWN_METHOD a_ILLEGAL_PARAMETER a_TIME_OUT a_ILLEGAL_EXPRESSION a_INTERNAL_ERROR) (acmp_neF rfl) rfl ?_
      refine go_iconst C (pc' := 129) at_128 (z := (1 : Int32)) (by decide) rfl ?_
      refine go_goto C (pc' := 133) at_129 (by decide) (by decide) ?_
      exact go_retN C (by simp) (z' := (1 : Int32)) (by decide) at_133 (by decide) (by decide) rfl
    · skip
      refine go_aloadN C (pc' := 98) at_97 rfl rfl rfl ?_
      refine go_iload C (pc' := 100) at_98 rfl rfl ?_
      refine go_iaget C (pc' := 101) A12 (by decide) (i := 3) (by decide) rfl at_100 rfl ?_
      refine go_iloadN C (pc' := 102) at_101 rfl rfl ?_
      refine go_bipush C (pc' := 104) at_102 (z := (15 : Int32)) (by decide) rfl ?_
      refine go_iand C (pc' := 105) at_104 rfl ?_
      refine go_bipush C (pc' := 107) at_105 (z := (8 : Int32)) (by decide) rfl ?_
      refine go_isub C (pc' := 108) at_107 rfl ?_
      refine go_iadd C (pc' := 109) at_108 rfl ?_
      refine go_istore C (pc' := 111) at_109 (Ls' := #[(.val (.int x0)), (.val (.int x1)), (.val (.int x2)), (.val (.ref b1)), (.val (.int (3 : Int32))), (.val (.int ((310 : Int32) + ((x1 &&& (15 : Int32)) - (8 : Int32))))), .unset]) rfl rfl ?_
      refine go_iload C (pc' := 113) at_111 rfl rfl ?_
      generalize hcc : ((310 : Int32) + ((x1 &&& (15 : Int32)) - (8 : Int32))) = cc
      refine go_callS C (pc' := 116) (y' := (⟨"com/example/ratatoskr/ratatoskr/gmtp/Status", "of", "(I)Lcom/example/ratatoskr/ratatoskr/gmtp/Status;"⟩ : MethodName)) (wd_2 hw) (wd_3 hw) (of_met l Z a0 hw _ _ O12 (EnOK.ext O12.2) (EnQUIT.ext O12.2) (EnSERVER_NOT_FOUND.ext O12.2) (EnNOT_CONNECT.ext O12.2) (EnACCESS_DENIED.ext O12.2) (EnILLEGAL_REQUEST.ext O12.2) (EnUNKNOWN_METHOD.ext O12.2) (EnILLEGAL_PARAMETER.ext O12.2) (EnTIME_OUT.ext O12.2) (EnILLEGAL_EXPRESSION.ext O12.2) (EnINTERNAL_ERROR.ext O12.2) (S_ALL.ext O12.2) (A_ALL.ext O12.2) cc) (wd_5 hw) (wd_4 hw) (by decide) (by decide) (W := 0) (Nat.le_of_ble_eq_true rfl) (by decide) (by decide) (by decide) rfl (argsL := [(.int cc)]) (rest := []) pd_0 rfl rfl rfl at_113 rfl ?_
      rintro _ _ ⟨rfl, rfl⟩
      refine go_st (st' := [(sel cc a_OK a_QUIT a_SERVER_NOT_FOUND a_NOT_CONNECT a_ACCESS_DENIED a_ILLEGAL_REQUEST a_UNKNOWN_METHOD a_ILLEGAL_PARAMETER a_TIME_OUT a_ILLEGAL_EXPRESSION a_INTERNAL_ERROR)]) rfl ?_
      refine go_astore C (pc' := 118) at_116 (sel_ref _ a_OK a_QUIT a_SERVER_NOT_FOUND a_NOT_CONNECT a_ACCESS_DENIED a_ILLEGAL_REQUEST a_UNKNOWN_METHOD a_ILLEGAL_PARAMETER a_TIME_OUT a_ILLEGAL_EXPRESSION a_INTERNAL_ERROR) (Ls' := #[(.val (.int x0)), (.val (.int x1)), (.val (.int x2)), (.val (.ref b1)), (.val (.int (3 : Int32))), (.val (.int cc)), (.val (sel cc a_OK a_QUIT a_SERVER_NOT_FOUND a_NOT_CONNECT a_ACCESS_DENIED a_ILLEGAL_REQUEST a_UNKNOWN_METHOD a_ILLEGAL_PARAMETER a_TIME_OUT a_ILLEGAL_EXPRESSION a_INTERNAL_ERROR))]) (XS.store1 rfl (Or.inl rfl) (sel_cat _ a_OK a_QUIT a_SERVER_NOT_FOUND a_NOT_CONNECT a_ACCESS_DENIED a_ILLEGAL_REQUEST a_UNKNOWN_METHOD a_ILLEGAL_PARAMETER a_TIME_OUT a_ILLEGAL_EXPRESSION a_INTERNAL_ERROR)) rfl ?_
      refine go_aload C (pc' := 120) at_118 rfl (sel_ref _ a_OK a_QUIT a_SERVER_NOT_FOUND a_NOT_CONNECT a_ACCESS_DENIED a_ILLEGAL_REQUEST a_UNKNOWN_METHOD a_ILLEGAL_PARAMETER a_TIME_OUT a_ILLEGAL_EXPRESSION a_INTERNAL_ERROR) rfl ?_
      refine go_iload C (pc' := 122) at_120 rfl rfl ?_
      refine go_callS C (pc' := 125) (y' := (⟨"com/example/ratatoskr/ratatoskr/gmtp/StatusOfPinLaw", "expected", "(I)Lcom/example/ratatoskr/ratatoskr/gmtp/Status;"⟩ : MethodName)) (wd_21 hw) (wd_22 hw) (exp_met l Z a0 hw _ _ O12 (EnOK.ext O12.2) (EnQUIT.ext O12.2) (EnSERVER_NOT_FOUND.ext O12.2) (EnNOT_CONNECT.ext O12.2) (EnACCESS_DENIED.ext O12.2) (EnILLEGAL_REQUEST.ext O12.2) (EnUNKNOWN_METHOD.ext O12.2) (EnILLEGAL_PARAMETER.ext O12.2) (EnTIME_OUT.ext O12.2) (EnILLEGAL_EXPRESSION.ext O12.2) (EnINTERNAL_ERROR.ext O12.2) cc) (wd_24 hw) (wd_23 hw) (by decide) (by decide) (W := 1) (by simp [sel_cat]) (by decide) (by decide) (by decide) rfl (argsL := [(.int cc)]) (rest := [(sel cc a_OK a_QUIT a_SERVER_NOT_FOUND a_NOT_CONNECT a_ACCESS_DENIED a_ILLEGAL_REQUEST a_UNKNOWN_METHOD a_ILLEGAL_PARAMETER a_TIME_OUT a_ILLEGAL_EXPRESSION a_INTERNAL_ERROR)]) pd_0 rfl rfl rfl at_122 rfl ?_
      rintro _ _ ⟨rfl, rfl⟩
      refine go_st (st' := [(sel cc a_OK a_QUIT a_SERVER_NOT_FOUND a_NOT_CONNECT a_ACCESS_DENIED a_ILLEGAL_REQUEST a_UNKNOWN_METHOD a_ILLEGAL_PARAMETER a_TIME_OUT a_ILLEGAL_EXPRESSION a_INTERNAL_ERROR), (sel cc a_OK a_QUIT a_SERVER_NOT_FOUND a_NOT_CONNECT a_ACCESS_DENIED a_ILLEGAL_REQUEST a_UNKNOWN_METHOD a_ILLEGAL_PARAMETER a_TIME_OUT a_ILLEGAL_EXPRESSION a_INTERNAL_ERROR)]) rfl ?_
      refine go_acmpNo C (pc' := 128) at_125 (sel_ref _ a_OK a_QUIT a_SERVER_NOT_FOUND a_NOT_CONNECT a_ACCESS_DENIED a_ILLEGAL_REQUEST a_UNKNOWN_METHOD a_ILLEGAL_PARAMETER a_TIME_OUT a_ILLEGAL_EXPRESSION a_INTERNAL_ERROR) (sel_ref _ a_OK a_QUIT a_SERVER_NOT_FOUND a_NOT_CONNECT a_ACCESS_DENIED a_ILLEGAL_REQUEST a_UNKNOWN_METHOD a_ILLEGAL_PARAMETER a_TIME_OUT a_ILLEGAL_EXPRESSION a_INTERNAL_ERROR) (acmp_neF rfl) rfl ?_
      refine go_iconst C (pc' := 129) at_128 (z := (1 : Int32)) (by decide) rfl ?_
      refine go_goto C (pc' := 133) at_129 (by decide) (by decide) ?_
      exact go_retN C (by simp) (z' := (1 : Int32)) (by decide) at_133 (by decide) (by decide) rfl
    · skip
      refine go_aloadN C (pc' := 98) at_97 rfl rfl rfl ?_
      refine go_iload C (pc' := 100) at_98 rfl rfl ?_
      refine go_iaget C (pc' := 101) A12 (by decide) (i := 4) (by decide) rfl at_100 rfl ?_
      refine go_iloadN C (pc' := 102) at_101 rfl rfl ?_
      refine go_bipush C (pc' := 104) at_102 (z := (15 : Int32)) (by decide) rfl ?_
      refine go_iand C (pc' := 105) at_104 rfl ?_
      refine go_bipush C (pc' := 107) at_105 (z := (8 : Int32)) (by decide) rfl ?_
      refine go_isub C (pc' := 108) at_107 rfl ?_
      refine go_iadd C (pc' := 109) at_108 rfl ?_
      refine go_istore C (pc' := 111) at_109 (Ls' := #[(.val (.int x0)), (.val (.int x1)), (.val (.int x2)), (.val (.ref b1)), (.val (.int (4 : Int32))), (.val (.int ((320 : Int32) + ((x1 &&& (15 : Int32)) - (8 : Int32))))), .unset]) rfl rfl ?_
      refine go_iload C (pc' := 113) at_111 rfl rfl ?_
      generalize hcc : ((320 : Int32) + ((x1 &&& (15 : Int32)) - (8 : Int32))) = cc
      refine go_callS C (pc' := 116) (y' := (⟨"com/example/ratatoskr/ratatoskr/gmtp/Status", "of", "(I)Lcom/example/ratatoskr/ratatoskr/gmtp/Status;"⟩ : MethodName)) (wd_2 hw) (wd_3 hw) (of_met l Z a0 hw _ _ O12 (EnOK.ext O12.2) (EnQUIT.ext O12.2) (EnSERVER_NOT_FOUND.ext O12.2) (EnNOT_CONNECT.ext O12.2) (EnACCESS_DENIED.ext O12.2) (EnILLEGAL_REQUEST.ext O12.2) (EnUNKNOWN_METHOD.ext O12.2) (EnILLEGAL_PARAMETER.ext O12.2) (EnTIME_OUT.ext O12.2) (EnILLEGAL_EXPRESSION.ext O12.2) (EnINTERNAL_ERROR.ext O12.2) (S_ALL.ext O12.2) (A_ALL.ext O12.2) cc) (wd_5 hw) (wd_4 hw) (by decide) (by decide) (W := 0) (Nat.le_of_ble_eq_true rfl) (by decide) (by decide) (by decide) rfl (argsL := [(.int cc)]) (rest := []) pd_0 rfl rfl rfl at_113 rfl ?_
      rintro _ _ ⟨rfl, rfl⟩
      refine go_st (st' := [(sel cc a_OK a_QUIT a_SERVER_NOT_FOUND a_NOT_CONNECT a_ACCESS_DENIED a_ILLEGAL_REQUEST a_UNKNOWN_METHOD a_ILLEGAL_PARAMETER a_TIME_OUT a_ILLEGAL_EXPRESSION a_INTERNAL_ERROR)]) rfl ?_
      refine go_astore C (pc' := 118) at_116 (sel_ref _ a_OK a_QUIT a_SERVER_NOT_FOUND a_NOT_CONNECT a_ACCESS_DENIED a_ILLEGAL_REQUEST a_UNKNOWN_METHOD a_ILLEGAL_PARAMETER a_TIME_OUT a_ILLEGAL_EXPRESSION a_INTERNAL_ERROR) (Ls' := #[(.val (.int x0)), (.val (.int x1)), (.val (.int x2)), (.val (.ref b1)), (.val (.int (4 : Int32))), (.val (.int cc)), (.val (sel cc a_OK a_QUIT a_SERVER_NOT_FOUND a_NOT_CONNECT a_ACCESS_DENIED a_ILLEGAL_REQUEST a_UNKNOWN_METHOD a_ILLEGAL_PARAMETER a_TIME_OUT a_ILLEGAL_EXPRESSION a_INTERNAL_ERROR))]) (XS.store1 rfl (Or.inl rfl) (sel_cat _ a_OK a_QUIT a_SERVER_NOT_FOUND a_NOT_CONNECT a_ACCESS_DENIED a_ILLEGAL_REQUEST a_UNKNOWN_METHOD a_ILLEGAL_PARAMETER a_TIME_OUT a_ILLEGAL_EXPRESSION a_INTERNAL_ERROR)) rfl ?_
      refine go_aload C (pc' := 120) at_118 rfl (sel_ref _ a_OK a_QUIT a_SERVER_NOT_FOUND a_NOT_CONNECT a_ACCESS_DENIED a_ILLEGAL_REQUEST a_UNKNOWN_METHOD a_ILLEGAL_PARAMETER a_TIME_OUT a_ILLEGAL_EXPRESSION a_INTERNAL_ERROR) rfl ?_
      refine go_iload C (pc' := 122) at_120 rfl rfl ?_
      refine go_callS C (pc' := 125) (y' := (⟨"com/example/ratatoskr/ratatoskr/gmtp/StatusOfPinLaw", "expected", "(I)Lcom/example/ratatoskr/ratatoskr/gmtp/Status;"⟩ : MethodName)) (wd_21 hw) (wd_22 hw) (exp_met l Z a0 hw _ _ O12 (EnOK.ext O12.2) (EnQUIT.ext O12.2) (EnSERVER_NOT_FOUND.ext O12.2) (EnNOT_CONNECT.ext O12.2) (EnACCESS_DENIED.ext O12.2) (EnILLEGAL_REQUEST.ext O12.2) (EnUNKNOWN_METHOD.ext O12.2) (EnILLEGAL_PARAMETER.ext O12.2) (EnTIME_OUT.ext O12.2) (EnILLEGAL_EXPRESSION.ext O12.2) (EnINTERNAL_ERROR.ext O12.2) cc) (wd_24 hw) (wd_23 hw) (by decide) (by decide) (W := 1) (by simp [sel_cat]) (by decide) (by decide) (by decide) rfl (argsL := [(.int cc)]) (rest := [(sel cc a_OK a_QUIT a_SERVER_NOT_FOUND a_NOT_CONNECT a_ACCESS_DENIED a_ILLEGAL_REQUEST a_UNKNOWN_METHOD a_ILLEGAL_PARAMETER a_TIME_OUT a_ILLEGAL_EXPRESSION a_INTERNAL_ERROR)]) pd_0 rfl rfl rfl at_122 rfl ?_
      rintro _ _ ⟨rfl, rfl⟩
      refine go_st (st' := [(sel cc a_OK a_QUIT a_SERVER_NOT_FOUND a_NOT_CONNECT a_ACCESS_DENIED a_ILLEGAL_REQUEST a_UNKNOWN_METHOD a_ILLEGAL_PARAMETER a_TIME_OUT a_ILLEGAL_EXPRESSION a_INTERNAL_ERROR), (sel cc a_OK a_QUIT a_SERVER_NOT_FOUND a_NOT_CONNECT a_ACCESS_DENIED a_ILLEGAL_REQUEST a_UNKNOWN_METHOD a_ILLEGAL_PARAMETER a_TIME_OUT a_ILLEGAL_EXPRESSION a_INTERNAL_ERROR)]) rfl ?_
      refine go_acmpNo C (pc' := 128) at_125 (sel_ref _ a_OK a_QUIT a_SERVER_NOT_FOUND a_NOT_CONNECT a_ACCESS_DENIED a_ILLEGAL_REQUEST a_UNKNOWN_METHOD a_ILLEGAL_PARAMETER a_TIME_OUT a_ILLEGAL_EXPRESSION a_INTERNAL_ERROR) (sel_ref _ a_OK a_QUIT a_SERVER_NOT_FOUND a_NOT_CONNECT a_ACCESS_DENIED a_ILLEGAL_REQUEST a_UNKNOWN_METHOD a_ILLEGAL_PARAMETER a_TIME_OUT a_ILLEGAL_EXPRESSION a_INTERNAL_ERROR) (acmp_neF rfl) rfl ?_
      refine go_iconst C (pc' := 129) at_128 (z := (1 : Int32)) (by decide) rfl ?_
      refine go_goto C (pc' := 133) at_129 (by decide) (by decide) ?_
      exact go_retN C (by simp) (z' := (1 : Int32)) (by decide) at_133 (by decide) (by decide) rfl
    · skip
      refine go_aloadN C (pc' := 98) at_97 rfl rfl rfl ?_
      refine go_iload C (pc' := 100) at_98 rfl rfl ?_
      refine go_iaget C (pc' := 101) A12 (by decide) (i := 5) (by decide) rfl at_100 rfl ?_
      refine go_iloadN C (pc' := 102) at_101 rfl rfl ?_
      refine go_bipush C (pc' := 104) at_102 (z := (15 : Int32)) (by decide) rfl ?_
      refine go_iand C (pc' := 105) at_104 rfl ?_
      refine go_bipush C (pc' := 107) at_105 (z := (8 : Int32)) (by decide) rfl ?_
      refine go_isub C (pc' := 108) at_107 rfl ?_
      refine go_iadd C (pc' := 109) at_108 rfl ?_
      refine go_istore C (pc' := 111) at_109 (Ls' := #[(.val (.int x0)), (.val (.int x1)), (.val (.int x2)), (.val (.ref b1)), (.val (.int (5 : Int32))), (.val (.int ((400 : Int32) + ((x1 &&& (15 : Int32)) - (8 : Int32))))), .unset]) rfl rfl ?_
      refine go_iload C (pc' := 113) at_111 rfl rfl ?_
      generalize hcc : ((400 : Int32) + ((x1 &&& (15 : Int32)) - (8 : Int32))) = cc
      refine go_callS C (pc' := 116) (y' := (⟨"com/example/ratatoskr/ratatoskr/gmtp/Status", "of", "(I)Lcom/example/ratatoskr/ratatoskr/gmtp/Status;"⟩ : MethodName)) (wd_2 hw) (wd_3 hw) (of_met l Z a0 hw _ _ O12 (EnOK.ext O12.2) (EnQUIT.ext O12.2) (EnSERVER_NOT_FOUND.ext O12.2) (EnNOT_CONNECT.ext O12.2) (EnACCESS_DENIED.ext O12.2) (EnILLEGAL_REQUEST.ext O12.2) (EnUNKNOWN_METHOD.ext O12.2) (EnILLEGAL_PARAMETER.ext O12.2) (EnTIME_OUT.ext O12.2) (EnILLEGAL_EXPRESSION.ext O12.2) (EnINTERNAL_ERROR.ext O12.2) (S_ALL.ext O12.2) (A_ALL.ext O12.2) cc) (wd_5 hw) (wd_4 hw) (by decide) (by decide) (W := 0) (Nat.le_of_ble_eq_true rfl) (by decide) (by decide) (by decide) rfl (argsL := [(.int cc)]) (rest := []) pd_0 rfl rfl rfl at_113 rfl ?_
      rintro _ _ ⟨rfl, rfl⟩
      refine go_st (st' := [(sel cc a_OK a_QUIT a_SERVER_NOT_FOUND a_NOT_CONNECT a_ACCESS_DENIED a_ILLEGAL_REQUEST a_UNKNOWN_METHOD a_ILLEGAL_PARAMETER a_TIME_OUT a_ILLEGAL_EXPRESSION a_INTERNAL_ERROR)]) rfl ?_
      refine go_astore C (pc' := 118) at_116 (sel_ref _ a_OK a_QUIT a_SERVER_NOT_FOUND a_NOT_CONNECT a_ACCESS_DENIED a_ILLEGAL_REQUEST a_UNKNOWN_METHOD a_ILLEGAL_PARAMETER a_TIME_OUT a_ILLEGAL_EXPRESSION a_INTERNAL_ERROR) (Ls' := #[(.val (.int x0)), (.val (.int x1)), (.val (.int x2)), (.val (.ref b1)), (.val (.int (5 : Int32))), (.val (.int cc)), (.val (sel cc a_OK a_QUIT a_SERVER_NOT_FOUND a_NOT_CONNECT a_ACCESS_DENIED a_ILLEGAL_REQUEST a_UNKNOWN_METHOD a_ILLEGAL_PARAMETER a_TIME_OUT a_ILLEGAL_EXPRESSION a_INTERNAL_ERROR))]) (XS.store1 rfl (Or.inl rfl) (sel_cat _ a_OK a_QUIT a_SERVER_NOT_FOUND a_NOT_CONNECT a_ACCESS_DENIED a_ILLEGAL_REQUEST a_UNKNOWN_METHOD a_ILLEGAL_PARAMETER a_TIME_OUT a_ILLEGAL_EXPRESSION a_INTERNAL_ERROR)) rfl ?_
      refine go_aload C (pc' := 120) at_118 rfl (sel_ref _ a_OK a_QUIT a_SERVER_NOT_FOUND a_NOT_CONNECT a_ACCESS_DENIED a_ILLEGAL_REQUEST a_UNKNOWN_METHOD a_ILLEGAL_PARAMETER a_TIME_OUT a_ILLEGAL_EXPRESSION a_INTERNAL_ERROR) rfl ?_
      refine go_iload C (pc' := 122) at_120 rfl rfl ?_
      refine go_callS C (pc' := 125) (y' := (⟨"com/example/ratatoskr/ratatoskr/gmtp/StatusOfPinLaw", "expected", "(I)Lcom/example/ratatoskr/ratatoskr/gmtp/Status;"⟩ : MethodName)) (wd_21 hw) (wd_22 hw) (exp_met l Z a0 hw _ _ O12 (EnOK.ext O12.2) (EnQUIT.ext O12.2) (EnSERVER_NOT_FOUND.ext O12.2) (EnNOT_CONNECT.ext O12.2) (EnACCESS_DENIED.ext O12.2) (EnILLEGAL_REQUEST.ext O12.2) (EnUNKNOWN_METHOD.ext O12.2) (EnILLEGAL_PARAMETER.ext O12.2) (EnTIME_OUT.ext O12.2) (EnILLEGAL_EXPRESSION.ext O12.2) (EnINTERNAL_ERROR.ext O12.2) cc) (wd_24 hw) (wd_23 hw) (by decide) (by decide) (W := 1) (by simp [sel_cat]) (by decide) (by decide) (by decide) rfl (argsL := [(.int cc)]) (rest := [(sel cc a_OK a_QUIT a_SERVER_NOT_FOUND a_NOT_CONNECT a_ACCESS_DENIED a_ILLEGAL_REQUEST a_UNKNOWN_METHOD a_ILLEGAL_PARAMETER a_TIME_OUT a_ILLEGAL_EXPRESSION a_INTERNAL_ERROR)]) pd_0 rfl rfl rfl at_122 rfl ?_
      rintro _ _ ⟨rfl, rfl⟩
      refine go_st (st' := [(sel cc a_OK a_QUIT a_SERVER_NOT_FOUND a_NOT_CONNECT a_ACCESS_DENIED a_ILLEGAL_REQUEST a_UNKNOWN_METHOD a_ILLEGAL_PARAMETER a_TIME_OUT a_ILLEGAL_EXPRESSION a_INTERNAL_ERROR), (sel cc a_OK a_QUIT a_SERVER_NOT_FOUND a_NOT_CONNECT a_ACCESS_DENIED a_ILLEGAL_REQUEST a_UNKNOWN_METHOD a_ILLEGAL_PARAMETER a_TIME_OUT a_ILLEGAL_EXPRESSION a_INTERNAL_ERROR)]) rfl ?_
      refine go_acmpNo C (pc' := 128) at_125 (sel_ref _ a_OK a_QUIT a_SERVER_NOT_FOUND a_NOT_CONNECT a_ACCESS_DENIED a_ILLEGAL_REQUEST a_UNKNOWN_METHOD a_ILLEGAL_PARAMETER a_TIME_OUT a_ILLEGAL_EXPRESSION a_INTERNAL_ERROR) (sel_ref _ a_OK a_QUIT a_SERVER_NOT_FOUND a_NOT_CONNECT a_ACCESS_DENIED a_ILLEGAL_REQUEST a_UNKNOWN_METHOD a_ILLEGAL_PARAMETER a_TIME_OUT a_ILLEGAL_EXPRESSION a_INTERNAL_ERROR) (acmp_neF rfl) rfl ?_
      refine go_iconst C (pc' := 129) at_128 (z := (1 : Int32)) (by decide) rfl ?_
      refine go_goto C (pc' := 133) at_129 (by decide) (by decide) ?_
      exact go_retN C (by simp) (z' := (1 : Int32)) (by decide) at_133 (by decide) (by decide) rfl
    · skip
      refine go_aloadN C (pc' := 98) at_97 rfl rfl rfl ?_
      refine go_iload C (pc' := 100) at_98 rfl rfl ?_
      refine go_iaget C (pc' := 101) A12 (by decide) (i := 6) (by decide) rfl at_100 rfl ?_
      refine go_iloadN C (pc' := 102) at_101 rfl rfl ?_
      refine go_bipush C (pc' := 104) at_102 (z := (15 : Int32)) (by decide) rfl ?_
      refine go_iand C (pc' := 105) at_104 rfl ?_
      refine go_bipush C (pc' := 107) at_105 (z := (8 : Int32)) (by decide) rfl ?_
      refine go_isub C (pc' := 108) at_107 rfl ?_
      refine go_iadd C (pc' := 109) at_108 rfl ?_
      refine go_istore C (pc' := 111) at_109 (Ls' := #[(.val (.int x0)), (.val (.int x1)), (.val (.int x2)), (.val (.ref b1)), (.val (.int (6 : Int32))), (.val (.int ((410 : Int32) + ((x1 &&& (15 : Int32)) - (8 : Int32))))), .unset]) rfl rfl ?_
      refine go_iload C (pc' := 113) at_111 rfl rfl ?_
      generalize hcc : ((410 : Int32) + ((x1 &&& (15 : Int32)) - (8 : Int32))) = cc
      refine go_callS C (pc' := 116) (y' := (⟨"com/example/ratatoskr/ratatoskr/gmtp/Status", "of", "(I)Lcom/example/ratatoskr/ratatoskr/gmtp/Status;"⟩ : MethodName)) (wd_2 hw) (wd_3 hw) (of_met l Z a0 hw _ _ O12 (EnOK.ext O12.2) (EnQUIT.ext O12.2) (EnSERVER_NOT_FOUND.ext O12.2) (EnNOT_CONNECT.ext O12.2) (EnACCESS_DENIED.ext O12.2) (EnILLEGAL_REQUEST.ext O12.2) (EnUNKNOWN_METHOD.ext O12.2) (EnILLEGAL_PARAMETER.ext O12.2) (EnTIME_OUT.ext O12.2) (EnILLEGAL_EXPRESSION.ext O12.2) (EnINTERNAL_ERROR.ext O12.2) (S_ALL.ext O12.2) (A_ALL.ext O12.2) cc) (wd_5 hw) (wd_4 hw) (by decide) (by decide) (W := 0) (Nat.le_of_ble_eq_true rfl) (by decide) (by decide) (by decide) rfl (argsL := [(.int cc)]) (rest := []) pd_0 rfl rfl rfl at_113 rfl ?_
      rintro _ _ ⟨rfl, rfl⟩
      refine go_st (st' := [(sel cc a_OK a_QUIT a_SERVER_NOT_FOUND a_NOT_CONNECT a_ACCESS_DENIED a_ILLEGAL_REQUEST a_UNKNOWN_METHOD a_ILLEGAL_PARAMETER a_TIME_OUT a_ILLEGAL_EXPRESSION a_INTERNAL_ERROR)]) rfl ?_
      refine go_astore C (pc' := 118) at_116 (sel_ref _ a_OK a_QUIT a_SERVER_NOT_FOUND a_NOT_CONNECT a_ACCESS_DENIED a_ILLEGAL_REQUEST a_UNKNOWN_METHOD a_ILLEGAL_PARAMETER a_TIME_OUT a_ILLEGAL_EXPRESSION a_INTERNAL_ERROR) (Ls' := #[(.val (.int x0)), (.val (.int x1)), (.val (.int x2)), (.val (.ref b1)), (.val (.int (6 : Int32))), (.val (.int cc)), (.val (sel cc a_OK a_QUIT a_SERVER_NOT_FOUND a_NOT_CONNECT a_ACCESS_DENIED a_ILLEGAL_REQUEST a_UNKNOWN_METHOD a_ILLEGAL_PARAMETER a_TIME_OUT a_ILLEGAL_EXPRESSION a_INTERNAL_ERROR))]) (XS.store1 rfl (Or.inl rfl) (sel_cat _ a_OK a_QUIT a_SERVER_NOT_FOUND a_NOT_CONNECT a_ACCESS_DENIED a_ILLEGAL_REQUEST a_UNKNOWN_METHOD a_ILLEGAL_PARAMETER a_TIME_OUT a_ILLEGAL_EXPRESSION a_INTERNAL_ERROR)) rfl ?_
      refine go_aload C (pc' := 120) at_118 rfl (sel_ref _ a_OK a_QUIT a_SERVER_NOT_FOUND a_NOT_CONNECT a_ACCESS_DENIED a_ILLEGAL_REQUEST a_UNKNOWN_METHOD a_ILLEGAL_PARAMETER a_TIME_OUT a_ILLEGAL_EXPRESSION a_INTERNAL_ERROR) rfl ?_
      refine go_iload C (pc' := 122) at_120 rfl rfl ?_
      refine go_callS C (pc' := 125) (y' := (⟨"com/example/ratatoskr/ratatoskr/gmtp/StatusOfPinLaw", "expected", "(I)Lcom/example/ratatoskr/ratatoskr/gmtp/Status;"⟩ : MethodName)) (wd_21 hw) (wd_22 hw) (exp_met l Z a0 hw _ _ O12 (EnOK.ext O12.2) (EnQUIT.ext O12.2) (EnSERVER_NOT_FOUND.ext O12.2) (EnNOT_CONNECT.ext O12.2) (EnACCESS_DENIED.ext O12.2) (EnILLEGAL_REQUEST.ext O12.2) (EnUNKNOWN_METHOD.ext O12.2) (EnILLEGAL_PARAMETER.ext O12.2) (EnTIME_OUT.ext O12.2) (EnILLEGAL_EXPRESSION.ext O12.2) (EnINTERNAL_ERROR.ext O12.2) cc) (wd_24 hw) (wd_23 hw) (by decide) (by decide) (W := 1) (by simp [sel_cat]) (by decide) (by decide) (by decide) rfl (argsL := [(.int cc)]) (rest := [(sel cc a_OK a_QUIT a_SERVER_NOT_FOUND a_NOT_CONNECT a_ACCESS_DENIED a_ILLEGAL_REQUEST a_UNKNOWN_METHOD a_ILLEGAL_PARAMETER a_TIME_OUT a_ILLEGAL_EXPRESSION a_INTERNAL_ERROR)]) pd_0 rfl rfl rfl at_122 rfl ?_
      rintro _ _ ⟨rfl, rfl⟩
      refine go_st (st' := [(sel cc a_OK a_QUIT a_SERVER_NOT_FOUND a_NOT_CONNECT a_ACCESS_DENIED a_ILLEGAL_REQUEST a_UNKNOWN_METHOD a_ILLEGAL_PARAMETER a_TIME_OUT a_ILLEGAL_EXPRESSION a_INTERNAL_ERROR), (sel cc a_OK a_QUIT a_SERVER_NOT_FOUND a_NOT_CONNECT a_ACCESS_DENIED a_ILLEGAL_REQUEST a_UNKNOWN_METHOD a_ILLEGAL_PARAMETER a_TIME_OUT a_ILLEGAL_EXPRESSION a_INTERNAL_ERROR)]) rfl ?_
      refine go_acmpNo C (pc' := 128) at_125 (sel_ref _ a_OK a_QUIT a_SERVER_NOT_FOUND a_NOT_CONNECT a_ACCESS_DENIED a_ILLEGAL_REQUEST a_UNKNOWN_METHOD a_ILLEGAL_PARAMETER a_TIME_OUT a_ILLEGAL_EXPRESSION a_INTERNAL_ERROR) (sel_ref _ a_OK a_QUIT a_SERVER_NOT_FOUND a_NOT_CONNECT a_ACCESS_DENIED a_ILLEGAL_REQUEST a_UNKNOWN_METHOD a_ILLEGAL_PARAMETER a_TIME_OUT a_ILLEGAL_EXPRESSION a_INTERNAL_ERROR) (acmp_neF rfl) rfl ?_
      refine go_iconst C (pc' := 129) at_128 (z := (1 : Int32)) (by decide) rfl ?_
      refine go_goto C (pc' := 133) at_129 (by decide) (by decide) ?_
      exact go_retN C (by simp) (z' := (1 : Int32)) (by decide) at_133 (by decide) (by decide) rfl
    · skip
      refine go_aloadN C (pc' := 98) at_97 rfl rfl rfl ?_
      refine go_iload C (pc' := 100) at_98 rfl rfl ?_
      refine go_iaget C (pc' := 101) A12 (by decide) (i := 7) (by decide) rfl at_100 rfl ?_
      refine go_iloadN C (pc' := 102) at_101 rfl rfl ?_
      refine go_bipush C (pc' := 104) at_102 (z := (15 : Int32)) (by decide) rfl ?_
      refine go_iand C (pc' := 105) at_104 rfl ?_
      refine go_bipush C (pc' := 107) at_105 (z := (8 : Int32)) (by decide) rfl ?_
      refine go_isub C (pc' := 108) at_107 rfl ?_
      refine go_iadd C (pc' := 109) at_108 rfl ?_
      refine go_istore C (pc' := 111) at_109 (Ls' := #[(.val (.int x0)), (.val (.int x1)), (.val (.int x2)), (.val (.ref b1)), (.val (.int (7 : Int32))), (.val (.int ((420 : Int32) + ((x1 &&& (15 : Int32)) - (8 : Int32))))), .unset]) rfl rfl ?_
      refine go_iload C (pc' := 113) at_111 rfl rfl ?_
      generalize hcc : ((420 : Int32) + ((x1 &&& (15 : Int32)) - (8 : Int32))) = cc
      refine go_callS C (pc' := 116) (y' := (⟨"com/example/ratatoskr/ratatoskr/gmtp/Status", "of", "(I)Lcom/example/ratatoskr/ratatoskr/gmtp/Status;"⟩ : MethodName)) (wd_2 hw) (wd_3 hw) (of_met l Z a0 hw _ _ O12 (EnOK.ext O12.2) (EnQUIT.ext O12.2) (EnSERVER_NOT_FOUND.ext O12.2) (EnNOT_CONNECT.ext O12.2) (EnACCESS_DENIED.ext O12.2) (EnILLEGAL_REQUEST.ext O12.2) (EnUNKNOWN_METHOD.ext O12.2) (EnILLEGAL_PARAMETER.ext O12.2) (EnTIME_OUT.ext O12.2) (EnILLEGAL_EXPRESSION.ext O12.2) (EnINTERNAL_ERROR.ext O12.2) (S_ALL.ext O12.2) (A_ALL.ext O12.2) cc) (wd_5 hw) (wd_4 hw) (by decide) (by decide) (W := 0) (Nat.le_of_ble_eq_true rfl) (by decide) (by decide) (by decide) rfl (argsL := [(.int cc)]) (rest := []) pd_0 rfl rfl rfl at_113 rfl ?_
      rintro _ _ ⟨rfl, rfl⟩
      refine go_st (st' := [(sel cc a_OK a_QUIT a_SERVER_NOT_FOUND a_NOT_CONNECT a_ACCESS_DENIED a_ILLEGAL_REQUEST a_UNKNOWN_METHOD a_ILLEGAL_PARAMETER a_TIME_OUT a_ILLEGAL_EXPRESSION a_INTERNAL_ERROR)]) rfl ?_
      refine go_astore C (pc' := 118) at_116 (sel_ref _ a_OK a_QUIT a_SERVER_NOT_FOUND a_NOT_CONNECT a_ACCESS_DENIED a_ILLEGAL_REQUEST a_UNKNOWN_METHOD a_ILLEGAL_PARAMETER a_TIME_OUT a_ILLEGAL_EXPRESSION a_INTERNAL_ERROR) (Ls' := #[(.val (.int x0)), (.val (.int x1)), (.val (.int x2)), (.val (.ref b1)), (.val (.int (7 : Int32))), (.val (.int cc)), (.val (sel cc a_OK a_QUIT a_SERVER_NOT_FOUND a_NOT_CONNECT a_ACCESS_DENIED a_ILLEGAL_REQUEST a_UNKNOWN_METHOD a_ILLEGAL_PARAMETER a_TIME_OUT a_ILLEGAL_EXPRESSION a_INTERNAL_ERROR))]) (XS.store1 rfl (Or.inl rfl) (sel_cat _ a_OK a_QUIT a_SERVER_NOT_FOUND a_NOT_CONNECT a_ACCESS_DENIED a_ILLEGAL_REQUEST a_UNKNOWN_METHOD a_ILLEGAL_PARAMETER a_TIME_OUT a_ILLEGAL_EXPRESSION a_INTERNAL_ERROR)) rfl ?_
      refine go_aload C (pc' := 120) at_118 rfl (sel_ref _ a_OK a_QUIT a_SERVER_NOT_FOUND a_NOT_CONNECT a_ACCESS_DENIED a_ILLEGAL_REQUEST a_UNKNOWN_METHOD a_ILLEGAL_PARAMETER a_TIME_OUT a_ILLEGAL_EXPRESSION a_INTERNAL_ERROR) rfl ?_
      refine go_iload C (pc' := 122) at_120 rfl rfl ?_
      refine go_callS C (pc' := 125) (y' := (⟨"com/example/ratatoskr/ratatoskr/gmtp/StatusOfPinLaw", "expected", "(I)Lcom/example/ratatoskr/ratatoskr/gmtp/Status;"⟩ : MethodName)) (wd_21 hw) (wd_22 hw) (exp_met l Z a0 hw _ _ O12 (EnOK.ext O12.2) (EnQUIT.ext O12.2) (EnSERVER_NOT_FOUND.ext O12.2) (EnNOT_CONNECT.ext O12.2) (EnACCESS_DENIED.ext O12.2) (EnILLEGAL_REQUEST.ext O12.2) (EnUNKNOWN_METHOD.ext O12.2) (EnILLEGAL_PARAMETER.ext O12.2) (EnTIME_OUT.ext O12.2) (EnILLEGAL_EXPRESSION.ext O12.2) (EnINTERNAL_ERROR.ext O12.2) cc) (wd_24 hw) (wd_23 hw) (by decide) (by decide) (W := 1) (by simp [sel_cat]) (by decide) (by decide) (by decide) rfl (argsL := [(.int cc)]) (rest := [(sel cc a_OK a_QUIT a_SERVER_NOT_FOUND a_NOT_CONNECT a_ACCESS_DENIED a_ILLEGAL_REQUEST a_UNKNOWN_METHOD a_ILLEGAL_PARAMETER a_TIME_OUT a_ILLEGAL_EXPRESSION a_INTERNAL_ERROR)]) pd_0 rfl rfl rfl at_122 rfl ?_
      rintro _ _ ⟨rfl, rfl⟩
      refine go_st (st' := [(sel cc a_OK a_QUIT a_SERVER_NOT_FOUND a_NOT_CONNECT a_ACCESS_DENIED a_ILLEGAL_REQUEST a_UNKNOWN_METHOD a_ILLEGAL_PARAMETER a_TIME_OUT a_ILLEGAL_EXPRESSION a_INTERNAL_ERROR), (sel cc a_OK a_QUIT a_SERVER_NOT_FOUND a_NOT_CONNECT a_ACCESS_DENIED a_ILLEGAL_REQUEST a_UNKNOWN_METHOD a_ILLEGAL_PARAMETER a_TIME_OUT a_ILLEGAL_EXPRESSION a_INTERNAL_ERROR)]) rfl ?_
      refine go_acmpNo C (pc' := 128) at_125 (sel_ref _ a_OK a_QUIT a_SERVER_NOT_FOUND a_NOT_CONNECT a_ACCESS_DENIED a_ILLEGAL_REQUEST a_UNKNOWN_METHOD a_ILLEGAL_PARAMETER a_TIME_OUT a_ILLEGAL_EXPRESSION a_INTERNAL_ERROR) (sel_ref _ a_OK a_QUIT a_SERVER_NOT_FOUND a_NOT_CONNECT a_ACCESS_DENIED a_ILLEGAL_REQUEST a_UNKNOWN_METHOD a_ILLEGAL_PARAMETER a_TIME_OUT a_ILLEGAL_EXPRESSION a_INTERNAL_ERROR) (acmp_neF rfl) rfl ?_
      refine go_iconst C (pc' := 129) at_128 (z := (1 : Int32)) (by decide) rfl ?_
      refine go_goto C (pc' := 133) at_129 (by decide) (by decide) ?_
      exact go_retN C (by simp) (z' := (1 : Int32)) (by decide) at_133 (by decide) (by decide) rfl
    · skip
      refine go_aloadN C (pc' := 98) at_97 rfl rfl rfl ?_
      refine go_iload C (pc' := 100) at_98 rfl rfl ?_
      refine go_iaget C (pc' := 101) A12 (by decide) (i := 8) (by decide) rfl at_100 rfl ?_
      refine go_iloadN C (pc' := 102) at_101 rfl rfl ?_
      refine go_bipush C (pc' := 104) at_102 (z := (15 : Int32)) (by decide) rfl ?_
      refine go_iand C (pc' := 105) at_104 rfl ?_
      refine go_bipush C (pc' := 107) at_105 (z := (8 : Int32)) (by decide) rfl ?_
      refine go_isub C (pc' := 108) at_107 rfl ?_
      refine go_iadd C (pc' := 109) at_108 rfl ?_
      refine go_istore C (pc' := 111) at_109 (Ls' := #[(.val (.int x0)), (.val (.int x1)), (.val (.int x2)), (.val (.ref b1)), (.val (.int (8 : Int32))), (.val (.int ((430 : Int32) + ((x1 &&& (15 : Int32)) - (8 : Int32))))), .unset]) rfl rfl ?_
      refine go_iload C (pc' := 113) at_111 rfl rfl ?_
      generalize hcc : ((430 : Int32) + ((x1 &&& (15 : Int32)) - (8 : Int32))) = cc
      refine go_callS C (pc' := 116) (y' := (⟨"com/example/ratatoskr/ratatoskr/gmtp/Status", "of", "(I)Lcom/example/ratatoskr/ratatoskr/gmtp/Status;"⟩ : MethodName)) (wd_2 hw) (wd_3 hw) (of_met l Z a0 hw _ _ O12 (EnOK.ext O12.2) (EnQUIT.ext O12.2) (EnSERVER_NOT_FOUND.ext O12.2) (EnNOT_CONNECT.ext O12.2) (EnACCESS_DENIED.ext O12.2) (EnILLEGAL_REQUEST.ext O12.2) (EnUNKNOWN_METHOD.ext O12.2) (EnILLEGAL_PARAMETER.ext O12.2) (EnTIME_OUT.ext O12.2) (EnILLEGAL_EXPRESSION.ext O12.2) (EnINTERNAL_ERROR.ext O12.2) (S_ALL.ext O12.2) (A_ALL.ext O12.2) cc) (wd_5 hw) (wd_4 hw) (by decide) (by decide) (W := 0) (Nat.le_of_ble_eq_true rfl) (by decide) (by decide) (by decide) rfl (argsL := [(.int cc)]) (rest := []) pd_0 rfl rfl rfl at_113 rfl ?_
      rintro _ _ ⟨rfl, rfl⟩
      refine go_st (st' := [(sel cc a_OK a_QUIT a_SERVER_NOT_FOUND a_NOT_CONNECT a_ACCESS_DENIED a_ILLEGAL_REQUEST a_UNKNOWN_METHOD a_ILLEGAL_PARAMETER a_TIME_OUT a_ILLEGAL_EXPRESSION a_INTERNAL_ERROR)]) rfl ?_
      refine go_astore C (pc' := 118) at_116 (sel_ref _ a_OK a_QUIT a_SERVER_NOT_FOUND a_NOT_CONNECT a_ACCESS_DENIED a_ILLEGAL_REQUEST a_UNKNOWN_METHOD a_ILLEGAL_PARAMETER a_TIME_OUT a_ILLEGAL_EXPRESSION a_INTERNAL_ERROR) (Ls' := #[(.val (.int x0)), (.val (.int x1)), (.val (.int x2)), (.val (.ref b1)), (.val (.int (8 : Int32))), (.val (.int cc)), (.val (sel cc a_OK a_QUIT a_SERVER_NOT_FOUND a_NOT_CONNECT a_ACCESS_DENIED a_ILLEGAL_REQUEST a_UNKNOWN_METHOD a_ILLEGAL_PARAMETER a_TIME_OUT a_ILLEGAL_EXPRESSION a_INTERNAL_ERROR))]) (XS.store1 rfl (Or.inl rfl) (sel_cat _ a_OK a_QUIT a_SERVER_NOT_FOUND a_NOT_CONNECT a_ACCESS_DENIED a_ILLEGAL_REQUEST a_UNKNOWN_METHOD a_ILLEGAL_PARAMETER a_TIME_OUT a_ILLEGAL_EXPRESSION a_INTERNAL_ERROR)) rfl ?_
      refine go_aload C (pc' := 120) at_118 rfl (sel_ref _ a_OK a_QUIT a_SERVER_NOT_FOUND a_NOT_CONNECT a_ACCESS_DENIED a_ILLEGAL_REQUEST a_UNKNOWN_METHOD a_ILLEGAL_PARAMETER a_TIME_OUT a_ILLEGAL_EXPRESSION a_INTERNAL_ERROR) rfl ?_
      refine go_iload C (pc' := 122) at_120 rfl rfl ?_
      refine go_callS C (pc' := 125) (y' := (⟨"com/example/ratatoskr/ratatoskr/gmtp/StatusOfPinLaw", "expected", "(I)Lcom/example/ratatoskr/ratatoskr/gmtp/Status;"⟩ : MethodName)) (wd_21 hw) (wd_22 hw) (exp_met l Z a0 hw _ _ O12 (EnOK.ext O12.2) (EnQUIT.ext O12.2) (EnSERVER_NOT_FOUND.ext O12.2) (EnNOT_CONNECT.ext O12.2) (EnACCESS_DENIED.ext O12.2) (EnILLEGAL_REQUEST.ext O12.2) (EnUNKNOWN_METHOD.ext O12.2) (EnILLEGAL_PARAMETER.ext O12.2) (EnTIME_OUT.ext O12.2) (EnILLEGAL_EXPRESSION.ext O12.2) (EnINTERNAL_ERROR.ext O12.2) cc) (wd_24 hw) (wd_23 hw) (by decide) (by decide) (W := 1) (by simp [sel_cat]) (by decide) (by decide) (by decide) rfl (argsL := [(.int cc)]) (rest := [(sel cc a_OK a_QUIT a_SERVER_NOT_FOUND a_NOT_CONNECT a_ACCESS_DENIED a_ILLEGAL_REQUEST a_UNKNOWN_METHOD a_ILLEGAL_PARAMETER a_TIME_OUT a_ILLEGAL_EXPRESSION a_INTERNAL_ERROR)]) pd_0 rfl rfl rfl at_122 rfl ?_
      rintro _ _ ⟨rfl, rfl⟩
      refine go_st (st' := [(sel cc a_OK a_QUIT a_SERVER_NOT_FOUND a_NOT_CONNECT a_ACCESS_DENIED a_ILLEGAL_REQUEST a_UNKNOWN_METHOD a_ILLEGAL_PARAMETER a_TIME_OUT a_ILLEGAL_EXPRESSION a_INTERNAL_ERROR), (sel cc a_OK a_QUIT a_SERVER_NOT_FOUND a_NOT_CONNECT a_ACCESS_DENIED a_ILLEGAL_REQUEST a_UNKNOWN_METHOD a_ILLEGAL_PARAMETER a_TIME_OUT a_ILLEGAL_EXPRESSION a_INTERNAL_ERROR)]) rfl ?_
      refine go_acmpNo C (pc' := 128) at_125 (sel_ref _ a_OK a_QUIT a_SERVER_NOT_FOUND a_NOT_CONNECT a_ACCESS_DENIED a_ILLEGAL_REQUEST a_UNKNOWN_METHOD a_ILLEGAL_PARAMETER a_TIME_OUT a_ILLEGAL_EXPRESSION a_INTERNAL_ERROR) (sel_ref _ a_OK a_QUIT a_SERVER_NOT_FOUND a_NOT_CONNECT a_ACCESS_DENIED a_ILLEGAL_REQUEST a_UNKNOWN_METHOD a_ILLEGAL_PARAMETER a_TIME_OUT a_ILLEGAL_EXPRESSION a_INTERNAL_ERROR) (acmp_neF rfl) rfl ?_
      refine go_iconst C (pc' := 129) at_128 (z := (1 : Int32)) (by decide) rfl ?_
      refine go_goto C (pc' := 133) at_129 (by decide) (by decide) ?_
      exact go_retN C (by simp) (z' := (1 : Int32)) (by decide) at_133 (by decide) (by decide) rfl
    · skip
      refine go_aloadN C (pc' := 98) at_97 rfl rfl rfl ?_
      refine go_iload C (pc' := 100) at_98 rfl rfl ?_
      refine go_iaget C (pc' := 101) A12 (by decide) (i := 9) (by decide) rfl at_100 rfl ?_
      refine go_iloadN C (pc' := 102) at_101 rfl rfl ?_
      refine go_bipush C (pc' := 104) at_102 (z := (15 : Int32)) (by decide) rfl ?_
      refine go_iand C (pc' := 105) at_104 rfl ?_
      refine go_bipush C (pc' := 107) at_105 (z := (8 : Int32)) (by decide) rfl ?_
      refine go_isub C (pc' := 108) at_107 rfl ?_
      refine go_iadd C (pc' := 109) at_108 rfl ?_
      refine go_istore C (pc' := 111) at_109 (Ls' := #[(.val (.int x0)), (.val (.int x1)), (.val (.int x2)), (.val (.ref b1)), (.val (.int (9 : Int32))), (.val (.int ((440 : Int32) + ((x1 &&& (15 : Int32)) - (8 : Int32))))), .unset]) rfl rfl ?_
      refine go_iload C (pc' := 113) at_111 rfl rfl ?_
      generalize hcc : ((440 : Int32) + ((x1 &&& (15 : Int32)) - (8 : Int32))) = cc
      refine go_callS C (pc' := 116) (y' := (⟨"com/example/ratatoskr/ratatoskr/gmtp/Status", "of", "(I)Lcom/example/ratatoskr/ratatoskr/gmtp/Status;"⟩ : MethodName)) (wd_2 hw) (wd_3 hw) (of_met l Z a0 hw _ _ O12 (EnOK.ext O12.2) (EnQUIT.ext O12.2) (EnSERVER_NOT_FOUND.ext O12.2) (EnNOT_CONNECT.ext O12.2) (EnACCESS_DENIED.ext O12.2) (EnILLEGAL_REQUEST.ext O12.2) (EnUNKNOWN_METHOD.ext O12.2) (EnILLEGAL_PARAMETER.ext O12.2) (EnTIME_OUT.ext O12.2) (EnILLEGAL_EXPRESSION.ext O12.2) (EnINTERNAL_ERROR.ext O12.2) (S_ALL.ext O12.2) (A_ALL.ext O12.2) cc) (wd_5 hw) (wd_4 hw) (by decide) (by decide) (W := 0) (Nat.le_of_ble_eq_true rfl) (by decide) (by decide) (by decide) rfl (argsL := [(.int cc)]) (rest := []) pd_0 rfl rfl rfl at_113 rfl ?_
      rintro _ _ ⟨rfl, rfl⟩
      refine go_st (st' := [(sel cc a_OK a_QUIT a_SERVER_NOT_FOUND a_NOT_CONNECT a_ACCESS_DENIED a_ILLEGAL_REQUEST a_UNKNOWN_METHOD a_ILLEGAL_PARAMETER a_TIME_OUT a_ILLEGAL_EXPRESSION a_INTERNAL_ERROR)]) rfl ?_
      refine go_astore C (pc' := 118) at_116 (sel_ref _ a_OK a_QUIT a_SERVER_NOT_FOUND a_NOT_CONNECT a_ACCESS_DENIED a_ILLEGAL_REQUEST a_UNKNOWN_METHOD a_ILLEGAL_PARAMETER a_TIME_OUT a_ILLEGAL_EXPRESSION a_INTERNAL_ERROR) (Ls' := #[(.val (.int x0)), (.val (.int x1)), (.val (.int x2)), (.val (.ref b1)), (.val (.int (9 : Int32))), (.val (.int cc)), (.val (sel cc a_OK a_QUIT a_SERVER_NOT_FOUND a_NOT_CONNECT a_ACCESS_DENIED a_ILLEGAL_REQUEST a_UNKNOWN_METHOD a_ILLEGAL_PARAMETER a_TIME_OUT a_ILLEGAL_EXPRESSION a_INTERNAL_ERROR))]) (XS.store1 rfl (Or.inl rfl) (sel_cat _ a_OK a_QUIT a_SERVER_NOT_FOUND a_NOT_CONNECT a_ACCESS_DENIED a_ILLEGAL_REQUEST a_UNKNOWN_METHOD a_ILLEGAL_PARAMETER a_TIME_OUT a_ILLEGAL_EXPRESSION a_INTERNAL_ERROR)) rfl ?_
      refine go_aload C (pc' := 120) at_118 rfl (sel_ref _ a_OK a_QUIT a_SERVER_NOT_FOUND a_NOT_CONNECT a_ACCESS_DENIED a_ILLEGAL_REQUEST a_UNKNOWN_METHOD a_ILLEGAL_PARAMETER a_TIME_OUT a_ILLEGAL_EXPRESSION a_INTERNAL_ERROR) rfl ?_
      refine go_iload C (pc' := 122) at_120 rfl rfl ?_
      refine go_callS C (pc' := 125) (y' := (⟨"com/example/ratatoskr/ratatoskr/gmtp/StatusOfPinLaw", "expected", "(I)Lcom/example/ratatoskr/ratatoskr/gmtp/Status;"⟩ : MethodName)) (wd_21 hw) (wd_22 hw) (exp_met l Z a0 hw _ _ O12 (EnOK.ext O12.2) (EnQUIT.ext O12.2) (EnSERVER_NOT_FOUND.ext O12.2) (EnNOT_CONNECT.ext O12.2) (EnACCESS_DENIED.ext O12.2) (EnILLEGAL_REQUEST.ext O12.2) (EnUNKNOWN_METHOD.ext O12.2) (EnILLEGAL_PARAMETER.ext O12.2) (EnTIME_OUT.ext O12.2) (EnILLEGAL_EXPRESSION.ext O12.2) (EnINTERNAL_ERROR.ext O12.2) cc) (wd_24 hw) (wd_23 hw) (by decide) (by decide) (W := 1) (by simp [sel_cat]) (by decide) (by decide) (by decide) rfl (argsL := [(.int cc)]) (rest := [(sel cc a_OK a_QUIT a_SERVER_NOT_FOUND a_NOT_CONNECT a_ACCESS_DENIED a_ILLEGAL_REQUEST a_UNKNOWN_METHOD a_ILLEGAL_PARAMETER a_TIME_OUT a_ILLEGAL_EXPRESSION a_INTERNAL_ERROR)]) pd_0 rfl rfl rfl at_122 rfl ?_
      rintro _ _ ⟨rfl, rfl⟩
      refine go_st (st' := [(sel cc a_OK a_QUIT a_SERVER_NOT_FOUND a_NOT_CONNECT a_ACCESS_DENIED a_ILLEGAL_REQUEST a_UNKNOWN_METHOD a_ILLEGAL_PARAMETER a_TIME_OUT a_ILLEGAL_EXPRESSION a_INTERNAL_ERROR), (sel cc a_OK a_QUIT a_SERVER_NOT_FOUND a_NOT_CONNECT a_ACCESS_DENIED a_ILLEGAL_REQUEST a_UNKNOWN_METHOD a_ILLEGAL_PARAMETER a_TIME_OUT a_ILLEGAL_EXPRESSION a_INTERNAL_ERROR)]) rfl ?_
      refine go_acmpNo C (pc' := 128) at_125 (sel_ref _ a_OK a_QUIT a_SERVER_NOT_FOUND a_NOT_CONNECT a_ACCESS_DENIED a_ILLEGAL_REQUEST a_UNKNOWN_METHOD a_ILLEGAL_PARAMETER a_TIME_OUT a_ILLEGAL_EXPRESSION a_INTERNAL_ERROR) (sel_ref _ a_OK a_QUIT a_SERVER_NOT_FOUND a_NOT_CONNECT a_ACCESS_DENIED a_ILLEGAL_REQUEST a_UNKNOWN_METHOD a_ILLEGAL_PARAMETER a_TIME_OUT a_ILLEGAL_EXPRESSION a_INTERNAL_ERROR) (acmp_neF rfl) rfl ?_
      refine go_iconst C (pc' := 129) at_128 (z := (1 : Int32)) (by decide) rfl ?_
      refine go_goto C (pc' := 133) at_129 (by decide) (by decide) ?_
      exact go_retN C (by simp) (z' := (1 : Int32)) (by decide) at_133 (by decide) (by decide) rfl
    · skip
      refine go_aloadN C (pc' := 98) at_97 rfl rfl rfl ?_
      refine go_iload C (pc' := 100) at_98 rfl rfl ?_
      refine go_iaget C (pc' := 101) A12 (by decide) (i := 10) (by decide) rfl at_100 rfl ?_
      refine go_iloadN C (pc' := 102) at_101 rfl rfl ?_
      refine go_bipush C (pc' := 104) at_102 (z := (15 : Int32)) (by decide) rfl ?_
      refine go_iand C (pc' := 105) at_104 rfl ?_
      refine go_bipush C (pc' := 107) at_105 (z := (8 : Int32)) (by decide) rfl ?_
      refine go_isub C (pc' := 108) at_107 rfl ?_
      refine go_iadd C (pc' := 109) at_108 rfl ?_
      refine go_istore C (pc' := 111) at_109 (Ls' := #[(.val (.int x0)), (.val (.int x1)), (.val (.int x2)), (.val (.ref b1)), (.val (.int (10 : Int32))), (.val (.int ((500 : Int32) + ((x1 &&& (15 : Int32)) - (8 : Int32))))), .unset]) rfl rfl ?_
      refine go_iload C (pc' := 113) at_111 rfl rfl ?_
      generalize hcc : ((500 : Int32) + ((x1 &&& (15 : Int32)) - (8 : Int32))) = cc
      refine go_callS C (pc' := 116) (y' := (⟨"com/example/ratatoskr/ratatoskr/gmtp/Status", "of", "(I)Lcom/example/ratatoskr/ratatoskr/gmtp/Status;"⟩ : MethodName)) (wd_2 hw) (wd_3 hw) (of_met l Z a0 hw _ _ O12 (EnOK.ext O12.2) (EnQUIT.ext O12.2) (EnSERVER_NOT_FOUND.ext O12.2) (EnNOT_CONNECT.ext O12.2) (EnACCESS_DENIED.ext O12.2) (EnILLEGAL_REQUEST.ext O12.2) (EnUNKNOWN_METHOD.ext O12.2) (EnILLEGAL_PARAMETER.ext O12.2) (EnTIME_OUT.ext O12.2) (EnILLEGAL_EXPRESSION.ext O12.2) (EnINTERNAL_ERROR.ext O12.2) (S_ALL.ext O12.2) (A_ALL.ext O12.2) cc) (wd_5 hw) (wd_4 hw) (by decide) (by decide) (W := 0) (Nat.le_of_ble_eq_true rfl) (by decide) (by decide) (by decide) rfl (argsL := [(.int cc)]) (rest := []) pd_0 rfl rfl rfl at_113 rfl ?_
      rintro _ _ ⟨rfl, rfl⟩
      refine go_st (st' := [(sel cc a_OK a_QUIT a_SERVER_NOT_FOUND a_NOT_CONNECT a_ACCESS_DENIED a_ILLEGAL_REQUEST a_UNKNOWN_METHOD a_ILLEGAL_PARAMETER a_TIME_OUT a_ILLEGAL_EXPRESSION a_INTERNAL_ERROR)]) rfl ?_
      refine go_astore C (pc' := 118) at_116 (sel_ref _ a_OK a_QUIT a_SERVER_NOT_FOUND a_NOT_CONNECT a_ACCESS_DENIED a_ILLEGAL_REQUEST a_UNKNOWN_METHOD a_ILLEGAL_PARAMETER a_TIME_OUT a_ILLEGAL_EXPRESSION a_INTERNAL_ERROR) (Ls' := #[(.val (.int x0)), (.val (.int x1)), (.val (.int x2)), (.val (.ref b1)), (.val (.int (10 : Int32))), (.val (.int cc)), (.val (sel cc a_OK a_QUIT a_SERVER_NOT_FOUND a_NOT_CONNECT a_ACCESS_DENIED a_ILLEGAL_REQUEST a_UNKNOWN_METHOD a_ILLEGAL_PARAMETER a_TIME_OUT a_ILLEGAL_EXPRESSION a_INTERNAL_ERROR))]) (XS.store1 rfl (Or.inl rfl) (sel_cat _ a_OK a_QUIT a_SERVER_NOT_FOUND a_NOT_CONNECT a_ACCESS_DENIED a_ILLEGAL_REQUEST a_UNKNOWN_METHOD a_ILLEGAL_PARAMETER a_TIME_OUT a_ILLEGAL_EXPRESSION a_INTERNAL_ERROR)) rfl ?_
      refine go_aload C (pc' := 120) at_118 rfl (sel_ref _ a_OK a_QUIT a_SERVER_NOT_FOUND a_NOT_CONNECT a_ACCESS_DENIED a_ILLEGAL_REQUEST a_UNKNOWN_METHOD a_ILLEGAL_PARAMETER a_TIME_OUT a_ILLEGAL_EXPRESSION a_INTERNAL_ERROR) rfl ?_
      refine go_iload C (pc' := 122) at_120 rfl rfl ?_
      refine go_callS C (pc' := 125) (y' := (⟨"com/example/ratatoskr/ratatoskr/gmtp/StatusOfPinLaw", "expected", "(I)Lcom/example/ratatoskr/ratatoskr/gmtp/Status;"⟩ : MethodName)) (wd_21 hw) (wd_22 hw) (exp_met l Z a0 hw _ _ O12 (EnOK.ext O12.2) (EnQUIT.ext O12.2) (EnSERVER_NOT_FOUND.ext O12.2) (EnNOT_CONNECT.ext O12.2) (EnACCESS_DENIED.ext O12.2) (EnILLEGAL_REQUEST.ext O12.2) (EnUNKNOWN_METHOD.ext O12.2) (EnILLEGAL_PARAMETER.ext O12.2) (EnTIME_OUT.ext O12.2) (EnILLEGAL_EXPRESSION.ext O12.2) (EnINTERNAL_ERROR.ext O12.2) cc) (wd_24 hw) (wd_23 hw) (by decide) (by decide) (W := 1) (by simp [sel_cat]) (by decide) (by decide) (by decide) rfl (argsL := [(.int cc)]) (rest := [(sel cc a_OK a_QUIT a_SERVER_NOT_FOUND a_NOT_CONNECT a_ACCESS_DENIED a_ILLEGAL_REQUEST a_UNKNOWN_METHOD a_ILLEGAL_PARAMETER a_TIME_OUT a_ILLEGAL_EXPRESSION a_INTERNAL_ERROR)]) pd_0 rfl rfl rfl at_122 rfl ?_
      rintro _ _ ⟨rfl, rfl⟩
      refine go_st (st' := [(sel cc a_OK a_QUIT a_SERVER_NOT_FOUND a_NOT_CONNECT a_ACCESS_DENIED a_ILLEGAL_REQUEST a_UNKNOWN_METHOD a_ILLEGAL_PARAMETER a_TIME_OUT a_ILLEGAL_EXPRESSION a_INTERNAL_ERROR), (sel cc a_OK a_QUIT a_SERVER_NOT_FOUND a_NOT_CONNECT a_ACCESS_DENIED a_ILLEGAL_REQUEST a_UNKNOWN_METHOD a_ILLEGAL_PARAMETER a_TIME_OUT a_ILLEGAL_EXPRESSION a_INTERNAL_ERROR)]) rfl ?_
      refine go_acmpNo C (pc' := 128) at_125 (sel_ref _ a_OK a_QUIT a_SERVER_NOT_FOUND a_NOT_CONNECT a_ACCESS_DENIED a_ILLEGAL_REQUEST a_UNKNOWN_METHOD a_ILLEGAL_PARAMETER a_TIME_OUT a_ILLEGAL_EXPRESSION a_INTERNAL_ERROR) (sel_ref _ a_OK a_QUIT a_SERVER_NOT_FOUND a_NOT_CONNECT a_ACCESS_DENIED a_ILLEGAL_REQUEST a_UNKNOWN_METHOD a_ILLEGAL_PARAMETER a_TIME_OUT a_ILLEGAL_EXPRESSION a_INTERNAL_ERROR) (acmp_neF rfl) rfl ?_
      refine go_iconst C (pc' := 129) at_128 (z := (1 : Int32)) (by decide) rfl ?_
      refine go_goto C (pc' := 133) at_129 (by decide) (by decide) ?_
      exact go_retN C (by simp) (z' := (1 : Int32)) (by decide) at_133 (by decide) (by decide) rfl
  · refine go_ifNo C (pc' := 91) at_88 ((if0 _ _).trans (feq hc13).1) rfl ?_
    refine go_iloadN C (pc' := 92) at_91 rfl rfl ?_
    refine go_istore C (pc' := 94) at_92 (Ls' := #[(.val (.int x0)), (.val (.int x1)), (.val (.int x2)), (.val (.ref b1)), (.val (.int i)), (.val (.int x1)), .unset]) rfl rfl ?_
    refine go_goto C (pc' := 111) at_94 (by decide) (by decide) ?_
    refine go_iload C (pc' := 113) at_111 rfl rfl ?_
    refine go_callS C (pc' := 116) (y' := (⟨"com/example/ratatoskr/ratatoskr/gmtp/Status", "of", "(I)Lcom/example/ratatoskr/ratatoskr/gmtp/Status;"⟩ : MethodName)) (wd_2 hw) (wd_3 hw) (of_met l Z a0 hw _ _ O12 (EnOK.ext O12.2) (EnQUIT.ext O12.2) (EnSERVER_NOT_FOUND.ext O12.2) (EnNOT_CONNECT.ext O12.2) (EnACCESS_DENIED.ext O12.2) (EnILLEGAL_REQUEST.ext O12.2) (EnUNKNOWN_METHOD.ext O12.2) (EnILLEGAL_PARAMETER.ext O12.2) (EnTIME_OUT.ext O12.2) (EnILLEGAL_EXPRESSION.ext O12.2) (EnINTERNAL_ERROR.ext O12.2) (S_ALL.ext O12.2) (A_ALL.ext O12.2) x1) (wd_5 hw) (wd_4 hw) (by decide) (by decide) (W := 0) (Nat.le_of_ble_eq_true rfl) (by decide) (by decide) (by decide) rfl (argsL := [(.int x1)]) (rest := []) pd_0 rfl rfl rfl at_113 rfl ?_
    rintro _ _ ⟨rfl, rfl⟩
    refine go_st (st' := [(sel x1 a_OK a_QUIT a_SERVER_NOT_FOUND a_NOT_CONNECT a_ACCESS_DENIED a_ILLEGAL_REQUEST a_UNKNOWN_METHOD a_ILLEGAL_PARAMETER a_TIME_OUT a_ILLEGAL_EXPRESSION a_INTERNAL_ERROR)]) rfl ?_
    refine go_astore C (pc' := 118) at_116 (sel_ref _ a_OK a_QUIT a_SERVER_NOT_FOUND a_NOT_CONNECT a_ACCESS_DENIED a_ILLEGAL_REQUEST a_UNKNOWN_METHOD a_ILLEGAL_PARAMETER a_TIME_OUT a_ILLEGAL_EXPRESSION a_INTERNAL_ERROR) (Ls' := #[(.val (.int x0)), (.val (.int x1)), (.val (.int x2)), (.val (.ref b1)), (.val (.int i)), (.val (.int x1)), (.val (sel x1 a_OK a_QUIT a_SERVER_NOT_FOUND a_NOT_CONNECT a_ACCESS_DENIED a_ILLEGAL_REQUEST a_UNKNOWN_METHOD a_ILLEGAL_PARAMETER a_TIME_OUT a_ILLEGAL_EXPRESSION a_INTERNAL_ERROR))]) (XS.store1 rfl (Or.inl rfl) (sel_cat _ a_OK a_QUIT a_SERVER_NOT_FOUND a_NOT_CONNECT a_ACCESS_DENIED a_ILLEGAL_REQUEST a_UNKNOWN_METHOD a_ILLEGAL_PARAMETER a_TIME_OUT a_ILLEGAL_EXPRESSION a_INTERNAL_ERROR)) rfl ?_
    refine go_aload C (pc' := 120) at_118 rfl (sel_ref _ a_OK a_QUIT a_SERVER_NOT_FOUND a_NOT_CONNECT a_ACCESS_DENIED a_ILLEGAL_REQUEST a_UNKNOWN_METHOD a_ILLEGAL_PARAMETER a_TIME_OUT a_ILLEGAL_EXPRESSION a_INTERNAL_ERROR) rfl ?_
    refine go_iload C (pc' := 122) at_120 rfl rfl ?_
    refine go_callS C (pc' := 125) (y' := (⟨"com/example/ratatoskr/ratatoskr/gmtp/StatusOfPinLaw", "expected", "(I)Lcom/example/ratatoskr/ratatoskr/gmtp/Status;"⟩ : MethodName)) (wd_21 hw) (wd_22 hw) (exp_met l Z a0 hw _ _ O12 (EnOK.ext O12.2) (EnQUIT.ext O12.2) (EnSERVER_NOT_FOUND.ext O12.2) (EnNOT_CONNECT.ext O12.2) (EnACCESS_DENIED.ext O12.2) (EnILLEGAL_REQUEST.ext O12.2) (EnUNKNOWN_METHOD.ext O12.2) (EnILLEGAL_PARAMETER.ext O12.2) (EnTIME_OUT.ext O12.2) (EnILLEGAL_EXPRESSION.ext O12.2) (EnINTERNAL_ERROR.ext O12.2) x1) (wd_24 hw) (wd_23 hw) (by decide) (by decide) (W := 1) (by simp [sel_cat]) (by decide) (by decide) (by decide) rfl (argsL := [(.int x1)]) (rest := [(sel x1 a_OK a_QUIT a_SERVER_NOT_FOUND a_NOT_CONNECT a_ACCESS_DENIED a_ILLEGAL_REQUEST a_UNKNOWN_METHOD a_ILLEGAL_PARAMETER a_TIME_OUT a_ILLEGAL_EXPRESSION a_INTERNAL_ERROR)]) pd_0 rfl rfl rfl at_122 rfl ?_
    rintro _ _ ⟨rfl, rfl⟩
    refine go_st (st' := [(sel x1 a_OK a_QUIT a_SERVER_NOT_FOUND a_NOT_CONNECT a_ACCESS_DENIED a_ILLEGAL_REQUEST a_UNKNOWN_METHOD a_ILLEGAL_PARAMETER a_TIME_OUT a_ILLEGAL_EXPRESSION a_INTERNAL_ERROR), (sel x1 a_OK a_QUIT a_SERVER_NOT_FOUND a_NOT_CONNECT a_ACCESS_DENIED a_ILLEGAL_REQUEST a_UNKNOWN_METHOD a_ILLEGAL_PARAMETER a_TIME_OUT a_ILLEGAL_EXPRESSION a_INTERNAL_ERROR)]) rfl ?_
    refine go_acmpNo C (pc' := 128) at_125 (sel_ref _ a_OK a_QUIT a_SERVER_NOT_FOUND a_NOT_CONNECT a_ACCESS_DENIED a_ILLEGAL_REQUEST a_UNKNOWN_METHOD a_ILLEGAL_PARAMETER a_TIME_OUT a_ILLEGAL_EXPRESSION a_INTERNAL_ERROR) (sel_ref _ a_OK a_QUIT a_SERVER_NOT_FOUND a_NOT_CONNECT a_ACCESS_DENIED a_ILLEGAL_REQUEST a_UNKNOWN_METHOD a_ILLEGAL_PARAMETER a_TIME_OUT a_ILLEGAL_EXPRESSION a_INTERNAL_ERROR) (acmp_neF rfl) rfl ?_
    refine go_iconst C (pc' := 129) at_128 (z := (1 : Int32)) (by decide) rfl ?_
    refine go_goto C (pc' := 133) at_129 (by decide) (by decide) ?_
    exact go_retN C (by simp) (z' := (1 : Int32)) (by decide) at_133 (by decide) (by decide) rfl
set_option maxRecDepth 65536 in
set_option maxHeartbeats 40000000 in
theorem comes_1 {Post : Tables → Env → Array Value → State → Outcome → State → Prop} (hpost : ∀ tb e args s v u, (limb_1_1.after args s (.returned v) u = true ∧ limb_1_2.after args s (.returned v) u = true ∧ True) → FrameEnd s (.returned v) u (Jvm.fieldLocs frame_1_writes args s ++ Jvm.arrayLocs frame_1_arrays args s ++ Jvm.staticLocs frame_1_statics s) 16 128 → Post tb e args s (.returned v) u) :
    ArmFor flags0 classFile x code maxLocals ret World_1 tables_1 room_1 Calls_1 rest_1 Pre_1 Post := by
  intro l hfl _ _ p e ha hc hk s m args below hf hA hF happ hP
  obtain ⟨hcalls, hrest, hpre⟩ := hP
  obtain ⟨-, -, -, hnamed, -, -, -, hat⟩ := (Spec.applies_iff hf).mp happ
  obtain ⟨hg, hn⟩ := and_e (Cond.before_iff.mp (show (Jvm.Cond.and given_1 narrow_1).before args s = true from hpre))
  obtain ⟨hcount, g0⟩ := and_e hg
  obtain ⟨w0, w1, w2, rfl⟩ : ∃ w0 w1 w2 : Value, args = #[w0, w1, w2] := by
    have hs : args.size = 3 := by simpa [Cond.value, given_1] using hcount
    obtain ⟨L⟩ := args
    match L, hs with
    | [w0, w1, w2], _ => exact ⟨w0, w1, w2, rfl⟩
  have hw := fun d (hd : d ∈ tables_1) => atoms_spec (ws := Jvm.Cond.code x code maxLocals ret :: tables_1) hat d (List.mem_cons_of_mem _ hd)
  have hfit : Fit s := fun {y c} hc i hi => by
    obtain ⟨ha, rfl⟩ := Array.getElem?_eq_some_iff.mp hc
    have q := List.all_eq_true.mp ((Array.all_eq_true_iff_forall_mem.mp hF) _ (Array.getElem_mem ha)) i (List.mem_range.mpr hi)
    simpa [Array.getElem?_eq_getElem hi] using q
  obtain ⟨u0, g1⟩ := and_e g0
  obtain ⟨i0, e0⟩ := is_v u0
  obtain rfl : w0 = (.int i0) := Option.some.inj e0
  obtain ⟨u1, g2⟩ := and_e g1
  obtain ⟨i1, e1⟩ := is_v u1
  obtain rfl : w1 = (.int i1) := Option.some.inj e1
  obtain ⟨i2, e2⟩ := is_v g2
  obtain rfl : w2 = (.int i2) := Option.some.inj e2
  obtain ⟨q0, r0⟩ := and_e hn
  obtain ⟨q1, r1⟩ := and_e r0
  obtain ⟨q2, r2⟩ := and_e r1
  obtain ⟨q3, r3⟩ := and_e r2
  obtain ⟨q4, r4⟩ := and_e r3
  obtain ⟨q5, r5⟩ := and_e r4
  obtain ⟨q6, r6⟩ := and_e r5
  obtain ⟨q7, r7⟩ := and_e r6
  obtain ⟨q8, r8⟩ := and_e r7
  obtain ⟨q9, r9⟩ := and_e r8
  obtain ⟨q10, r10⟩ := and_e r9
  obtain ⟨q11, r11⟩ := and_e r10
  obtain ⟨q12, r12⟩ := and_e r11
  obtain ⟨q13, r13⟩ := and_e r12
  obtain ⟨q14, r14⟩ := and_e r13
  obtain ⟨q15, r15⟩ := and_e r14
  obtain ⟨q16, r16⟩ := and_e r15
  obtain ⟨q17, r17⟩ := and_e r16
  obtain ⟨q18, r18⟩ := and_e r17
  obtain ⟨q19, r19⟩ := and_e r18
  obtain ⟨q20, r20⟩ := and_e r19
  obtain ⟨q21, r21⟩ := and_e r20
  obtain ⟨q22, r22⟩ := and_e r21
  obtain ⟨q23, r23⟩ := and_e r22
  obtain ⟨q24, r24⟩ := and_e r23
  obtain ⟨q25, r25⟩ := and_e r24
  obtain ⟨q26, r26⟩ := and_e r25
  obtain ⟨q27, r27⟩ := and_e r26
  obtain ⟨q28, r28⟩ := and_e r27
  obtain ⟨q29, r29⟩ := and_e r28
  obtain ⟨q30, r30⟩ := and_e r29
  obtain ⟨q31, r31⟩ := and_e r30
  obtain ⟨q32, r32⟩ := and_e r31
  obtain ⟨q33, r33⟩ := and_e r32
  have q34 := r33
  obtain ⟨a_OK, v_OK⟩ := exa_v q2
  have EnOK : En_OK s s.heap a_OK := ⟨Sta.start v_OK (Or.inr ⟨(wd_4 hw), (wd_8 hw)⟩), Exa.start v_OK q2, Fld.start ((fld_at v_OK).symm.trans (own_eqI q4))⟩
  obtain ⟨a_QUIT, v_QUIT⟩ := exa_v q5
  have EnQUIT : En_QUIT s s.heap a_QUIT := ⟨Sta.start v_QUIT (Or.inr ⟨(wd_4 hw), (wd_11 hw)⟩), Exa.start v_QUIT q5, Fld.start ((fld_at v_QUIT).symm.trans (own_eqI q7))⟩
  obtain ⟨a_SERVER_NOT_FOUND, v_SERVER_NOT_FOUND⟩ := exa_v q8
  have EnSERVER_NOT_FOUND : En_SERVER_NOT_FOUND s s.heap a_SERVER_NOT_FOUND := ⟨Sta.start v_SERVER_NOT_FOUND (Or.inr ⟨(wd_4 hw), (wd_12 hw)⟩), Exa.start v_SERVER_NOT_FOUND q8, Fld.start ((fld_at v_SERVER_NOT_FOUND).symm.trans (own_eqI q10))⟩
  obtain ⟨a_NOT_CONNECT, v_NOT_CONNECT⟩ := exa_v q11
  have EnNOT_CONNECT : En_NOT_CONNECT s s.heap a_NOT_CONNECT := ⟨Sta.start v_NOT_CONNECT (Or.inr ⟨(wd_4 hw), (wd_13 hw)⟩), Exa.start v_NOT_CONNECT q11, Fld.start ((fld_at v_NOT_CONNECT).symm.trans (own_eqI q13))⟩
  obtain ⟨a_ACCESS_DENIED, v_ACCESS_DENIED⟩ := exa_v q14
  have EnACCESS_DENIED : En_ACCESS_DENIED s s.heap a_ACCESS_DENIED := ⟨Sta.start v_ACCESS_DENIED (Or.inr ⟨(wd_4 hw), (wd_14 hw)⟩), Exa.start v_ACCESS_DENIED q14, Fld.start ((fld_at v_ACCESS_DENIED).symm.trans (own_eqI q16))⟩
  obtain ⟨a_ILLEGAL_REQUEST, v_ILLEGAL_REQUEST⟩ := exa_v q17
  have EnILLEGAL_REQUEST : En_ILLEGAL_REQUEST s s.heap a_ILLEGAL_REQUEST := ⟨Sta.start v_ILLEGAL_REQUEST (Or.inr ⟨(wd_4 hw), (wd_15 hw)⟩), Exa.start v_ILLEGAL_REQUEST q17, Fld.start ((fld_at v_ILLEGAL_REQUEST).symm.trans (own_eqI q19))⟩
  obtain ⟨a_UNKNOWN_METHOD, v_UNKNOWN_METHOD⟩ := exa_v q20
  have EnUNKNOWN_METHOD : En_UNKNOWN_METHOD s s.heap a_UNKNOWN_METHOD := ⟨Sta.start v_UNKNOWN_METHOD (Or.inr ⟨(wd_4 hw), (wd_16 hw)⟩), Exa.start v_UNKNOWN_METHOD q20, Fld.start ((fld_at v_UNKNOWN_METHOD).symm.trans (own_eqI q22))⟩
  obtain ⟨a_ILLEGAL_PARAMETER, v_ILLEGAL_PARAMETER⟩ := exa_v q23
  have EnILLEGAL_PARAMETER : En_ILLEGAL_PARAMETER s s.heap a_ILLEGAL_PARAMETER := ⟨Sta.start v_ILLEGAL_PARAMETER (Or.inr ⟨(wd_4 hw), (wd_17 hw)⟩), Exa.start v_ILLEGAL_PARAMETER q23, Fld.start ((fld_at v_ILLEGAL_PARAMETER).symm.trans (own_eqI q25))⟩
  obtain ⟨a_TIME_OUT, v_TIME_OUT⟩ := exa_v q26
  have EnTIME_OUT : En_TIME_OUT s s.heap a_TIME_OUT := ⟨Sta.start v_TIME_OUT (Or.inr ⟨(wd_4 hw), (wd_18 hw)⟩), Exa.start v_TIME_OUT q26, Fld.start ((fld_at v_TIME_OUT).symm.trans (own_eqI q28))⟩
  obtain ⟨a_ILLEGAL_EXPRESSION, v_ILLEGAL_EXPRESSION⟩ := exa_v q29
  have EnILLEGAL_EXPRESSION : En_ILLEGAL_EXPRESSION s s.heap a_ILLEGAL_EXPRESSION := ⟨Sta.start v_ILLEGAL_EXPRESSION (Or.inr ⟨(wd_4 hw), (wd_19 hw)⟩), Exa.start v_ILLEGAL_EXPRESSION q29, Fld.start ((fld_at v_ILLEGAL_EXPRESSION).symm.trans (own_eqI q31))⟩
  obtain ⟨a_INTERNAL_ERROR, v_INTERNAL_ERROR⟩ := exa_v q32
  have EnINTERNAL_ERROR : En_INTERNAL_ERROR s s.heap a_INTERNAL_ERROR := ⟨Sta.start v_INTERNAL_ERROR (Or.inr ⟨(wd_4 hw), (wd_20 hw)⟩), Exa.start v_INTERNAL_ERROR q32, Fld.start ((fld_at v_INTERNAL_ERROR).symm.trans (own_eqI q34))⟩
  obtain ⟨a_ALL, v_ALL⟩ := arr_v q0
  have S_ALL := Sta.start v_ALL (Or.inr ⟨(wd_4 hw), (wd_7 hw)⟩)
  obtain ⟨cl_ALL, Arr_ALL⟩ := Arr.start v_ALL q0
  have L_ALL := own_len 11 (own_eqI q1) v_ALL Arr_ALL.1 (by decide)
  have A_ALL : Ar s s.heap a_ALL (.object "com/example/ratatoskr/ratatoskr/gmtp/Status") cl_ALL.cls [(.ref a_OK), (.ref a_QUIT), (.ref a_SERVER_NOT_FOUND), (.ref a_NOT_CONNECT), (.ref a_ACCESS_DENIED), (.ref a_ILLEGAL_REQUEST), (.ref a_UNKNOWN_METHOD), (.ref a_ILLEGAL_PARAMETER), (.ref a_TIME_OUT), (.ref a_ILLEGAL_EXPRESSION), (.ref a_INTERNAL_ERROR)] := ⟨cl_ALL, Arr_ALL, rfl, own_list11 L_ALL (own_elem 0 (own_eqR q3 v_OK) v_ALL Arr_ALL.1 (by decide)) (own_elem 1 (own_eqR q6 v_QUIT) v_ALL Arr_ALL.1 (by decide)) (own_elem 2 (own_eqR q9 v_SERVER_NOT_FOUND) v_ALL Arr_ALL.1 (by decide)) (own_elem 3 (own_eqR q12 v_NOT_CONNECT) v_ALL Arr_ALL.1 (by decide)) (own_elem 4 (own_eqR q15 v_ACCESS_DENIED) v_ALL Arr_ALL.1 (by decide)) (own_elem 5 (own_eqR q18 v_ILLEGAL_REQUEST) v_ALL Arr_ALL.1 (by decide)) (own_elem 6 (own_eqR q21 v_UNKNOWN_METHOD) v_ALL Arr_ALL.1 (by decide)) (own_elem 7 (own_eqR q24 v_ILLEGAL_PARAMETER) v_ALL Arr_ALL.1 (by decide)) (own_elem 8 (own_eqR q27 v_TIME_OUT) v_ALL Arr_ALL.1 (by decide)) (own_elem 9 (own_eqR q30 v_ILLEGAL_EXPRESSION) v_ALL Arr_ALL.1 (by decide)) (own_elem 10 (own_eqR q33 v_INTERNAL_ERROR) v_ALL Arr_ALL.1 (by decide))⟩
  obtain ⟨n, o, h1, h2, h3, _, L, rfl, ⟨N, -, rfl⟩, hq⟩ := law_met l s _ hw i0 i1 i2 EnOK EnQUIT EnSERVER_NOT_FOUND EnNOT_CONNECT EnACCESS_DENIED EnILLEGAL_REQUEST EnUNKNOWN_METHOD EnILLEGAL_PARAMETER EnTIME_OUT EnILLEGAL_EXPRESSION EnINTERNAL_ERROR S_ALL A_ALL p e ha hc hk s m _ below hf ((Spec.applies_iff_loose hf).mp happ).1 ⟨rfl, State.Warmed39.refl s, rfl⟩ trivial
  exact ⟨n, _, h1, h2, h3, hpost _ _ _ _ _ _ ⟨Cond.after_iff.mpr rfl, Cond.after_iff.mpr (eq_i res_at (Term.int_eval (1)) rfl), trivial⟩ ⟨hq.1, hq.2.1, (hq.2.2.sift fun y hy => Or.inr (N y hy)).mono (by decide) (by decide)⟩⟩
theorem main_1_1 : Claimed_1_1 := comes_1 fun _ _ _ _ _ _ h hF => ⟨h.1, hF⟩
theorem main_1_2 : Claimed_1_2 := comes_1 fun _ _ _ _ _ _ h hF => ⟨h.2.1, hF⟩
end Jvm.Pilot.@@N@@
namespace Jvm.Pilot.@@N@@
open Jvm Jvm.ClassFile Sem Op Lib Jvm.Free Jvm.Stand Jvm.Pilot.@@N@@.Jvm.D
/-! MADE BY PROGRAM (witnessworld.py) out of the Statement's table words and the real class files: 13 classes; the members and pool entries that the words name. The judged class is class 1, her method 2. -/
namespace start1
open Jvm.ClassFile
def u (s : String) : CpInfo := .utf8 (stringToUtf16 s)
/-- a pool by its gaps: so many unusable entries, then the entry; so many at the end -/
def gap : Nat → List CpInfo → List CpInfo
  | 0, r => r
  | n + 1, r => .unusable :: gap n r
def poolList (es : List (Nat × CpInfo)) (last : Nat) : List CpInfo := es.foldr (fun e r => gap e.1 (e.2 :: r)) (gap last [])
def pool (es : List (Nat × CpInfo)) (last : Nat) : Array CpInfo := ⟨poolList es last⟩
def fileOf (pool : Array CpInfo) (this : Nat) (attrs : Array Attribute := #[]) (ms : Array MethodInfo := #[]) (fl : Nat := 33) (sup : Nat := 0) (ifs : Array Nat := #[]) (fds : Array FieldInfo := #[]) : ClassFile where
  minorVersion := 0
  majorVersion := 65
  constantPool := pool
  accessFlags := fl
  thisClass := this
  superClass := sup
  interfaces := ifs
  fields := fds
  methods := ms
  attributes := attrs
def plain (name : String) (sup : Option ClassId) : Class where
  name := name
  kind := .ordinary
  loader := none
  accessFlags := 33
  super := sup
  interfaces := #[]
  cf := none
  fields := #[]
  methods := #[]
  instanceTypes := #[]
  staticTypes := #[]
  resolved := #[]
  callSites := []
  init := .initialized
  statics := none
  mirror := none

def pool0 : Array CpInfo := pool [(5, u "<init>"), (0, u "()V"), (1, .class_ 10), (1, u "java/lang/Object")] 113

def k0m0 : Method := { name := "<init>", desc := "()V", sig := { parameters := [], returnType := none }, accessFlags := 1, code := none }
/-- java/lang/Object -/
def k0 : Class := { plain "java/lang/Object" none with
  accessFlags := 33
  interfaces := #[]
  cf := some (fileOf pool0 8 #[] #[{ accessFlags := 1, nameIndex := 5, descriptorIndex := 6, attributes := #[] }] 33 0 #[] #[])
  fields := #[]
  methods := #[k0m0]
  instanceTypes := #[]
  staticTypes := #[]
  resolved := Array.replicate 124 none
  statics := none }

def pool1 : Array CpInfo := pool [(2, .class_ 4), (1, u "java/lang/Object"), (0, u "<init>"), (0, u "()V"), (0, .fieldref 8 9), (0, .class_ 10), (0, .nameAndType 11 12), (0, u "com/example/ratatoskr/ratatoskr/gmtp/Status"), (0, u "OK"), (0, u "Lcom/example/ratatoskr/ratatoskr/gmtp/Status;"), (0, .fieldref 8 14), (0, .nameAndType 15 12), (0, u "QUIT"), (0, .fieldref 8 17), (0, .nameAndType 18 12), (0, u "SERVER_NOT_FOUND"), (0, .fieldref 8 20), (0, .nameAndType 21 12), (0, u "NOT_CONNECT"), (0, .fieldref 8 23), (0, .nameAndType 24 12), (0, u "ACCESS_DENIED"), (0, .fieldref 8 26), (0, .nameAndType 27 12), (0, u "ILLEGAL_REQUEST"), (0, .fieldref 8 29), (0, .nameAndType 30 12), (0, u "UNKNOWN_METHOD"), (0, .fieldref 8 32), (0, .nameAndType 33 12), (0, u "ILLEGAL_PARAMETER"), (0, .fieldref 8 35), (0, .nameAndType 36 12), (0, u "TIME_OUT"), (0, .fieldref 8 38), (0, .nameAndType 39 12), (0, u "ILLEGAL_EXPRESSION"), (0, .fieldref 8 41), (0, .nameAndType 42 12), (0, u "INTERNAL_ERROR"), (0, .integer 2147483647), (0, .methodref 8 45), (0, .nameAndType 46 47), (0, u "of"), (0, u "(I)Lcom/example/ratatoskr/ratatoskr/gmtp/Status;"), (0, .methodref 49 50), (0, .class_ 51), (0, .nameAndType 52 47), (0, u "com/example/ratatoskr/ratatoskr/gmtp/StatusOfPinLaw"), (0, u "expected"), (3, u "law"), (0, u "(III)Z")] 4

def k1m0 : Method := { name := "<init>", desc := "()V", sig := { parameters := [], returnType := none }, accessFlags := 2, code := none }
def k1c1 : Code := { maxStack := 2, maxLocals := 1, code := method_2_code, exceptionTable := #[], attributes := #[] }
def k1m1 : Method := { name := "expected", desc := "(I)Lcom/example/ratatoskr/ratatoskr/gmtp/Status;", sig := { parameters := [.int], returnType := some (.object "com/example/ratatoskr/ratatoskr/gmtp/Status") }, accessFlags := 10, code := some k1c1 }
def k1c2 : Code := { maxStack := 4, maxLocals := 7, code := code, exceptionTable := #[], attributes := #[] }
def k1m2 : Method := { name := "law", desc := "(III)Z", sig := { parameters := [.int, .int, .int], returnType := some .boolean }, accessFlags := 9, code := some k1c2 }
/-- com/example/ratatoskr/ratatoskr/gmtp/StatusOfPinLaw -/
def k1 : Class := { plain "com/example/ratatoskr/ratatoskr/gmtp/StatusOfPinLaw" (some 0) with
  accessFlags := 49
  interfaces := #[]
  cf := some (fileOf pool1 49 #[] #[{ accessFlags := 2, nameIndex := 5, descriptorIndex := 6, attributes := #[] }, { accessFlags := 10, nameIndex := 52, descriptorIndex := 47, attributes := #[] }, { accessFlags := 9, nameIndex := 56, descriptorIndex := 57, attributes := #[] }] 49 2 #[] #[])
  fields := #[]
  methods := #[k1m0, k1m1, k1m2]
  instanceTypes := #[]
  staticTypes := #[]
  resolved := Array.replicate 62 none
  statics := none }

def pool2 : Array CpInfo := pool [(1, .class_ 2), (0, u "java/lang/constant/Constable"), (0, .class_ 4), (0, u "java/lang/Object")] 6

/-- java/lang/constant/Constable -/
def k2 : Class := { plain "java/lang/constant/Constable" (some 0) with
  accessFlags := 1537
  interfaces := #[]
  cf := some (fileOf pool2 1 #[] #[] 1537 3 #[] #[])
  fields := #[]
  methods := #[]
  instanceTypes := #[]
  staticTypes := #[]
  resolved := Array.replicate 11 none
  statics := none }

def pool3 : Array CpInfo := pool [(1, .class_ 2), (0, u "java/lang/Comparable"), (0, .class_ 4), (0, u "java/lang/Object")] 7

/-- java/lang/Comparable -/
def k3 : Class := { plain "java/lang/Comparable" (some 0) with
  accessFlags := 1537
  interfaces := #[]
  cf := some (fileOf pool3 1 #[] #[] 1537 3 #[] #[])
  fields := #[]
  methods := #[]
  instanceTypes := #[]
  staticTypes := #[]
  resolved := Array.replicate 12 none
  statics := none }

def pool4 : Array CpInfo := pool [(1, .class_ 2), (0, u "java/io/Serializable"), (0, .class_ 4), (0, u "java/lang/Object")] 2

/-- java/io/Serializable -/
def k4 : Class := { plain "java/io/Serializable" (some 0) with
  accessFlags := 1537
  interfaces := #[]
  cf := some (fileOf pool4 1 #[] #[] 1537 3 #[] #[])
  fields := #[]
  methods := #[]
  instanceTypes := #[]
  staticTypes := #[]
  resolved := Array.replicate 7 none
  statics := none }

def pool5 : Array CpInfo := pool [(2, .class_ 4), (1, u "java/lang/Enum"), (0, u "name"), (0, u "Ljava/lang/String;"), (2, u "ordinal"), (0, u "I"), (1, .class_ 14), (1, u "java/lang/Object"), (4, u "hash"), (86, .class_ 108), (1, u "java/lang/Enum$EnumDesc"), (2, .class_ 112), (0, u "java/lang/constant/Constable"), (0, .class_ 114), (0, u "java/lang/Comparable"), (0, .class_ 116), (0, u "java/io/Serializable")] 87

/-- java/lang/Enum -/
def k5 : Class := { plain "java/lang/Enum" (some 0) with
  accessFlags := 1057
  interfaces := #[2, 3, 4]
  cf := some (fileOf pool5 2 #[.nestMembers #[106]] #[] 1057 12 #[111, 113, 115] #[{ accessFlags := 18, nameIndex := 5, descriptorIndex := 6, attributes := #[] }, { accessFlags := 18, nameIndex := 9, descriptorIndex := 10, attributes := #[] }, { accessFlags := 2, nameIndex := 19, descriptorIndex := 10, attributes := #[] }])
  fields := #[{ name := "name", type := (.object "java/lang/String"), accessFlags := 18, slot := 0, constantValue := 0 }, { name := "ordinal", type := .int, accessFlags := 18, slot := 1, constantValue := 0 }, { name := "hash", type := .int, accessFlags := 2, slot := 2, constantValue := 0 }]
  methods := #[]
  instanceTypes := #[(.object "java/lang/String"), .int, .int]
  staticTypes := #[]
  resolved := Array.replicate 204 none
  statics := none }

def pool6 : Array CpInfo := pool [(1, .class_ 2), (0, u "com/example/ratatoskr/ratatoskr/gmtp/Status"), (2, u "OK"), (0, u "Lcom/example/ratatoskr/ratatoskr/gmtp/Status;"), (2, u "QUIT"), (2, u "SERVER_NOT_FOUND"), (2, u "NOT_CONNECT"), (2, u "ACCESS_DENIED"), (2, u "ILLEGAL_REQUEST"), (2, u "UNKNOWN_METHOD"), (2, u "ILLEGAL_PARAMETER"), (2, u "TIME_OUT"), (2, u "ILLEGAL_EXPRESSION"), (2, u "INTERNAL_ERROR"), (2, u "$VALUES"), (0, u "[Lcom/example/ratatoskr/ratatoskr/gmtp/Status;"), (6, .class_ 49), (1, u "java/lang/Enum"), (6, .fieldref 1 57), (0, .nameAndType 58 59), (0, u "code"), (0, u "I"), (2, u "text"), (0, u "Ljava/lang/String;"), (0, .fieldref 1 65), (0, .nameAndType 66 40), (0, u "ALL"), (47, u "of"), (0, u "(I)Lcom/example/ratatoskr/ratatoskr/gmtp/Status;")] 8

def k6c0 : Code := { maxStack := 2, maxLocals := 5, code := prog_23_method_4_code, exceptionTable := #[], attributes := #[] }
def k6m0 : Method := { name := "of", desc := "(I)Lcom/example/ratatoskr/ratatoskr/gmtp/Status;", sig := { parameters := [.int], returnType := some (.object "com/example/ratatoskr/ratatoskr/gmtp/Status") }, accessFlags := 8, code := some k6c0 }
/-- com/example/ratatoskr/ratatoskr/gmtp/Status -/
def k6 : Class := { plain "com/example/ratatoskr/ratatoskr/gmtp/Status" (some 5) with
  accessFlags := 16433
  interfaces := #[]
  cf := some (fileOf pool6 1 #[] #[{ accessFlags := 8, nameIndex := 114, descriptorIndex := 115, attributes := #[] }] 16433 47 #[] #[{ accessFlags := 16409, nameIndex := 5, descriptorIndex := 6, attributes := #[] }, { accessFlags := 16409, nameIndex := 9, descriptorIndex := 6, attributes := #[] }, { accessFlags := 16409, nameIndex := 12, descriptorIndex := 6, attributes := #[] }, { accessFlags := 16409, nameIndex := 15, descriptorIndex := 6, attributes := #[] }, { accessFlags := 16409, nameIndex := 18, descriptorIndex := 6, attributes := #[] }, { accessFlags := 16409, nameIndex := 21, descriptorIndex := 6, attributes := #[] }, { accessFlags := 16409, nameIndex := 24, descriptorIndex := 6, attributes := #[] }, { accessFlags := 16409, nameIndex := 27, descriptorIndex := 6, attributes := #[] }, { accessFlags := 16409, nameIndex := 30, descriptorIndex := 6, attributes := #[] }, { accessFlags := 16409, nameIndex := 33, descriptorIndex := 6, attributes := #[] }, { accessFlags := 16409, nameIndex := 36, descriptorIndex := 6, attributes := #[] }, { accessFlags := 26, nameIndex := 66, descriptorIndex := 40, attributes := #[] }, { accessFlags := 18, nameIndex := 58, descriptorIndex := 59, attributes := #[] }, { accessFlags := 18, nameIndex := 62, descriptorIndex := 63, attributes := #[] }, { accessFlags := 4122, nameIndex := 39, descriptorIndex := 40, attributes := #[] }])
  fields := #[{ name := "OK", type := (.object "com/example/ratatoskr/ratatoskr/gmtp/Status"), accessFlags := 16409, slot := 0, constantValue := 0 }, { name := "QUIT", type := (.object "com/example/ratatoskr/ratatoskr/gmtp/Status"), accessFlags := 16409, slot := 1, constantValue := 0 }, { name := "SERVER_NOT_FOUND", type := (.object "com/example/ratatoskr/ratatoskr/gmtp/Status"), accessFlags := 16409, slot := 2, constantValue := 0 }, { name := "NOT_CONNECT", type := (.object "com/example/ratatoskr/ratatoskr/gmtp/Status"), accessFlags := 16409, slot := 3, constantValue := 0 }, { name := "ACCESS_DENIED", type := (.object "com/example/ratatoskr/ratatoskr/gmtp/Status"), accessFlags := 16409, slot := 4, constantValue := 0 }, { name := "ILLEGAL_REQUEST", type := (.object "com/example/ratatoskr/ratatoskr/gmtp/Status"), accessFlags := 16409, slot := 5, constantValue := 0 }, { name := "UNKNOWN_METHOD", type := (.object "com/example/ratatoskr/ratatoskr/gmtp/Status"), accessFlags := 16409, slot := 6, constantValue := 0 }, { name := "ILLEGAL_PARAMETER", type := (.object "com/example/ratatoskr/ratatoskr/gmtp/Status"), accessFlags := 16409, slot := 7, constantValue := 0 }, { name := "TIME_OUT", type := (.object "com/example/ratatoskr/ratatoskr/gmtp/Status"), accessFlags := 16409, slot := 8, constantValue := 0 }, { name := "ILLEGAL_EXPRESSION", type := (.object "com/example/ratatoskr/ratatoskr/gmtp/Status"), accessFlags := 16409, slot := 9, constantValue := 0 }, { name := "INTERNAL_ERROR", type := (.object "com/example/ratatoskr/ratatoskr/gmtp/Status"), accessFlags := 16409, slot := 10, constantValue := 0 }, { name := "ALL", type := (.array (.object "com/example/ratatoskr/ratatoskr/gmtp/Status")), accessFlags := 26, slot := 11, constantValue := 0 }, { name := "code", type := .int, accessFlags := 18, slot := 3, constantValue := 0 }, { name := "text", type := (.object "java/lang/String"), accessFlags := 18, slot := 4, constantValue := 0 }, { name := "$VALUES", type := (.array (.object "com/example/ratatoskr/ratatoskr/gmtp/Status")), accessFlags := 4122, slot := 12, constantValue := 0 }]
  methods := #[k6m0]
  instanceTypes := #[(.object "java/lang/String"), .int, .int, .int, (.object "java/lang/String")]
  staticTypes := #[(.object "com/example/ratatoskr/ratatoskr/gmtp/Status"), (.object "com/example/ratatoskr/ratatoskr/gmtp/Status"), (.object "com/example/ratatoskr/ratatoskr/gmtp/Status"), (.object "com/example/ratatoskr/ratatoskr/gmtp/Status"), (.object "com/example/ratatoskr/ratatoskr/gmtp/Status"), (.object "com/example/ratatoskr/ratatoskr/gmtp/Status"), (.object "com/example/ratatoskr/ratatoskr/gmtp/Status"), (.object "com/example/ratatoskr/ratatoskr/gmtp/Status"), (.object "com/example/ratatoskr/ratatoskr/gmtp/Status"), (.object "com/example/ratatoskr/ratatoskr/gmtp/Status"), (.object "com/example/ratatoskr/ratatoskr/gmtp/Status"), (.array (.object "com/example/ratatoskr/ratatoskr/gmtp/Status")), (.array (.object "com/example/ratatoskr/ratatoskr/gmtp/Status"))]
  resolved := Array.replicate 124 none
  statics := some 0 }

def pool7 : Array CpInfo := pool [(1, u "java/lang/Cloneable"), (0, .class_ 1), (0, u "java/lang/Object"), (0, .class_ 3)] 3

/-- java/lang/Cloneable -/
def k7 : Class := { plain "java/lang/Cloneable" (some 0) with
  accessFlags := 1537
  interfaces := #[]
  cf := some (fileOf pool7 2 #[] #[] 1537 4 #[] #[])
  fields := #[]
  methods := #[]
  instanceTypes := #[]
  staticTypes := #[]
  resolved := Array.replicate 8 none
  statics := none }

/-- the primitive byte -/
def k8 : Class := { plain "byte" none with kind := .primitive 'B', accessFlags := 0x411 }
/-- [B -/
def k9 : Class := { plain "[B" (some 0) with kind := .array 8 .byte, interfaces := #[7, 4], accessFlags := 1041 }

/-- the primitive int -/
def k10 : Class := { plain "int" none with kind := .primitive 'I', accessFlags := 0x411 }
/-- [I -/
def k11 : Class := { plain "[I" (some 0) with kind := .array 10 .int, interfaces := #[7, 4], accessFlags := 1041 }

/-- [Lcom/example/ratatoskr/ratatoskr/gmtp/Status; -/
def k12 : Class := { plain "[Lcom/example/ratatoskr/ratatoskr/gmtp/Status;" (some 0) with kind := .array 6 (.object "com/example/ratatoskr/ratatoskr/gmtp/Status"), interfaces := #[7, 4], accessFlags := 1041 }

def heap : Heap := #[{ cls := 6, slots := #[.ref 2, .ref 3, .ref 4, .ref 5, .ref 6, .ref 7, .ref 8, .ref 9, .ref 10, .ref 11, .ref 12, .ref 1, .null], vm := .statics 6 },
  { cls := 12, slots := #[.ref 2, .ref 3, .ref 4, .ref 5, .ref 6, .ref 7, .ref 8, .ref 9, .ref 10, .ref 11, .ref 12], vm := .none },
  { cls := 6, slots := #[.null, .int 0, .int 0, .int 200, .null], vm := .none },
  { cls := 6, slots := #[.null, .int 0, .int 0, .int 210, .null], vm := .none },
  { cls := 6, slots := #[.null, .int 0, .int 0, .int 300, .null], vm := .none },
  { cls := 6, slots := #[.null, .int 0, .int 0, .int 310, .null], vm := .none },
  { cls := 6, slots := #[.null, .int 0, .int 0, .int 320, .null], vm := .none },
  { cls := 6, slots := #[.null, .int 0, .int 0, .int 400, .null], vm := .none },
  { cls := 6, slots := #[.null, .int 0, .int 0, .int 410, .null], vm := .none },
  { cls := 6, slots := #[.null, .int 0, .int 0, .int 420, .null], vm := .none },
  { cls := 6, slots := #[.null, .int 0, .int 0, .int 430, .null], vm := .none },
  { cls := 6, slots := #[.null, .int 0, .int 0, .int 440, .null], vm := .none },
  { cls := 6, slots := #[.null, .int 0, .int 0, .int 500, .null], vm := .none }]
def classes : Array Class := #[k0, k1, k2, k3, k4, k5, k6, k7, k8, k9, k10, k11, k12]
def interned : List (Array UInt16 × Addr) := []
def slotsUsed : Nat := 79
def theMethod : MethodId := ⟨1, 2⟩
def args0 : Array Value := #[.int 3, .int 4, .int 5]
def aboutOver (below : List Frame) : State where
  vm := { classes := classes, interned := interned.toArray }
  heap := heap
  slotsUsed := slotsUsed
  threads := #[{ frames := .invoking theMethod args0 :: below }]
def below0 : List Frame := [.native { method := ⟨0, 0⟩, args := #[] }]
def about1 : State := aboutOver below0
def p0 : Program := .bare "" "" ""
def e0 : Env := launch0.env 0 0 0
theorem w_frames : about1.frames = Frame.invoking theMethod args0 :: below0 := rfl
set_option maxRecDepth 65536 in
theorem w_args : argsFit about1.vm theMethod args0 = true := by decide +kernel
set_option maxRecDepth 65536 in
theorem w_heap : heapFits about1 = true := by decide +kernel
set_option maxRecDepth 65536 in
theorem w_runnable : about1.curStatus? = some .runnable := by decide +kernel
set_option maxRecDepth 65536 in
theorem w_alone : about1.alone = true := by decide +kernel
set_option maxRecDepth 65536 in
theorem w_named : about1.methodNamed? x = some theMethod := by decide +kernel
set_option maxRecDepth 65536 in
theorem w_hears : about1.hears theMethod below0 = true := by decide +kernel
set_option maxRecDepth 65536 in
theorem w_ripe : about1.ripe theMethod args0 below0 = true := by decide +kernel
theorem w_running : about1.status = .running := rfl
set_option maxRecDepth 65536 in
theorem w_room : about1.hasRoom e0.platform room_1 = true :=
  launch0.hasRoom_least _ room_1 (by decide +kernel) (by decide +kernel) (by decide +kernel) (by decide +kernel) (by decide +kernel) (by decide +kernel)
theorem allAtoms_all (ts : List Jvm.Cond) (a : Array Jvm.Value) (st : Jvm.State) : (allAtoms ts).before a st = ts.all (fun c => c.before a st) := by
  induction ts with
  | nil => rfl
  | cons c t ih =>
    show (Jvm.Cond.and c (allAtoms t)).before a st = _
    rw [Jvm.Cond.before_and, ih, List.all_cons]
def words1 : List Jvm.Cond := Jvm.Cond.code x code maxLocals ret :: tables_1
/-- a 'code' word, met by the world's own term for the bytes: nothing is compared byte by byte -/
theorem code_word {y : MethodName} {bytes : ByteArray} {mx : Nat} {rt : Option FieldType} {a : Array Value} {s : State} {m : MethodId} {meth : Method} {c : Code} (h1 : s.methodNamed? y = some m) (h2 : s.vm.method? m = some meth) (h3 : meth.code = some c) (h4 : c.code = bytes)
    (h5 : (c.maxLocals == mx && c.exceptionTable.isEmpty && decide (c.maxStack ≤ mostOperands) && decide (meth.sig.returnType = rt) && !meth.locks && decide (parseMethodDescriptor y.desc = some meth.sig)) = true) : (Jvm.Cond.code y bytes mx rt).before a s = true := by
  simp only [Bool.and_eq_true, beq_iff_eq, Bool.not_eq_true', decide_eq_true_eq] at h5
  obtain ⟨⟨⟨⟨⟨g1, g2⟩, g3⟩, g4⟩, g5⟩, g6⟩ := h5
  simp [Cond.before, Cond.holds, Cond.value, h1, h2, h3, h4, g1, g2, g3, g4, g5, g6]
def isCode : Jvm.Cond → Bool
  | .code _ _ _ _ => true
  | _ => false
theorem all_split {L : List Jvm.Cond} {P : Jvm.Cond → Bool} (h1 : L.all (fun c => isCode c || P c) = true) (h2 : ∀ c ∈ L.filter isCode, P c = true) : L.all P = true := by
  refine List.all_eq_true.mpr fun c hc => ?_
  have h := List.all_eq_true.mp h1 c hc
  rcases Bool.eq_false_or_eq_true (isCode c) with hi | hi
  · exact h2 c (List.mem_filter.mpr ⟨hc, hi⟩)
  · simpa [hi] using h
set_option maxRecDepth 65536 in
theorem w_c0 : (Jvm.Cond.code x code maxLocals ret).before args0 about1 = true := code_word (m := ⟨1, 2⟩) (meth := k1m2) (c := k1c2) (by decide +kernel) rfl rfl rfl (by decide +kernel)
set_option maxRecDepth 65536 in
theorem w_c1 : (Jvm.Cond.code ({ cls := "com/example/ratatoskr/ratatoskr/gmtp/Status", name := "of", desc := "(I)Lcom/example/ratatoskr/ratatoskr/gmtp/Status;" } : Jvm.MethodName) prog_23_method_4_code (5 : Nat) (Option.some (Jvm.ClassFile.FieldType.object "com/example/ratatoskr/ratatoskr/gmtp/Status"))).before args0 about1 = true := code_word (m := ⟨6, 0⟩) (meth := k6m0) (c := k6c0) (by decide +kernel) rfl rfl rfl (by decide +kernel)
set_option maxRecDepth 65536 in
theorem w_c2 : (Jvm.Cond.code ({ cls := "com/example/ratatoskr/ratatoskr/gmtp/StatusOfPinLaw", name := "expected", desc := "(I)Lcom/example/ratatoskr/ratatoskr/gmtp/Status;" } : Jvm.MethodName) method_2_code (1 : Nat) (Option.some (Jvm.ClassFile.FieldType.object "com/example/ratatoskr/ratatoskr/gmtp/Status"))).before args0 about1 = true := code_word (m := ⟨1, 1⟩) (meth := k1m1) (c := k1c1) (by decide +kernel) rfl rfl rfl (by decide +kernel)
def codes1 : List Jvm.Cond := [Jvm.Cond.code x code maxLocals ret, Jvm.Cond.code ({ cls := "com/example/ratatoskr/ratatoskr/gmtp/Status", name := "of", desc := "(I)Lcom/example/ratatoskr/ratatoskr/gmtp/Status;" } : Jvm.MethodName) prog_23_method_4_code (5 : Nat) (Option.some (Jvm.ClassFile.FieldType.object "com/example/ratatoskr/ratatoskr/gmtp/Status")), Jvm.Cond.code ({ cls := "com/example/ratatoskr/ratatoskr/gmtp/StatusOfPinLaw", name := "expected", desc := "(I)Lcom/example/ratatoskr/ratatoskr/gmtp/Status;" } : Jvm.MethodName) method_2_code (1 : Nat) (Option.some (Jvm.ClassFile.FieldType.object "com/example/ratatoskr/ratatoskr/gmtp/Status"))]
set_option maxRecDepth 65536 in
theorem codes_eq : words1.filter isCode = codes1 := rfl
theorem w_codes : ∀ c ∈ words1.filter isCode, c.before args0 about1 = true := by
  rw [codes_eq]
  intro c hc
  simp only [codes1, List.mem_cons, List.not_mem_nil, or_false] at hc
  rcases hc with rfl | rfl | rfl
  · exact w_c0
  · exact w_c1
  · exact w_c2
set_option maxRecDepth 65536 in
theorem w_t1 : (words1.take 24).all (fun c => isCode c || c.before args0 about1) = true := by decide +kernel
set_option maxRecDepth 65536 in
theorem w_t2 : (words1.drop 24).all (fun c => isCode c || c.before args0 about1) = true := by decide +kernel
theorem w_tables : (allAtoms (Jvm.Cond.code x code maxLocals ret :: tables_1)).before args0 about1 = true := by
  rw [allAtoms_all]
  show words1.all (fun c => c.before args0 about1) = true
  refine all_split ?_ w_codes
  rw [← List.take_append_drop 24 words1, List.all_append, w_t1, w_t2]
  rfl
set_option maxRecDepth 65536 in
theorem w_case : (Jvm.Cond.and given_1 narrow_1).before args0 about1 = true := by decide +kernel
theorem w_applies : (headSpec (Jvm.Cond.code x code maxLocals ret :: tables_1) room_1).applies x e0.platform about1 = true :=
  (Spec.applies_iff w_frames).mpr ⟨w_running, w_runnable, w_alone, w_named, w_hears, w_ripe, w_room, w_tables⟩
theorem atStart : AtStart classFile x code maxLocals ret World_1 tables_1 room_1 Calls_1 rest_1 Pre_1 launch0 p0 e0 about1 theMethod args0 below0 :=
  ⟨lists_1, trivial, launch0.admits_env _ _ _, launch0.least_env, fairChoices_fair.cas, fairChoices_fair.clock, w_frames, w_args, w_heap, w_applies, trivial, trivial, w_case⟩
end start1
theorem witness_1 : WitnessClaimed_1 := ⟨start1.p0, start1.e0, start1.about1, start1.theMethod, start1.args0, start1.below0, start1.atStart⟩
end Jvm.Pilot.@@N@@
