import JvmDerived
import JvmDerived.Pilot.@@N@@Statement
import JvmDerived.Pilot.@@N@@Code
set_option linter.unusedVariables false
set_option linter.unusedSimpArgs false
namespace Jvm.Pilot.@@N@@
open Jvm Jvm.ClassFile Sem Op Lib Jvm.Free Jvm.Stand Jvm.LawKit Jvm.RoadKit Bundle Jvm.Pilot.@@N@@.Jvm.D
section OwnGo
variable {p : Program} {l : Launch} {e : Env} {R : Room} {s : State} {m : MethodId} {args : Array Value} {below : List Frame} {meth : Method} {c : Code} {Z : State} {n0 kc ks : Nat} {Q : Option Value → Heap → Prop} {y : MethodName} {bytes : ByteArray} {maxL : Nat} {ret : Option FieldType} {h h' : Heap} {cs sl : Nat} {pc pc' : Nat} {Ls Ls' : Array Slot} {st : List Value} {a0 : Array Value}
def Ctx (p : Program) (s : State) (m : MethodId) (meth : Method) (c : Code) (Z : State) (y : MethodName) (bytes : ByteArray) (maxL : Nat) (ret : Option FieldType) : Prop :=
  p.tables.exec = Jvm.exec ∧ c.code = bytes ∧ c.maxLocals = maxL ∧ meth.sig.returnType = ret ∧ meth.locks = false ∧ Z.Warmed39 s.vm ∧ s.vm.findClass y.cls = some m.cls ∧ meth.name = y.name
def Go (p : Program) (l : Launch) (e : Env) (R : Room) (s : State) (m : MethodId) (args : Array Value) (below : List Frame) (meth : Method) (c : Code) (Z : State) (n0 : Nat) (Q : Option Value → Heap → Prop) (kc ks : Nat) (h : Heap) (cs sl : Nat) (g : JFrame) : Prop :=
  ∀ (T : State) (L : List Loc), Fr n0 L → Old Z n0 h → Stand p l e R s m args below meth c T L cs sl → T.heap = h →
    ∃ (U : State) (v : Option Value) (L' : List Loc), Steps p.tables e below (T.setTop g) U ∧ U.status = .running ∧ Ended U below (.returned v) ∧ Fr n0 L' ∧ Old Z n0 U.heap ∧ s.WarmedH U.vm ∧ s.sameButNew ({ U with vm := s.vm } : State) L' kc ks ∧ Q v U.heap
def Met (l : Launch) (Z : State) (n0 : Nat) (y : MethodName) (bytes : ByteArray) (maxL : Nat) (ret : Option FieldType) (ws : List Jvm.Cond) (rm : Room) (as : Array Value) (h : Heap) (Q : Option Value → Heap → Prop) : Prop :=
  MetFree l y (head1 (Jvm.Cond.code y bytes maxL ret :: ws) rm) (fun a U => a = as ∧ Z.Warmed39 U.vm ∧ U.heap = h) (fun _ _ _ _ _ => True) (fun _ U o U' => ∃ v L, o = .returned v ∧ (Fr n0 L ∧ Old Z n0 U'.heap ∧ Q v U'.heap) ∧ FrameEnd U o U' L rm.cells rm.slots)
theorem met_of {ws : List Jvm.Cond} {rm : Room} {as : Array Value} (hpl : plainFor y = true) (hef : ∀ m, entryFrame m as maxL = mkF m 0 Ls []) (O : Old Z n0 h)
    (body : ∀ p e s m below meth c, Ctx p s m meth c Z y bytes maxL ret → Go p l e rm s m as below meth c Z n0 Q rm.cells rm.slots h 0 0 (mkF m 0 Ls [])) : Met l Z n0 y bytes maxL ret ws rm as h Q := by
  refine MetFree.of_bodySF hpl hisR ?_
  intro p e s m args below meth c s₁ Bd hml hP hK
  obtain ⟨rfl, hZ, hh⟩ := hP
  have X0 := Stand.of_body Bd
  obtain ⟨U, v, L', h1, h2, h3, h4, h5, h6, h7, h8⟩ := body p e s m below meth c ⟨Bd.exec, Bd.bytes, hml, Bd.returns, Bd.notSynchronized, hZ, findClass_of_methodNamed Bd.named, (name_of_methodNamed Bd.named Bd.method).1⟩ s₁ [] (Fr.nil n0) O X0 (by rw [← hh, Bd.state]; rfl)
  exact ⟨U, _, castTop (hef m) h1, h2, h3, v, L', rfl, ⟨h4, h5, h8⟩, ⟨_, rfl⟩, h6, h7⟩
theorem Met.mono {ws : List Jvm.Cond} {rm : Room} {as : Array Value} {Q' : Option Value → Heap → Prop} (M : Met l Z n0 y bytes maxL ret ws rm as h Q) (q : ∀ v h', Q v h' → Q' v h') : Met l Z n0 y bytes maxL ret ws rm as h Q' := by
  unfold Met at M ⊢
  refine MetFree.mono M (fun _ _ h => h) (fun _ _ _ _ _ h => h) ?_
  rintro _ _ _ _ _ ⟨v, L, h1, ⟨h2, h3, h4⟩, h5⟩
  exact ⟨v, L, h1, ⟨h2, h3, q _ _ h4⟩, h5⟩
theorem go_step {g g' : JFrame} (K : Go p l e R s m args below meth c Z n0 Q kc ks h cs sl g') (hs : ∀ T t, At T m c below → Steps p.tables e below (T.setTop g') t → Steps p.tables e below (T.setTop g) t) : Go p l e R s m args below meth c Z n0 Q kc ks h cs sl g := fun T L hL O X eT => by
  obtain ⟨U, v, L', h1, r⟩ := K T L hL O X eT
  exact ⟨U, v, L', hs T U X.here h1, r⟩
theorem go_stepX {g g' : JFrame} (K : Go p l e R s m args below meth c Z n0 Q kc ks h cs sl g') (hs : ∀ T t L, Stand p l e R s m args below meth c T L cs sl → T.heap = h → Steps p.tables e below (T.setTop g') t → Steps p.tables e below (T.setTop g) t) : Go p l e R s m args below meth c Z n0 Q kc ks h cs sl g := fun T L hL O X eT => by
  obtain ⟨U, v, L', h1, r⟩ := K T L hL O X eT
  exact ⟨U, v, L', hs T U L X eT h1, r⟩
theorem go_stepT {g g' : JFrame} (K : Go p l e R s m args below meth c Z n0 Q kc ks h cs sl g') (hs : ∀ T L, Stand p l e R s m args below meth c T L cs sl → T.heap = h → ∃ T', Stand p l e R s m args below meth c T' L cs sl ∧ T'.heap = h ∧ ∀ t, Steps p.tables e below (T'.setTop g') t → Steps p.tables e below (T.setTop g) t) : Go p l e R s m args below meth c Z n0 Q kc ks h cs sl g := fun T L hL O X eT => by
  obtain ⟨T', X', e', hs'⟩ := hs T L X eT
  obtain ⟨U, v, L', h1, r⟩ := K T' L hL O X' e'
  exact ⟨U, v, L', hs' U h1, r⟩
theorem go_old {g : JFrame} (K : Old Z n0 h → Go p l e R s m args below meth c Z n0 Q kc ks h cs sl g) : Go p l e R s m args below meth c Z n0 Q kc ks h cs sl g := fun T L hL O => K O T L hL O
theorem go_more {g : JFrame} {cs' sl' : Nat} (hc : cs ≤ cs') (hs : sl ≤ sl') (K : Go p l e R s m args below meth c Z n0 Q kc ks h cs' sl' g) : Go p l e R s m args below meth c Z n0 Q kc ks h cs sl g := fun T L hL O X eT => K T L hL O (X.more hc hs) eT
theorem go_st {st' : List Value} (e0 : st = st') (K : Go p l e R s m args below meth c Z n0 Q kc ks h cs sl (mkF m pc Ls st')) : Go p l e R s m args below meth c Z n0 Q kc ks h cs sl (mkF m pc Ls st) := e0 ▸ K
theorem go_ls (e0 : Ls = Ls') (K : Go p l e R s m args below meth c Z n0 Q kc ks h cs sl (mkF m pc Ls' st)) : Go p l e R s m args below meth c Z n0 Q kc ks h cs sl (mkF m pc Ls st) := e0 ▸ K
theorem go_h {h' : Heap} {g : JFrame} (e0 : h = h') (K : Go p l e R s m args below meth c Z n0 Q kc ks h' cs sl g) : Go p l e R s m args below meth c Z n0 Q kc ks h cs sl g := e0 ▸ K
theorem go_iload (C : Ctx p s m meth c Z y bytes maxL ret) {k : Nat} {x : Int32} (hd : decode bytes pc = .ok (.iload k, 2)) (hl : Ls[k]? = some (.val (.int x))) (hp : pc + 2 = pc') (K : Go p l e R s m args below meth c Z n0 Q kc ks h cs sl (mkF m pc' Ls (.int x :: st))) : Go p l e R s m args below meth c Z n0 Q kc ks h cs sl (mkF m pc Ls (st)) := by
  subst hp
  exact go_step K fun T t a k => XS.iload a C.1 rfl (hb C.2.1 hd) hl k
theorem go_iloadN (C : Ctx p s m meth c Z y bytes maxL ret) {k : Fin 4} {x : Int32} (hd : decode bytes pc = .ok (.iload_n k, 1)) (hl : Ls[k.val]? = some (.val (.int x))) (hp : pc + 1 = pc') (K : Go p l e R s m args below meth c Z n0 Q kc ks h cs sl (mkF m pc' Ls (.int x :: st))) : Go p l e R s m args below meth c Z n0 Q kc ks h cs sl (mkF m pc Ls (st)) := by
  subst hp
  exact go_step K fun T t a k => XS.iloadN a C.1 rfl (hb C.2.1 hd) hl k
theorem go_lload (C : Ctx p s m meth c Z y bytes maxL ret) {k : Nat} {x : Int64} (hd : decode bytes pc = .ok (.lload k, 2)) (hl : Ls[k]? = some (.val (.long x))) (hp : pc + 2 = pc') (K : Go p l e R s m args below meth c Z n0 Q kc ks h cs sl (mkF m pc' Ls (.long x :: st))) : Go p l e R s m args below meth c Z n0 Q kc ks h cs sl (mkF m pc Ls (st)) := by
  subst hp
  exact go_step K fun T t a k => XS.lload a C.1 rfl (hb C.2.1 hd) hl k
theorem go_lloadN (C : Ctx p s m meth c Z y bytes maxL ret) {k : Fin 4} {x : Int64} (hd : decode bytes pc = .ok (.lload_n k, 1)) (hl : Ls[k.val]? = some (.val (.long x))) (hp : pc + 1 = pc') (K : Go p l e R s m args below meth c Z n0 Q kc ks h cs sl (mkF m pc' Ls (.long x :: st))) : Go p l e R s m args below meth c Z n0 Q kc ks h cs sl (mkF m pc Ls (st)) := by
  subst hp
  exact go_step K fun T t a k => XS.lloadN a C.1 rfl (hb C.2.1 hd) hl k
theorem go_aload (C : Ctx p s m meth c Z y bytes maxL ret) {k : Nat} {v : Value} (hd : decode bytes pc = .ok (.aload k, 2)) (hl : Ls[k]? = some (.val v)) (hv : v.isRef = true) (hp : pc + 2 = pc') (K : Go p l e R s m args below meth c Z n0 Q kc ks h cs sl (mkF m pc' Ls (v :: st))) : Go p l e R s m args below meth c Z n0 Q kc ks h cs sl (mkF m pc Ls (st)) := by
  subst hp
  exact go_step K fun T t a k => XS.aload a C.1 rfl (hb C.2.1 hd) hl hv k
theorem go_aloadN (C : Ctx p s m meth c Z y bytes maxL ret) {k : Fin 4} {v : Value} (hd : decode bytes pc = .ok (.aload_n k, 1)) (hl : Ls[k.val]? = some (.val v)) (hv : v.isRef = true) (hp : pc + 1 = pc') (K : Go p l e R s m args below meth c Z n0 Q kc ks h cs sl (mkF m pc' Ls (v :: st))) : Go p l e R s m args below meth c Z n0 Q kc ks h cs sl (mkF m pc Ls (st)) := by
  subst hp
  exact go_step K fun T t a k => XS.aloadN a C.1 rfl (hb C.2.1 hd) hl hv k
theorem go_istore (C : Ctx p s m meth c Z y bytes maxL ret) {k : Nat} {x : Int32} (hd : decode bytes pc = .ok (.istore k, 2)) (hl : storeLocals Ls k (.int x) = some Ls') (hp : pc + 2 = pc') (K : Go p l e R s m args below meth c Z n0 Q kc ks h cs sl (mkF m pc' Ls' (st))) : Go p l e R s m args below meth c Z n0 Q kc ks h cs sl (mkF m pc Ls (.int x :: st)) := by
  subst hp
  exact go_step K fun T t a k => XS.istore a C.1 rfl (hb C.2.1 hd) rfl hl k
theorem go_istoreN (C : Ctx p s m meth c Z y bytes maxL ret) {k : Fin 4} {x : Int32} (hd : decode bytes pc = .ok (.istore_n k, 1)) (hl : storeLocals Ls k.val (.int x) = some Ls') (hp : pc + 1 = pc') (K : Go p l e R s m args below meth c Z n0 Q kc ks h cs sl (mkF m pc' Ls' (st))) : Go p l e R s m args below meth c Z n0 Q kc ks h cs sl (mkF m pc Ls (.int x :: st)) := by
  subst hp
  exact go_step K fun T t a k => XS.istoreN a C.1 rfl (hb C.2.1 hd) rfl hl k
theorem go_lstore (C : Ctx p s m meth c Z y bytes maxL ret) {k : Nat} {x : Int64} (hd : decode bytes pc = .ok (.lstore k, 2)) (hl : storeLocals Ls k (.long x) = some Ls') (hp : pc + 2 = pc') (K : Go p l e R s m args below meth c Z n0 Q kc ks h cs sl (mkF m pc' Ls' (st))) : Go p l e R s m args below meth c Z n0 Q kc ks h cs sl (mkF m pc Ls (.long x :: st)) := by
  subst hp
  exact go_step K fun T t a k => XS.lstore a C.1 rfl (hb C.2.1 hd) rfl hl k
theorem go_lstoreN (C : Ctx p s m meth c Z y bytes maxL ret) {k : Fin 4} {x : Int64} (hd : decode bytes pc = .ok (.lstore_n k, 1)) (hl : storeLocals Ls k.val (.long x) = some Ls') (hp : pc + 1 = pc') (K : Go p l e R s m args below meth c Z n0 Q kc ks h cs sl (mkF m pc' Ls' (st))) : Go p l e R s m args below meth c Z n0 Q kc ks h cs sl (mkF m pc Ls (.long x :: st)) := by
  subst hp
  exact go_step K fun T t a k => XS.lstoreN a C.1 rfl (hb C.2.1 hd) rfl hl k
theorem go_astore (C : Ctx p s m meth c Z y bytes maxL ret) {k : Nat} {v : Value} (hd : decode bytes pc = .ok (.astore k, 2)) (hv : v.isRef = true) (hl : storeLocals Ls k v = some Ls') (hp : pc + 2 = pc') (K : Go p l e R s m args below meth c Z n0 Q kc ks h cs sl (mkF m pc' Ls' (st))) : Go p l e R s m args below meth c Z n0 Q kc ks h cs sl (mkF m pc Ls (v :: st)) := by
  subst hp
  exact go_step K fun T t a k => XS.astore a C.1 rfl (hb C.2.1 hd) rfl hv hl k
theorem go_astoreN (C : Ctx p s m meth c Z y bytes maxL ret) {k : Fin 4} {v : Value} (hd : decode bytes pc = .ok (.astore_n k, 1)) (hv : v.isRef = true) (hl : storeLocals Ls k.val v = some Ls') (hp : pc + 1 = pc') (K : Go p l e R s m args below meth c Z n0 Q kc ks h cs sl (mkF m pc' Ls' (st))) : Go p l e R s m args below meth c Z n0 Q kc ks h cs sl (mkF m pc Ls (v :: st)) := by
  subst hp
  exact go_step K fun T t a k => XS.astoreN a C.1 rfl (hb C.2.1 hd) rfl hv hl k
theorem go_iinc (C : Ctx p s m meth c Z y bytes maxL ret) {k : Nat} {cst : Int} {x : Int32} (hd : decode bytes pc = .ok (.iinc k cst, 3)) (hl : Ls[k]? = some (.val (.int x))) (hl' : storeLocals Ls k (.int (x + Int32.ofInt cst)) = some Ls') (hp : pc + 3 = pc') (K : Go p l e R s m args below meth c Z n0 Q kc ks h cs sl (mkF m pc' Ls' (st))) : Go p l e R s m args below meth c Z n0 Q kc ks h cs sl (mkF m pc Ls (st)) := by
  subst hp
  exact go_step K fun T t a k => XS.iinc a C.1 rfl (hb C.2.1 hd) hl hl' k
theorem go_iconst (C : Ctx p s m meth c Z y bytes maxL ret) {i : Int} {z : Int32} (hd : decode bytes pc = .ok (.iconst i, 1)) (hz : Int32.ofInt i = z) (hp : pc + 1 = pc') (K : Go p l e R s m args below meth c Z n0 Q kc ks h cs sl (mkF m pc' Ls (.int z :: st))) : Go p l e R s m args below meth c Z n0 Q kc ks h cs sl (mkF m pc Ls (st)) := by
  subst hp hz
  exact go_step K fun T t a k => XS.iconst a C.1 rfl (hb C.2.1 hd) k
theorem go_bipush (C : Ctx p s m meth c Z y bytes maxL ret) {i : Int} {z : Int32} (hd : decode bytes pc = .ok (.bipush i, 2)) (hz : (Int8.ofInt i).toInt32 = z) (hp : pc + 2 = pc') (K : Go p l e R s m args below meth c Z n0 Q kc ks h cs sl (mkF m pc' Ls (.int z :: st))) : Go p l e R s m args below meth c Z n0 Q kc ks h cs sl (mkF m pc Ls (st)) := by
  subst hp hz
  exact go_step K fun T t a k => XS.bipush a C.1 rfl (hb C.2.1 hd) k
theorem go_sipush (C : Ctx p s m meth c Z y bytes maxL ret) {i : Int} {z : Int32} (hd : decode bytes pc = .ok (.sipush i, 3)) (hz : (Int16.ofInt i).toInt32 = z) (hp : pc + 3 = pc') (K : Go p l e R s m args below meth c Z n0 Q kc ks h cs sl (mkF m pc' Ls (.int z :: st))) : Go p l e R s m args below meth c Z n0 Q kc ks h cs sl (mkF m pc Ls (st)) := by
  subst hp hz
  exact go_step K fun T t a k => XS.sipush a C.1 rfl (hb C.2.1 hd) k
theorem go_lconst (C : Ctx p s m meth c Z y bytes maxL ret) {k : Fin 2} {z : Int64} (hd : decode bytes pc = .ok (.lconst k, 1)) (hz : Int64.ofNat k = z) (hp : pc + 1 = pc') (K : Go p l e R s m args below meth c Z n0 Q kc ks h cs sl (mkF m pc' Ls (.long z :: st))) : Go p l e R s m args below meth c Z n0 Q kc ks h cs sl (mkF m pc Ls (st)) := by
  subst hp hz
  exact go_step K fun T t a k => XS.lconst a C.1 rfl (hb C.2.1 hd) k
theorem go_aconstNull (C : Ctx p s m meth c Z y bytes maxL ret)  (hd : decode bytes pc = .ok (.aconst_null, 1))  (hp : pc + 1 = pc') (K : Go p l e R s m args below meth c Z n0 Q kc ks h cs sl (mkF m pc' Ls (.null :: st))) : Go p l e R s m args below meth c Z n0 Q kc ks h cs sl (mkF m pc Ls (st)) := by
  subst hp
  exact go_step K fun T t a k => XS.aconstNull a C.1 rfl (hb C.2.1 hd) k
theorem go_iadd (C : Ctx p s m meth c Z y bytes maxL ret) {x y : Int32} (hd : decode bytes pc = .ok (.iadd, 1))  (hp : pc + 1 = pc') (K : Go p l e R s m args below meth c Z n0 Q kc ks h cs sl (mkF m pc' Ls (.int (x + y) :: st))) : Go p l e R s m args below meth c Z n0 Q kc ks h cs sl (mkF m pc Ls (.int y :: .int x :: st)) := by
  subst hp
  exact go_step K fun T t a k => XS.iadd a C.1 rfl (hb C.2.1 hd) rfl k
theorem go_ladd (C : Ctx p s m meth c Z y bytes maxL ret) {x y : Int64} (hd : decode bytes pc = .ok (.ladd, 1))  (hp : pc + 1 = pc') (K : Go p l e R s m args below meth c Z n0 Q kc ks h cs sl (mkF m pc' Ls (.long (x + y) :: st))) : Go p l e R s m args below meth c Z n0 Q kc ks h cs sl (mkF m pc Ls (.long y :: .long x :: st)) := by
  subst hp
  exact go_step K fun T t a k => XS.ladd a C.1 rfl (hb C.2.1 hd) rfl k
theorem go_isub (C : Ctx p s m meth c Z y bytes maxL ret) {x y : Int32} (hd : decode bytes pc = .ok (.isub, 1))  (hp : pc + 1 = pc') (K : Go p l e R s m args below meth c Z n0 Q kc ks h cs sl (mkF m pc' Ls (.int (x - y) :: st))) : Go p l e R s m args below meth c Z n0 Q kc ks h cs sl (mkF m pc Ls (.int y :: .int x :: st)) := by
  subst hp
  exact go_step K fun T t a k => XS.isub a C.1 rfl (hb C.2.1 hd) rfl k
theorem go_lsub (C : Ctx p s m meth c Z y bytes maxL ret) {x y : Int64} (hd : decode bytes pc = .ok (.lsub, 1))  (hp : pc + 1 = pc') (K : Go p l e R s m args below meth c Z n0 Q kc ks h cs sl (mkF m pc' Ls (.long (x - y) :: st))) : Go p l e R s m args below meth c Z n0 Q kc ks h cs sl (mkF m pc Ls (.long y :: .long x :: st)) := by
  subst hp
  exact go_step K fun T t a k => XS.lsub a C.1 rfl (hb C.2.1 hd) rfl k
theorem go_imul (C : Ctx p s m meth c Z y bytes maxL ret) {x y : Int32} (hd : decode bytes pc = .ok (.imul, 1))  (hp : pc + 1 = pc') (K : Go p l e R s m args below meth c Z n0 Q kc ks h cs sl (mkF m pc' Ls (.int (x * y) :: st))) : Go p l e R s m args below meth c Z n0 Q kc ks h cs sl (mkF m pc Ls (.int y :: .int x :: st)) := by
  subst hp
  exact go_step K fun T t a k => XS.imul a C.1 rfl (hb C.2.1 hd) rfl k
theorem go_lmul (C : Ctx p s m meth c Z y bytes maxL ret) {x y : Int64} (hd : decode bytes pc = .ok (.lmul, 1))  (hp : pc + 1 = pc') (K : Go p l e R s m args below meth c Z n0 Q kc ks h cs sl (mkF m pc' Ls (.long (x * y) :: st))) : Go p l e R s m args below meth c Z n0 Q kc ks h cs sl (mkF m pc Ls (.long y :: .long x :: st)) := by
  subst hp
  exact go_step K fun T t a k => XS.lmul a C.1 rfl (hb C.2.1 hd) rfl k
theorem go_iand (C : Ctx p s m meth c Z y bytes maxL ret) {x y : Int32} (hd : decode bytes pc = .ok (.iand, 1))  (hp : pc + 1 = pc') (K : Go p l e R s m args below meth c Z n0 Q kc ks h cs sl (mkF m pc' Ls (.int (x &&& y) :: st))) : Go p l e R s m args below meth c Z n0 Q kc ks h cs sl (mkF m pc Ls (.int y :: .int x :: st)) := by
  subst hp
  exact go_step K fun T t a k => XS.iand a C.1 rfl (hb C.2.1 hd) rfl k
theorem go_land (C : Ctx p s m meth c Z y bytes maxL ret) {x y : Int64} (hd : decode bytes pc = .ok (.land, 1))  (hp : pc + 1 = pc') (K : Go p l e R s m args below meth c Z n0 Q kc ks h cs sl (mkF m pc' Ls (.long (x &&& y) :: st))) : Go p l e R s m args below meth c Z n0 Q kc ks h cs sl (mkF m pc Ls (.long y :: .long x :: st)) := by
  subst hp
  exact go_step K fun T t a k => XS.land a C.1 rfl (hb C.2.1 hd) rfl k
theorem go_ior (C : Ctx p s m meth c Z y bytes maxL ret) {x y : Int32} (hd : decode bytes pc = .ok (.ior, 1))  (hp : pc + 1 = pc') (K : Go p l e R s m args below meth c Z n0 Q kc ks h cs sl (mkF m pc' Ls (.int (x ||| y) :: st))) : Go p l e R s m args below meth c Z n0 Q kc ks h cs sl (mkF m pc Ls (.int y :: .int x :: st)) := by
  subst hp
  exact go_step K fun T t a k => XS.ior a C.1 rfl (hb C.2.1 hd) rfl k
theorem go_lor (C : Ctx p s m meth c Z y bytes maxL ret) {x y : Int64} (hd : decode bytes pc = .ok (.lor, 1))  (hp : pc + 1 = pc') (K : Go p l e R s m args below meth c Z n0 Q kc ks h cs sl (mkF m pc' Ls (.long (x ||| y) :: st))) : Go p l e R s m args below meth c Z n0 Q kc ks h cs sl (mkF m pc Ls (.long y :: .long x :: st)) := by
  subst hp
  exact go_step K fun T t a k => XS.lor a C.1 rfl (hb C.2.1 hd) rfl k
theorem go_ixor (C : Ctx p s m meth c Z y bytes maxL ret) {x y : Int32} (hd : decode bytes pc = .ok (.ixor, 1))  (hp : pc + 1 = pc') (K : Go p l e R s m args below meth c Z n0 Q kc ks h cs sl (mkF m pc' Ls (.int (x ^^^ y) :: st))) : Go p l e R s m args below meth c Z n0 Q kc ks h cs sl (mkF m pc Ls (.int y :: .int x :: st)) := by
  subst hp
  exact go_step K fun T t a k => XS.ixor a C.1 rfl (hb C.2.1 hd) rfl k
theorem go_lxor (C : Ctx p s m meth c Z y bytes maxL ret) {x y : Int64} (hd : decode bytes pc = .ok (.lxor, 1))  (hp : pc + 1 = pc') (K : Go p l e R s m args below meth c Z n0 Q kc ks h cs sl (mkF m pc' Ls (.long (x ^^^ y) :: st))) : Go p l e R s m args below meth c Z n0 Q kc ks h cs sl (mkF m pc Ls (.long y :: .long x :: st)) := by
  subst hp
  exact go_step K fun T t a k => XS.lxor a C.1 rfl (hb C.2.1 hd) rfl k
theorem go_ishl (C : Ctx p s m meth c Z y bytes maxL ret) {x y : Int32} (hd : decode bytes pc = .ok (.ishl, 1))  (hp : pc + 1 = pc') (K : Go p l e R s m args below meth c Z n0 Q kc ks h cs sl (mkF m pc' Ls (.int (x <<< (y &&& 31)) :: st))) : Go p l e R s m args below meth c Z n0 Q kc ks h cs sl (mkF m pc Ls (.int y :: .int x :: st)) := by
  subst hp
  exact go_step K fun T t a k => XS.ishl a C.1 rfl (hb C.2.1 hd) rfl k
theorem go_ishr (C : Ctx p s m meth c Z y bytes maxL ret) {x y : Int32} (hd : decode bytes pc = .ok (.ishr, 1))  (hp : pc + 1 = pc') (K : Go p l e R s m args below meth c Z n0 Q kc ks h cs sl (mkF m pc' Ls (.int (x >>> (y &&& 31)) :: st))) : Go p l e R s m args below meth c Z n0 Q kc ks h cs sl (mkF m pc Ls (.int y :: .int x :: st)) := by
  subst hp
  exact go_step K fun T t a k => XS.ishr a C.1 rfl (hb C.2.1 hd) rfl k
theorem go_iushr (C : Ctx p s m meth c Z y bytes maxL ret) {x y : Int32} (hd : decode bytes pc = .ok (.iushr, 1))  (hp : pc + 1 = pc') (K : Go p l e R s m args below meth c Z n0 Q kc ks h cs sl (mkF m pc' Ls (.int ((x.toUInt32 >>> (y &&& 31).toUInt32).toInt32) :: st))) : Go p l e R s m args below meth c Z n0 Q kc ks h cs sl (mkF m pc Ls (.int y :: .int x :: st)) := by
  subst hp
  exact go_step K fun T t a k => XS.iushr a C.1 rfl (hb C.2.1 hd) rfl k
theorem go_lshl (C : Ctx p s m meth c Z y bytes maxL ret) {x : Int64} {y' : Int32} (hd : decode bytes pc = .ok (.lshl, 1))  (hp : pc + 1 = pc') (K : Go p l e R s m args below meth c Z n0 Q kc ks h cs sl (mkF m pc' Ls (.long (x <<< (y' &&& 0x3f).toInt64) :: st))) : Go p l e R s m args below meth c Z n0 Q kc ks h cs sl (mkF m pc Ls (.int y' :: .long x :: st)) := by
  subst hp
  exact go_step K fun T t a k => XS.lshl a C.1 rfl (hb C.2.1 hd) rfl k
theorem go_lshr (C : Ctx p s m meth c Z y bytes maxL ret) {x : Int64} {y' : Int32} (hd : decode bytes pc = .ok (.lshr, 1))  (hp : pc + 1 = pc') (K : Go p l e R s m args below meth c Z n0 Q kc ks h cs sl (mkF m pc' Ls (.long (x >>> (y' &&& 0x3f).toInt64) :: st))) : Go p l e R s m args below meth c Z n0 Q kc ks h cs sl (mkF m pc Ls (.int y' :: .long x :: st)) := by
  subst hp
  exact go_step K fun T t a k => XS.lshr a C.1 rfl (hb C.2.1 hd) rfl k
theorem go_lushr (C : Ctx p s m meth c Z y bytes maxL ret) {x : Int64} {y' : Int32} (hd : decode bytes pc = .ok (.lushr, 1))  (hp : pc + 1 = pc') (K : Go p l e R s m args below meth c Z n0 Q kc ks h cs sl (mkF m pc' Ls (.long ((x.toUInt64 >>> (y' &&& 0x3f).toInt64.toUInt64).toInt64) :: st))) : Go p l e R s m args below meth c Z n0 Q kc ks h cs sl (mkF m pc Ls (.int y' :: .long x :: st)) := by
  subst hp
  exact go_step K fun T t a k => XS.lushr a C.1 rfl (hb C.2.1 hd) rfl k
theorem go_lcmp (C : Ctx p s m meth c Z y bytes maxL ret) {x y' : Int64} (hd : decode bytes pc = .ok (.lcmp, 1))  (hp : pc + 1 = pc') (K : Go p l e R s m args below meth c Z n0 Q kc ks h cs sl (mkF m pc' Ls (.int (lcmpW x y') :: st))) : Go p l e R s m args below meth c Z n0 Q kc ks h cs sl (mkF m pc Ls (.long y' :: .long x :: st)) := by
  subst hp
  exact go_step K fun T t a k => XS.lcmp a C.1 rfl (hb C.2.1 hd) rfl k
theorem go_idiv (C : Ctx p s m meth c Z y bytes maxL ret) {x y' : Int32} (hd : decode bytes pc = .ok (.idiv, 1)) (hy : y' ≠ 0) (hp : pc + 1 = pc') (K : Go p l e R s m args below meth c Z n0 Q kc ks h cs sl (mkF m pc' Ls (.int (x / y') :: st))) : Go p l e R s m args below meth c Z n0 Q kc ks h cs sl (mkF m pc Ls (.int y' :: .int x :: st)) := by
  subst hp
  exact go_step K fun T t a k => XS.idiv a C.1 rfl (hb C.2.1 hd) rfl hy k
theorem go_ldiv (C : Ctx p s m meth c Z y bytes maxL ret) {x y' : Int64} (hd : decode bytes pc = .ok (.ldiv, 1)) (hy : y' ≠ 0) (hp : pc + 1 = pc') (K : Go p l e R s m args below meth c Z n0 Q kc ks h cs sl (mkF m pc' Ls (.long (x / y') :: st))) : Go p l e R s m args below meth c Z n0 Q kc ks h cs sl (mkF m pc Ls (.long y' :: .long x :: st)) := by
  subst hp
  exact go_step K fun T t a k => XS.ldiv a C.1 rfl (hb C.2.1 hd) rfl hy k
theorem go_irem (C : Ctx p s m meth c Z y bytes maxL ret) {x y' : Int32} (hd : decode bytes pc = .ok (.irem, 1)) (hy : y' ≠ 0) (hp : pc + 1 = pc') (K : Go p l e R s m args below meth c Z n0 Q kc ks h cs sl (mkF m pc' Ls (.int (x % y') :: st))) : Go p l e R s m args below meth c Z n0 Q kc ks h cs sl (mkF m pc Ls (.int y' :: .int x :: st)) := by
  subst hp
  exact go_step K fun T t a k => XS.irem a C.1 rfl (hb C.2.1 hd) rfl hy (by rw [irem_eq_mod]; exact k)
theorem go_lrem (C : Ctx p s m meth c Z y bytes maxL ret) {x y' : Int64} (hd : decode bytes pc = .ok (.lrem, 1)) (hy : y' ≠ 0) (hp : pc + 1 = pc') (K : Go p l e R s m args below meth c Z n0 Q kc ks h cs sl (mkF m pc' Ls (.long (x % y') :: st))) : Go p l e R s m args below meth c Z n0 Q kc ks h cs sl (mkF m pc Ls (.long y' :: .long x :: st)) := by
  subst hp
  exact go_step K fun T t a k => XS.lrem a C.1 rfl (hb C.2.1 hd) rfl hy (by rw [lrem_mod]; exact k)
theorem go_ineg (C : Ctx p s m meth c Z y bytes maxL ret) {x : Int32} (hd : decode bytes pc = .ok (.ineg, 1))  (hp : pc + 1 = pc') (K : Go p l e R s m args below meth c Z n0 Q kc ks h cs sl (mkF m pc' Ls (.int (-x) :: st))) : Go p l e R s m args below meth c Z n0 Q kc ks h cs sl (mkF m pc Ls (.int x :: st)) := by
  subst hp
  exact go_step K fun T t a k => XS.ineg a C.1 rfl (hb C.2.1 hd) rfl k
theorem go_lneg (C : Ctx p s m meth c Z y bytes maxL ret) {x : Int64} (hd : decode bytes pc = .ok (.lneg, 1))  (hp : pc + 1 = pc') (K : Go p l e R s m args below meth c Z n0 Q kc ks h cs sl (mkF m pc' Ls (.long (-x) :: st))) : Go p l e R s m args below meth c Z n0 Q kc ks h cs sl (mkF m pc Ls (.long x :: st)) := by
  subst hp
  exact go_step K fun T t a k => XS.lneg a C.1 rfl (hb C.2.1 hd) rfl k
theorem go_i2l (C : Ctx p s m meth c Z y bytes maxL ret) {x : Int32} (hd : decode bytes pc = .ok (.i2l, 1))  (hp : pc + 1 = pc') (K : Go p l e R s m args below meth c Z n0 Q kc ks h cs sl (mkF m pc' Ls (.long x.toInt64 :: st))) : Go p l e R s m args below meth c Z n0 Q kc ks h cs sl (mkF m pc Ls (.int x :: st)) := by
  subst hp
  exact go_step K fun T t a k => XS.i2l a C.1 rfl (hb C.2.1 hd) rfl k
theorem go_l2i (C : Ctx p s m meth c Z y bytes maxL ret) {x : Int64} (hd : decode bytes pc = .ok (.l2i, 1))  (hp : pc + 1 = pc') (K : Go p l e R s m args below meth c Z n0 Q kc ks h cs sl (mkF m pc' Ls (.int x.toInt32 :: st))) : Go p l e R s m args below meth c Z n0 Q kc ks h cs sl (mkF m pc Ls (.long x :: st)) := by
  subst hp
  exact go_step K fun T t a k => XS.l2i a C.1 rfl (hb C.2.1 hd) rfl k
theorem go_i2c (C : Ctx p s m meth c Z y bytes maxL ret) {x : Int32} (hd : decode bytes pc = .ok (.i2c, 1))  (hp : pc + 1 = pc') (K : Go p l e R s m args below meth c Z n0 Q kc ks h cs sl (mkF m pc' Ls (.int x.toUInt32.toUInt16.toUInt32.toInt32 :: st))) : Go p l e R s m args below meth c Z n0 Q kc ks h cs sl (mkF m pc Ls (.int x :: st)) := by
  subst hp
  exact go_step K fun T t a k => XS.i2c a C.1 rfl (hb C.2.1 hd) rfl k
theorem go_i2b (C : Ctx p s m meth c Z y bytes maxL ret) {x : Int32} (hd : decode bytes pc = .ok (.i2b, 1))  (hp : pc + 1 = pc') (K : Go p l e R s m args below meth c Z n0 Q kc ks h cs sl (mkF m pc' Ls (.int x.toInt8.toInt32 :: st))) : Go p l e R s m args below meth c Z n0 Q kc ks h cs sl (mkF m pc Ls (.int x :: st)) := by
  subst hp
  exact go_step K fun T t a k => XS.i2b a C.1 rfl (hb C.2.1 hd) rfl k
theorem go_dup (C : Ctx p s m meth c Z y bytes maxL ret) {v : Value} (hd : decode bytes pc = .ok (.dup, 1)) (hv : v.category = 1) (hp : pc + 1 = pc') (K : Go p l e R s m args below meth c Z n0 Q kc ks h cs sl (mkF m pc' Ls (v :: v :: st))) : Go p l e R s m args below meth c Z n0 Q kc ks h cs sl (mkF m pc Ls (v :: st)) := by
  subst hp
  exact go_step K fun T t a k => XS.dup a C.1 rfl (hb C.2.1 hd) rfl hv k
theorem go_dupX1 (C : Ctx p s m meth c Z y bytes maxL ret) {v w : Value} (hd : decode bytes pc = .ok (.dup_x1, 1)) (hv : v.category = 1) (hw : w.category = 1) (hp : pc + 1 = pc') (K : Go p l e R s m args below meth c Z n0 Q kc ks h cs sl (mkF m pc' Ls (v :: w :: v :: st))) : Go p l e R s m args below meth c Z n0 Q kc ks h cs sl (mkF m pc Ls (v :: w :: st)) := by
  subst hp
  exact go_step K fun T t a k => XS.dupX1 a C.1 rfl (hb C.2.1 hd) rfl hv hw k
theorem go_dup2 (C : Ctx p s m meth c Z y bytes maxL ret) {v w : Value} (hd : decode bytes pc = .ok (.dup2, 1)) (hv : v.category = 1) (hw : w.category = 1) (hp : pc + 1 = pc') (K : Go p l e R s m args below meth c Z n0 Q kc ks h cs sl (mkF m pc' Ls (v :: w :: v :: w :: st))) : Go p l e R s m args below meth c Z n0 Q kc ks h cs sl (mkF m pc Ls (v :: w :: st)) := by
  subst hp
  exact go_step K fun T t a k => XT.dup2 a C.1 rfl (hb C.2.1 hd) rfl hv hw k
theorem go_dup2L (C : Ctx p s m meth c Z y bytes maxL ret) {x : Int64} (hd : decode bytes pc = .ok (.dup2, 1))  (hp : pc + 1 = pc') (K : Go p l e R s m args below meth c Z n0 Q kc ks h cs sl (mkF m pc' Ls (.long x :: .long x :: st))) : Go p l e R s m args below meth c Z n0 Q kc ks h cs sl (mkF m pc Ls (.long x :: st)) := by
  subst hp
  exact go_step K fun T t a k => XT.dup2L a C.1 rfl (hb C.2.1 hd) rfl k
theorem go_pop (C : Ctx p s m meth c Z y bytes maxL ret) {v : Value} (hd : decode bytes pc = .ok (.pop, 1)) (hv : v.category = 1) (hp : pc + 1 = pc') (K : Go p l e R s m args below meth c Z n0 Q kc ks h cs sl (mkF m pc' Ls (st))) : Go p l e R s m args below meth c Z n0 Q kc ks h cs sl (mkF m pc Ls (v :: st)) := by
  subst hp
  exact go_step K fun T t a k => XS.pop a C.1 rfl (hb C.2.1 hd) rfl hv k
theorem go_goto (C : Ctx p s m meth c Z y bytes maxL ret)  {o : Int} (hd : decode bytes pc = .ok (.goto o, 3))  (ho : 0 ≤ (pc : Int) + o) (hp : ((pc : Int) + o).toNat = pc') (K : Go p l e R s m args below meth c Z n0 Q kc ks h cs sl (mkF m pc' Ls st)) : Go p l e R s m args below meth c Z n0 Q kc ks h cs sl (mkF m pc Ls (st)) :=
  go_step K fun T t a k => XS.goto a C.1 rfl rfl (hb C.2.1 hd) ho hp k
theorem go_ifYes (C : Ctx p s m meth c Z y bytes maxL ret) {cd : ClassFile.Cond} {x : Int32} {o : Int} (hd : decode bytes pc = .ok (.ifCond cd o, 3)) (hc : ifCond.holds cd x = true) (ho : 0 ≤ (pc : Int) + o) (hp : ((pc : Int) + o).toNat = pc') (K : Go p l e R s m args below meth c Z n0 Q kc ks h cs sl (mkF m pc' Ls st)) : Go p l e R s m args below meth c Z n0 Q kc ks h cs sl (mkF m pc Ls (.int x :: st)) :=
  go_step K fun T t a k => XS.ifYes a C.1 rfl rfl (hb C.2.1 hd) rfl hc ho hp k
theorem go_ifNo (C : Ctx p s m meth c Z y bytes maxL ret) {cd : ClassFile.Cond} {x : Int32} {o : Int} (hd : decode bytes pc = .ok (.ifCond cd o, 3)) (hc : ifCond.holds cd x = false) (hp : pc + 3 = pc') (K : Go p l e R s m args below meth c Z n0 Q kc ks h cs sl (mkF m pc' Ls st)) : Go p l e R s m args below meth c Z n0 Q kc ks h cs sl (mkF m pc Ls (.int x :: st)) := by
  subst hp
  exact go_step K fun T t a k => XS.ifNo a C.1 rfl (hb C.2.1 hd) rfl hc k
theorem go_icmpYes (C : Ctx p s m meth c Z y bytes maxL ret) {cd : ClassFile.Cond} {x y' : Int32} {o : Int} (hd : decode bytes pc = .ok (.if_icmp cd o, 3)) (hc : if_icmp.holds cd x y' = true) (ho : 0 ≤ (pc : Int) + o) (hp : ((pc : Int) + o).toNat = pc') (K : Go p l e R s m args below meth c Z n0 Q kc ks h cs sl (mkF m pc' Ls st)) : Go p l e R s m args below meth c Z n0 Q kc ks h cs sl (mkF m pc Ls (.int y' :: .int x :: st)) :=
  go_step K fun T t a k => XS.icmpYes a C.1 rfl rfl (hb C.2.1 hd) rfl hc ho hp k
theorem go_icmpNo (C : Ctx p s m meth c Z y bytes maxL ret) {cd : ClassFile.Cond} {x y' : Int32} {o : Int} (hd : decode bytes pc = .ok (.if_icmp cd o, 3)) (hc : if_icmp.holds cd x y' = false) (hp : pc + 3 = pc') (K : Go p l e R s m args below meth c Z n0 Q kc ks h cs sl (mkF m pc' Ls st)) : Go p l e R s m args below meth c Z n0 Q kc ks h cs sl (mkF m pc Ls (.int y' :: .int x :: st)) := by
  subst hp
  exact go_step K fun T t a k => XS.icmpNo a C.1 rfl (hb C.2.1 hd) rfl hc k
theorem go_ifnullYes (C : Ctx p s m meth c Z y bytes maxL ret)  {o : Int} (hd : decode bytes pc = .ok (.ifnull o, 3))  (ho : 0 ≤ (pc : Int) + o) (hp : ((pc : Int) + o).toNat = pc') (K : Go p l e R s m args below meth c Z n0 Q kc ks h cs sl (mkF m pc' Ls st)) : Go p l e R s m args below meth c Z n0 Q kc ks h cs sl (mkF m pc Ls (.null :: st)) :=
  go_step K fun T t a k => XS.ifnullYes a C.1 rfl rfl (hb C.2.1 hd) rfl ho hp k
theorem go_ifnullNo (C : Ctx p s m meth c Z y bytes maxL ret) {b : Addr} {o : Int} (hd : decode bytes pc = .ok (.ifnull o, 3))  (hp : pc + 3 = pc') (K : Go p l e R s m args below meth c Z n0 Q kc ks h cs sl (mkF m pc' Ls st)) : Go p l e R s m args below meth c Z n0 Q kc ks h cs sl (mkF m pc Ls (.ref b :: st)) := by
  subst hp
  exact go_step K fun T t a k => XS.ifnullNo a C.1 rfl (hb C.2.1 hd) rfl k
theorem go_ifnonnullYes (C : Ctx p s m meth c Z y bytes maxL ret) {b : Addr} {o : Int} (hd : decode bytes pc = .ok (.ifnonnull o, 3))  (ho : 0 ≤ (pc : Int) + o) (hp : ((pc : Int) + o).toNat = pc') (K : Go p l e R s m args below meth c Z n0 Q kc ks h cs sl (mkF m pc' Ls st)) : Go p l e R s m args below meth c Z n0 Q kc ks h cs sl (mkF m pc Ls (.ref b :: st)) :=
  go_step K fun T t a k => XS.ifnonnullYes a C.1 rfl rfl (hb C.2.1 hd) rfl ho hp k
theorem go_ifnonnullNo (C : Ctx p s m meth c Z y bytes maxL ret)  {o : Int} (hd : decode bytes pc = .ok (.ifnonnull o, 3))  (hp : pc + 3 = pc') (K : Go p l e R s m args below meth c Z n0 Q kc ks h cs sl (mkF m pc' Ls st)) : Go p l e R s m args below meth c Z n0 Q kc ks h cs sl (mkF m pc Ls (.null :: st)) := by
  subst hp
  exact go_step K fun T t a k => XS.ifnonnullNo a C.1 rfl (hb C.2.1 hd) rfl k
theorem go_acmpYes (C : Ctx p s m meth c Z y bytes maxL ret) {cd : ClassFile.ACond} {v w : Value} {o : Int} (hd : decode bytes pc = .ok (.if_acmp cd o, 3)) (hv : v.isRef = true) (hw : w.isRef = true) (hc : XT.acmp cd v w = true) (ho : 0 ≤ (pc : Int) + o) (hp : ((pc : Int) + o).toNat = pc') (K : Go p l e R s m args below meth c Z n0 Q kc ks h cs sl (mkF m pc' Ls st)) : Go p l e R s m args below meth c Z n0 Q kc ks h cs sl (mkF m pc Ls (w :: v :: st)) :=
  go_step K fun T t a k => XT.acmpYes a C.1 rfl rfl (hb C.2.1 hd) rfl hv hw hc ho hp k
theorem go_acmpNo (C : Ctx p s m meth c Z y bytes maxL ret) {cd : ClassFile.ACond} {v w : Value} {o : Int} (hd : decode bytes pc = .ok (.if_acmp cd o, 3)) (hv : v.isRef = true) (hw : w.isRef = true) (hc : XT.acmp cd v w = false) (hp : pc + 3 = pc') (K : Go p l e R s m args below meth c Z n0 Q kc ks h cs sl (mkF m pc' Ls st)) : Go p l e R s m args below meth c Z n0 Q kc ks h cs sl (mkF m pc Ls (w :: v :: st)) := by
  subst hp
  exact go_step K fun T t a k => XT.acmpNo a C.1 rfl (hb C.2.1 hd) rfl hv hw hc k
theorem go_tswIn (C : Ctx p s m meth c Z y bytes maxL ret) {dflt low high : Int} {offs : Array Int} {len : Nat} {o : Int} {i : Int32} (hd : decode bytes pc = .ok (.tableswitch dflt low high offs, len)) (hin : ¬ (i.toInt < low ∨ i.toInt > high)) (hoff : offs[(i.toInt - low).toNat]? = some o) (ho : 0 ≤ (pc : Int) + o) (hp : ((pc : Int) + o).toNat = pc') (K : Go p l e R s m args below meth c Z n0 Q kc ks h cs sl (mkF m pc' Ls st)) : Go p l e R s m args below meth c Z n0 Q kc ks h cs sl (mkF m pc Ls (.int i :: st)) :=
  go_step K fun T t a k => XS.tswIn a C.1 rfl rfl (hb C.2.1 hd) rfl hin hoff ho hp k
theorem go_ldcInt (C : Ctx p s m meth c Z y bytes maxL ret) {index : Nat} {v : Int32} (w : (Jvm.Cond.constant y.cls index v).before a0 Z = true) (hd : decode bytes pc = .ok (.ldc index, 2)) (hp : pc + 2 = pc') (K : Go p l e R s m args below meth c Z n0 Q kc ks h cs sl (mkF m pc' Ls (.int v :: st))) : Go p l e R s m args below meth c Z n0 Q kc ks h cs sl (mkF m pc Ls st) := by
  subst hp
  exact go_stepX K fun T t L X eT k => X.ldcInt C.1 C.2.2.2.2.2.2.1 (mvT C.2.2.2.2.2.1 w) (g := mkF m pc Ls st) rfl (hb C.2.1 hd) t k
theorem go_ldcwInt (C : Ctx p s m meth c Z y bytes maxL ret) {index : Nat} {v : Int32} (w : (Jvm.Cond.constant y.cls index v).before a0 Z = true) (hd : decode bytes pc = .ok (.ldc_w index, 3)) (hp : pc + 3 = pc') (K : Go p l e R s m args below meth c Z n0 Q kc ks h cs sl (mkF m pc' Ls (.int v :: st))) : Go p l e R s m args below meth c Z n0 Q kc ks h cs sl (mkF m pc Ls st) := by
  subst hp
  exact go_stepX K fun T t L X eT k => X.ldcwInt C.1 C.2.2.2.2.2.2.1 (mvT C.2.2.2.2.2.1 w) (g := mkF m pc Ls st) rfl (hb C.2.1 hd) t k
theorem go_ldcLong (C : Ctx p s m meth c Z y bytes maxL ret) {index : Nat} {v : Int64} (w : (Jvm.Cond.constantLong y.cls index v).before a0 Z = true) (hd : decode bytes pc = .ok (.ldc2_w index, 3)) (hp : pc + 3 = pc') (K : Go p l e R s m args below meth c Z n0 Q kc ks h cs sl (mkF m pc' Ls (.long v :: st))) : Go p l e R s m args below meth c Z n0 Q kc ks h cs sl (mkF m pc Ls st) := by
  subst hp
  exact go_stepX K fun T t L X eT k => X.ldc2Long C.1 C.2.2.2.2.2.2.1 (mvT C.2.2.2.2.2.1 w) (g := mkF m pc Ls st) rfl (hb C.2.1 hd) t k
theorem go_getF (C : Ctx p s m meth c Z y bytes maxL ret) {R0 O n d host : String} {index : Nat} {a : Addr} {v : Value} (w : (Jvm.Cond.fieldLink y.cls index R0 n d).before a0 Z = true ∨ (Jvm.Cond.fieldLinkNest y.cls index R0 n d host).before a0 Z = true) (via : Via Z R0 O n d) (F : Fld Z h a O n d v) (hd : decode bytes pc = .ok (.getfield index, 3)) (hp : pc + 3 = pc') (K : Go p l e R s m args below meth c Z n0 Q kc ks h cs sl (mkF m pc' Ls (v :: st))) : Go p l e R s m args below meth c Z n0 Q kc ks h cs sl (mkF m pc Ls (.ref a :: st)) := by
  subst hp
  exact go_stepT K fun T L X eT => getF X C.1 C.2.2.2.2.2.1 C.2.2.2.2.2.2.1 w via eT F (g := mkF m pc Ls (.ref a :: st)) rfl rfl (hb C.2.1 hd)
theorem go_getS (C : Ctx p s m meth c Z y bytes maxL ret) {R0 O n d host : String} {index : Nat} {v : Value} (w : (Jvm.Cond.fieldLink y.cls index R0 n d).before a0 Z = true ∨ (Jvm.Cond.fieldLinkNest y.cls index R0 n d host).before a0 Z = true) (via : Via Z R0 O n d) (F : Sta Z h O n d v) (hd : decode bytes pc = .ok (.getstatic index, 3)) (hp : pc + 3 = pc') (K : Go p l e R s m args below meth c Z n0 Q kc ks h cs sl (mkF m pc' Ls (v :: st))) : Go p l e R s m args below meth c Z n0 Q kc ks h cs sl (mkF m pc Ls st) := by
  subst hp
  exact go_stepT K fun T L X eT => getS2 X C.1 C.2.2.2.2.2.1 C.2.2.2.2.2.2.1 w via eT F (g := mkF m pc Ls st) rfl (hb C.2.1 hd)
theorem go_putF (C : Ctx p s m meth c Z y bytes maxL ret) {R0 O n d host K0 : String} {index kk : Nat} {ty : FieldType} {a : Addr} {v old : Value} (w : (Jvm.Cond.fieldLink y.cls index R0 n d).before a0 Z = true ∨ (Jvm.Cond.fieldLinkNest y.cls index R0 n d host).before a0 Z = true) (via : Via Z R0 O n d) (F : Fld Z h a O n d old) (E : Exa Z h a K0) (L : (Jvm.Cond.lays K0 O n d).before a0 Z = true ∨ ((Jvm.Cond.laysFinal K0 O n d).before a0 Z = true ∧ y.cls = O ∧ y.name = "<init>")) (wi : (Jvm.Cond.instantiable K0 kk).before a0 Z = true)
    (hty : parseFieldDescriptor d = some ty) (hn : narrow ty v = v) (hf : fits ty v = true) (hd : decode bytes pc = .ok (.putfield index, 3)) (hp : pc + 3 = pc') (ha : n0 ≤ a) (K : ∀ h', Wr h h' a (Jvm.RoadKit.slotOf Z O n d) v → Fld Z h' a O n d v → Go p l e R s m args below meth c Z n0 Q kc ks h' cs sl (mkF m pc' Ls st)) : Go p l e R s m args below meth c Z n0 Q kc ks h cs sl (mkF m pc Ls (v :: .ref a :: st)) := fun T L0 hL O X eT => by
  subst hp
  obtain ⟨T', h', X', e', W, hs⟩ := putF X C.1 C.2.2.2.2.2.1 C.2.2.2.2.2.2.1 w via eT F E (L.imp id fun q => ⟨q.1, q.2.1, C.2.2.2.2.2.2.2.trans q.2.2⟩) wi hty hn hf (g := mkF m pc Ls (v :: .ref a :: st)) rfl rfl (hb C.2.1 hd)
  obtain ⟨U, v, L', h1, r⟩ := K h' W (F.same W) T' _ (Fr.snoc X' hL ha) (O.wr W ha) X' e'
  exact ⟨U, v, L', hs U h1, r⟩
theorem go_putFN (C : Ctx p s m meth c Z y bytes maxL ret) {R0 O n d K0 : String} {index kk : Nat} {ty : FieldType} {a : Addr} {v v' old : Value} (w : (Jvm.Cond.fieldLink y.cls index R0 n d).before a0 Z = true) (via : Via Z R0 O n d) (F : Fld Z h a O n d old) (E : Exa Z h a K0) (L : (Jvm.Cond.lays K0 O n d).before a0 Z = true ∨ ((Jvm.Cond.laysFinal K0 O n d).before a0 Z = true ∧ y.cls = O ∧ y.name = "<init>")) (wi : (Jvm.Cond.instantiable K0 kk).before a0 Z = true)
    (hty : parseFieldDescriptor d = some ty) (hn : narrow ty v = v') (hf : fits ty v' = true) (hd : decode bytes pc = .ok (.putfield index, 3)) (hp : pc + 3 = pc') (ha : n0 ≤ a) (K : ∀ h', Wr h h' a (Jvm.RoadKit.slotOf Z O n d) v' → Fld Z h' a O n d v' → Go p l e R s m args below meth c Z n0 Q kc ks h' cs sl (mkF m pc' Ls st)) : Go p l e R s m args below meth c Z n0 Q kc ks h cs sl (mkF m pc Ls (v :: .ref a :: st)) := fun T L0 hL O X eT => by
  subst hp
  obtain ⟨T', h', X', e', W, hs⟩ := putFN X C.1 C.2.2.2.2.2.1 C.2.2.2.2.2.2.1 w via eT F E (L.imp id fun q => ⟨q.1, q.2.1, C.2.2.2.2.2.2.2.trans q.2.2⟩) wi hty hn hf (g := mkF m pc Ls (v :: .ref a :: st)) rfl rfl (hb C.2.1 hd)
  obtain ⟨U, v, L', h1, r⟩ := K h' W (F.same W) T' _ (Fr.snoc X' hL ha) (O.wr W ha) X' e'
  exact ⟨U, v, L', hs U h1, r⟩
theorem go_new (C : Ctx p s m meth c Z y bytes maxL ret) {K0 : String} {index n : Nat} (w : (Jvm.Cond.classLink y.cls index K0).before a0 Z = true) (wi : (Jvm.Cond.instantiable K0 n).before a0 Z = true) (wz : (Jvm.Cond.initialized K0).before a0 Z = true) (hd : decode bytes pc = .ok (.new index, 3)) (hp : pc + 3 = pc') (hc : cs + 1 ≤ R.cells) (hl : sl + n ≤ R.slots)
    (K : ∀ h' a, a = h.size → n0 ≤ a → Ext h h' → Exa Z h' a K0 → (∀ {O nm d : String} {ty : FieldType}, Laid Z a0 K0 O nm d → parseFieldDescriptor d = some ty → Fld Z h' a O nm d (defaultValue ty)) → Go p l e R s m args below meth c Z n0 Q kc ks h' (cs + 1) (sl + n) (mkF m pc' Ls (.ref a :: st))) : Go p l e R s m args below meth c Z n0 Q kc ks h cs sl (mkF m pc Ls st) := fun T L0 hL O X eT => by
  subst hp
  obtain ⟨T', h', X', e', E, A, D, -, hs⟩ := newO X C.1 C.2.2.2.2.2.1 C.2.2.2.2.2.2.1 w wi wz eT (g := mkF m pc Ls st) rfl (hb C.2.1 hd) hc hl
  obtain ⟨U, v, L', h1, r⟩ := K h' h.size rfl (O.1 ▸ O.2.1) E A D T' _ hL (O.ext E) X' e'
  exact ⟨U, v, L', hs U h1, r⟩
theorem go_newP (C : Ctx p s m meth c Z y bytes maxL ret) {aty : ArrayType} {n : Int32} {cap : Nat} (w : (Jvm.Cond.arrayClass (newarray.typeOf aty)).before a0 Z = true) (hd : decode bytes pc = .ok (.newarray aty, 2)) (hp : pc + 2 = pc') (hn : ¬ n < 0) (hcap : n.toNatClampNeg ≤ cap) (hb' : cap * 8 ≤ 536870912) (hc : cs + 1 ≤ R.cells) (hl : sl + cap ≤ R.slots)
    (K : ∀ h' a k, a = h.size → n0 ≤ a → Ext h h' → Arr Z h' a (newA k (newarray.typeOf aty) n) (newarray.typeOf aty) → Go p l e R s m args below meth c Z n0 Q kc ks h' (cs + 1) (sl + cap) (mkF m pc' Ls (.ref a :: st))) : Go p l e R s m args below meth c Z n0 Q kc ks h cs sl (mkF m pc Ls (.int n :: st)) := fun T L0 hL O X eT => by
  subst hp
  obtain ⟨T', h', k, X', e', E, A, hs⟩ := newP X C.1 C.2.2.2.2.2.1 w eT (g := mkF m pc Ls (.int n :: st)) rfl (hb C.2.1 hd) rfl hn hcap hb' hc hl
  obtain ⟨U, v, L', h1, r⟩ := K h' h.size k rfl (O.1 ▸ O.2.1) E A T' _ hL (O.ext E) X' e'
  exact ⟨U, v, L', hs U h1, r⟩
theorem go_newR (C : Ctx p s m meth c Z y bytes maxL ret) {K0 : String} {index : Nat} {n : Int32} {cap : Nat} (w1 : (Jvm.Cond.classLink y.cls index K0).before a0 Z = true) (w2 : (Jvm.Cond.arrayOver (.object K0)).before a0 Z = true) (hd : decode bytes pc = .ok (.anewarray index, 3)) (hp : pc + 3 = pc') (hn : ¬ n < 0) (hcap : n.toNatClampNeg ≤ cap) (hb' : cap * 8 ≤ 536870912) (hc : cs + 1 ≤ R.cells) (hl : sl + cap ≤ R.slots)
    (K : ∀ h' a k, a = h.size → n0 ≤ a → Ext h h' → Arr Z h' a (newA k (.object K0) n) (.object K0) → Ovr Z k K0 → Go p l e R s m args below meth c Z n0 Q kc ks h' (cs + 1) (sl + cap) (mkF m pc' Ls (.ref a :: st))) : Go p l e R s m args below meth c Z n0 Q kc ks h cs sl (mkF m pc Ls (.int n :: st)) := fun T L0 hL O X eT => by
  subst hp
  obtain ⟨T', h', k, X', e', E, A, V, hs⟩ := newR X C.1 C.2.2.2.2.2.1 C.2.2.2.2.2.2.1 w1 w2 eT (g := mkF m pc Ls (.int n :: st)) rfl (hb C.2.1 hd) rfl hn hcap hb' hc hl
  obtain ⟨U, v, L', h1, r⟩ := K h' h.size k rfl (O.1 ▸ O.2.1) E A V T' _ hL (O.ext E) X' e'
  exact ⟨U, v, L', hs U h1, r⟩
theorem go_stI (C : Ctx p s m meth c Z y bytes maxL ret) {a : Addr} {cl : Cell} {j : Int32} {x : Int32} (A : Arr Z h a cl .int) (hj : ¬ (j < 0 ∨ cl.slots.size ≤ j.toNatClampNeg)) (hd : decode bytes pc = .ok (.iastore, 1)) (hp : pc + 1 = pc') (ha : n0 ≤ a)
    (K : ∀ h', Wr h h' a j.toNatClampNeg (.int x) → Arr Z h' a (cl.setSlot j.toNatClampNeg (.int x)) .int → Go p l e R s m args below meth c Z n0 Q kc ks h' cs sl (mkF m pc' Ls st)) : Go p l e R s m args below meth c Z n0 Q kc ks h cs sl (mkF m pc Ls (.int x :: .int j :: .ref a :: st)) := fun T L0 hL O X eT => by
  subst hp
  obtain ⟨T', h', X', e', W, hs⟩ := stI X C.1 C.2.2.2.2.2.1 eT A hj (g := mkF m pc Ls (.int x :: .int j :: .ref a :: st)) rfl rfl (hb C.2.1 hd)
  obtain ⟨U, v, L', h1, r⟩ := K h' W (A.same W) T' _ (Fr.snoc X' hL ha) (O.wr W ha) X' e'
  exact ⟨U, v, L', hs U h1, r⟩
theorem go_stJ (C : Ctx p s m meth c Z y bytes maxL ret) {a : Addr} {cl : Cell} {j : Int32} {x : Int64} (A : Arr Z h a cl .long) (hj : ¬ (j < 0 ∨ cl.slots.size ≤ j.toNatClampNeg)) (hd : decode bytes pc = .ok (.lastore, 1)) (hp : pc + 1 = pc') (ha : n0 ≤ a)
    (K : ∀ h', Wr h h' a j.toNatClampNeg (.long x) → Arr Z h' a (cl.setSlot j.toNatClampNeg (.long x)) .long → Go p l e R s m args below meth c Z n0 Q kc ks h' cs sl (mkF m pc' Ls st)) : Go p l e R s m args below meth c Z n0 Q kc ks h cs sl (mkF m pc Ls (.long x :: .int j :: .ref a :: st)) := fun T L0 hL O X eT => by
  subst hp
  obtain ⟨T', h', X', e', W, hs⟩ := stJ X C.1 C.2.2.2.2.2.1 eT A hj (g := mkF m pc Ls (.long x :: .int j :: .ref a :: st)) rfl rfl (hb C.2.1 hd)
  obtain ⟨U, v, L', h1, r⟩ := K h' W (A.same W) T' _ (Fr.snoc X' hL ha) (O.wr W ha) X' e'
  exact ⟨U, v, L', hs U h1, r⟩
theorem go_stC (C : Ctx p s m meth c Z y bytes maxL ret) {a : Addr} {cl : Cell} {j : Int32} {x : Int32} (A : Arr Z h a cl .char) (hj : ¬ (j < 0 ∨ cl.slots.size ≤ j.toNatClampNeg)) (hd : decode bytes pc = .ok (.castore, 1)) (hp : pc + 1 = pc') (ha : n0 ≤ a)
    (K : ∀ h', Wr h h' a j.toNatClampNeg (.int (nar .char x)) → Arr Z h' a (cl.setSlot j.toNatClampNeg (.int (nar .char x))) .char → Go p l e R s m args below meth c Z n0 Q kc ks h' cs sl (mkF m pc' Ls st)) : Go p l e R s m args below meth c Z n0 Q kc ks h cs sl (mkF m pc Ls (.int x :: .int j :: .ref a :: st)) := fun T L0 hL O X eT => by
  subst hp
  obtain ⟨T', h', X', e', W, hs⟩ := stC X C.1 C.2.2.2.2.2.1 eT A hj (g := mkF m pc Ls (.int x :: .int j :: .ref a :: st)) rfl rfl (hb C.2.1 hd)
  obtain ⟨U, v, L', h1, r⟩ := K h' W (A.same W) T' _ (Fr.snoc X' hL ha) (O.wr W ha) X' e'
  exact ⟨U, v, L', hs U h1, r⟩
theorem go_stB (C : Ctx p s m meth c Z y bytes maxL ret) {a : Addr} {cl : Cell} {j : Int32} {x : Int32} (A : Arr Z h a cl .byte) (hj : ¬ (j < 0 ∨ cl.slots.size ≤ j.toNatClampNeg)) (hd : decode bytes pc = .ok (.bastore, 1)) (hp : pc + 1 = pc') (ha : n0 ≤ a)
    (K : ∀ h', Wr h h' a j.toNatClampNeg (.int (nar .byte x)) → Arr Z h' a (cl.setSlot j.toNatClampNeg (.int (nar .byte x))) .byte → Go p l e R s m args below meth c Z n0 Q kc ks h' cs sl (mkF m pc' Ls st)) : Go p l e R s m args below meth c Z n0 Q kc ks h cs sl (mkF m pc Ls (.int x :: .int j :: .ref a :: st)) := fun T L0 hL O X eT => by
  subst hp
  obtain ⟨T', h', X', e', W, hs⟩ := stB X C.1 C.2.2.2.2.2.1 eT A hj (g := mkF m pc Ls (.int x :: .int j :: .ref a :: st)) rfl rfl (hb C.2.1 hd)
  obtain ⟨U, v, L', h1, r⟩ := K h' W (A.same W) T' _ (Fr.snoc X' hL ha) (O.wr W ha) X' e'
  exact ⟨U, v, L', hs U h1, r⟩
theorem go_stZ (C : Ctx p s m meth c Z y bytes maxL ret) {a : Addr} {cl : Cell} {j : Int32} {x : Int32} (A : Arr Z h a cl .boolean) (hj : ¬ (j < 0 ∨ cl.slots.size ≤ j.toNatClampNeg)) (hd : decode bytes pc = .ok (.bastore, 1)) (hp : pc + 1 = pc') (ha : n0 ≤ a)
    (K : ∀ h', Wr h h' a j.toNatClampNeg (.int (nar .boolean x)) → Arr Z h' a (cl.setSlot j.toNatClampNeg (.int (nar .boolean x))) .boolean → Go p l e R s m args below meth c Z n0 Q kc ks h' cs sl (mkF m pc' Ls st)) : Go p l e R s m args below meth c Z n0 Q kc ks h cs sl (mkF m pc Ls (.int x :: .int j :: .ref a :: st)) := fun T L0 hL O X eT => by
  subst hp
  obtain ⟨T', h', X', e', W, hs⟩ := stZ X C.1 C.2.2.2.2.2.1 eT A hj (g := mkF m pc Ls (.int x :: .int j :: .ref a :: st)) rfl rfl (hb C.2.1 hd)
  obtain ⟨U, v, L', h1, r⟩ := K h' W (A.same W) T' _ (Fr.snoc X' hL ha) (O.wr W ha) X' e'
  exact ⟨U, v, L', hs U h1, r⟩
theorem go_stR (C : Ctx p s m meth c Z y bytes maxL ret) {a : Addr} {cl : Cell} {j : Int32} {ty : FieldType} {w : Value} (A : Arr Z h a cl ty) (hj : ¬ (j < 0 ∨ cl.slots.size ≤ j.toNatClampNeg)) (hty : ty.isReference = true) (F : Sto Z h a w) (hd : decode bytes pc = .ok (.aastore, 1)) (hp : pc + 1 = pc') (ha : n0 ≤ a)
    (K : ∀ h', Wr h h' a j.toNatClampNeg w → Arr Z h' a (cl.setSlot j.toNatClampNeg w) ty → Go p l e R s m args below meth c Z n0 Q kc ks h' cs sl (mkF m pc' Ls st)) : Go p l e R s m args below meth c Z n0 Q kc ks h cs sl (mkF m pc Ls (w :: .int j :: .ref a :: st)) := fun T L0 hL O X eT => by
  subst hp
  obtain ⟨T', h', X', e', W, hs⟩ := stR X C.1 C.2.2.2.2.2.1 eT A hj hty F (g := mkF m pc Ls (w :: .int j :: .ref a :: st)) rfl rfl (hb C.2.1 hd)
  obtain ⟨U, v, L', h1, r⟩ := K h' W (A.same W) T' _ (Fr.snoc X' hL ha) (O.wr W ha) X' e'
  exact ⟨U, v, L', hs U h1, r⟩
theorem go_arraylength (C : Ctx p s m meth c Z y bytes maxL ret) {a : Addr} {cl : Cell} {ty : FieldType} {z : Int32} (A : Arr Z h a cl ty) (hz : cl.slots.size.toInt32 = z) (hd : decode bytes pc = .ok (.arraylength, 1)) (hp : pc + 1 = pc') (K : Go p l e R s m args below meth c Z n0 Q kc ks h cs sl (mkF m pc' Ls (.int z :: st))) : Go p l e R s m args below meth c Z n0 Q kc ks h cs sl (mkF m pc Ls (.ref a :: st)) := by
  subst hp hz
  exact go_stepX K fun T t L X eT k => X.arraylength C.1 (by rw [eT]; exact A.1) (State.isArrayOf_alike C.2.2.2.2.2.1.alike A.2.1) (g := mkF m pc Ls (.ref a :: st)) rfl rfl (hb C.2.1 hd) t k
theorem go_aaload (C : Ctx p s m meth c Z y bytes maxL ret) {a : Addr} {cl : Cell} {j : Int32} {v : Value} {ty : FieldType} (A : Arr Z h a cl ty) (hty : ty.isReference = true) (hin : ¬ (j < 0 ∨ cl.slots.size ≤ j.toNatClampNeg)) (hv : cl.slots[j.toNatClampNeg]? = some v) (hd : decode bytes pc = .ok (.aaload, 1)) (hp : pc + 1 = pc') (K : Go p l e R s m args below meth c Z n0 Q kc ks h cs sl (mkF m pc' Ls (v :: st))) : Go p l e R s m args below meth c Z n0 Q kc ks h cs sl (mkF m pc Ls (.int j :: .ref a :: st)) := by
  subst hp
  exact go_stepX K fun T t L X eT k => X.aaload C.1 (by rw [eT]; exact A.1) (State.isArrayOf_alike C.2.2.2.2.2.1.alike A.2.1) hty A.2.2 hin hv (g := mkF m pc Ls (.int j :: .ref a :: st)) rfl rfl (hb C.2.1 hd) t k
theorem go_iaload (C : Ctx p s m meth c Z y bytes maxL ret) {a : Addr} {cl : Cell} {j : Int32} {v : Value} (A : Arr Z h a cl .int) (hin : ¬ (j < 0 ∨ cl.slots.size ≤ j.toNatClampNeg)) (hv : cl.slots[j.toNatClampNeg]? = some v) (hd : decode bytes pc = .ok (.iaload, 1)) (hp : pc + 1 = pc') (K : Go p l e R s m args below meth c Z n0 Q kc ks h cs sl (mkF m pc' Ls (v :: st))) : Go p l e R s m args below meth c Z n0 Q kc ks h cs sl (mkF m pc Ls (.int j :: .ref a :: st)) := by
  subst hp
  exact go_stepX K fun T t L X eT k => X.iaload C.1 (by rw [eT]; exact A.1) (State.isArrayOf_alike C.2.2.2.2.2.1.alike A.2.1) A.2.2 hin hv (g := mkF m pc Ls (.int j :: .ref a :: st)) rfl rfl (hb C.2.1 hd) t k
theorem go_laload (C : Ctx p s m meth c Z y bytes maxL ret) {a : Addr} {cl : Cell} {j : Int32} {v : Value} (A : Arr Z h a cl .long) (hin : ¬ (j < 0 ∨ cl.slots.size ≤ j.toNatClampNeg)) (hv : cl.slots[j.toNatClampNeg]? = some v) (hd : decode bytes pc = .ok (.laload, 1)) (hp : pc + 1 = pc') (K : Go p l e R s m args below meth c Z n0 Q kc ks h cs sl (mkF m pc' Ls (v :: st))) : Go p l e R s m args below meth c Z n0 Q kc ks h cs sl (mkF m pc Ls (.int j :: .ref a :: st)) := by
  subst hp
  exact go_stepX K fun T t L X eT k => X.laload C.1 (by rw [eT]; exact A.1) (State.isArrayOf_alike C.2.2.2.2.2.1.alike A.2.1) A.2.2 hin hv (g := mkF m pc Ls (.int j :: .ref a :: st)) rfl rfl (hb C.2.1 hd) t k
theorem go_caload (C : Ctx p s m meth c Z y bytes maxL ret) {a : Addr} {cl : Cell} {j : Int32} {v : Value} (A : Arr Z h a cl .char) (hin : ¬ (j < 0 ∨ cl.slots.size ≤ j.toNatClampNeg)) (hv : cl.slots[j.toNatClampNeg]? = some v) (hd : decode bytes pc = .ok (.caload, 1)) (hp : pc + 1 = pc') (K : Go p l e R s m args below meth c Z n0 Q kc ks h cs sl (mkF m pc' Ls (v :: st))) : Go p l e R s m args below meth c Z n0 Q kc ks h cs sl (mkF m pc Ls (.int j :: .ref a :: st)) := by
  subst hp
  exact go_stepX K fun T t L X eT k => X.caload C.1 (by rw [eT]; exact A.1) (State.isArrayOf_alike C.2.2.2.2.2.1.alike A.2.1) A.2.2 hin hv (g := mkF m pc Ls (.int j :: .ref a :: st)) rfl rfl (hb C.2.1 hd) t k
theorem go_castY (C : Ctx p s m meth c Z y bytes maxL ret) {K0 : String} {index : Nat} {a : Addr} (w : (Jvm.Cond.classLink y.cls index K0).before a0 Z = true) (F : Ins Z h a K0 true) (hd : decode bytes pc = .ok (.checkcast index, 3)) (hp : pc + 3 = pc') (K : Go p l e R s m args below meth c Z n0 Q kc ks h cs sl (mkF m pc' Ls (.ref a :: st))) : Go p l e R s m args below meth c Z n0 Q kc ks h cs sl (mkF m pc Ls (.ref a :: st)) := by
  subst hp
  exact go_stepT K fun T L X eT => castY X C.1 C.2.2.2.2.2.1 C.2.2.2.2.2.2.1 w eT F (g := mkF m pc Ls (.ref a :: st)) rfl rfl (hb C.2.1 hd)
theorem go_castNull (C : Ctx p s m meth c Z y bytes maxL ret) {index : Nat} (hd : decode bytes pc = .ok (.checkcast index, 3)) (hp : pc + 3 = pc') (K : Go p l e R s m args below meth c Z n0 Q kc ks h cs sl (mkF m pc' Ls (.null :: st))) : Go p l e R s m args below meth c Z n0 Q kc ks h cs sl (mkF m pc Ls (.null :: st)) := by
  subst hp
  exact go_stepX K fun T t L X eT k => X.checkcastNull C.1 (g := mkF m pc Ls (.null :: st)) rfl rfl (hb C.2.1 hd) t k
theorem go_instY (C : Ctx p s m meth c Z y bytes maxL ret) {K0 : String} {index : Nat} {a : Addr} (w : (Jvm.Cond.classLink y.cls index K0).before a0 Z = true) (F : Ins Z h a K0 true) (hd : decode bytes pc = .ok (.instanceof index, 3)) (hp : pc + 3 = pc') (K : Go p l e R s m args below meth c Z n0 Q kc ks h cs sl (mkF m pc' Ls (.int 1 :: st))) : Go p l e R s m args below meth c Z n0 Q kc ks h cs sl (mkF m pc Ls (.ref a :: st)) := by
  subst hp
  exact go_stepT K fun T L X eT => instY X C.1 C.2.2.2.2.2.1 C.2.2.2.2.2.2.1 w eT F (g := mkF m pc Ls (.ref a :: st)) rfl rfl (hb C.2.1 hd)
theorem go_instNo (C : Ctx p s m meth c Z y bytes maxL ret) {K0 K1 : String} {index : Nat} {a : Addr} (w : (Jvm.Cond.classLink y.cls index K0).before a0 Z = true) (E : Exa Z h a K1) (F : ∃ c t, Z.vm.findClass K1 = some c ∧ Z.vm.findClass K0 = some t ∧ Z.vm.assignable c t = false) (hd : decode bytes pc = .ok (.instanceof index, 3)) (hp : pc + 3 = pc') (K : Go p l e R s m args below meth c Z n0 Q kc ks h cs sl (mkF m pc' Ls (.int 0 :: st))) : Go p l e R s m args below meth c Z n0 Q kc ks h cs sl (mkF m pc Ls (.ref a :: st)) := by
  subst hp
  exact go_stepT K fun T L X eT => instNo X C.1 C.2.2.2.2.2.1 C.2.2.2.2.2.2.1 w eT E F (g := mkF m pc Ls (.ref a :: st)) rfl rfl (hb C.2.1 hd)
theorem go_initO (C : Ctx p s m meth c Z y bytes maxL ret) {idx : Nat} {a : Addr} (w1 : (Jvm.Cond.methodLink y.cls idx Lib.objectInit).before a0 Z = true) (w2 : (Jvm.Cond.instanceMethod Lib.objectInit).before a0 Z = true) (w3 : (Jvm.Cond.code Lib.objectInit ⟨#[0xb1]⟩ 1 none).before a0 Z = true) (hsz : Ls.size = maxL) (hd : decode bytes pc = .ok (.invokespecial idx, 3)) (hp : pc + 3 = pc') (hf : 1 ≤ R.frames) (hl : (st.map fun v => v.category).sum + 12 ≤ R.locals) (K : Go p l e R s m args below meth c Z n0 Q kc ks h cs sl (mkF m pc' Ls st)) : Go p l e R s m args below meth c Z n0 Q kc ks h cs sl (mkF m pc Ls (.ref a :: st)) := by
  subst hp
  exact go_stepT K fun T L X eT => initO X C.1 C.2.2.2.2.2.1 C.2.2.2.2.2.2.1 w1 w2 w3 eT (g := mkF m pc Ls (.ref a :: st)) rfl (hsz.trans C.2.2.1.symm) rfl (hb C.2.1 hd) hf (W := (st.map fun v => v.category).sum) (by show 2 * 0 + _ ≤ _; omega) hl
theorem go_ret0 (C : Ctx p s m meth c Z y bytes maxL none) (hd : decode bytes pc = .ok (.return_, 1)) (hc : cs ≤ kc) (hs : sl ≤ ks) (q : Q none h) : Go p l e R s m args below meth c Z n0 Q kc ks h cs sl (mkF m pc Ls []) := fun T L hL O X eT => by
  obtain ⟨fs, hr, hrun, hended, hW, hsame⟩ := X.leave (v := none) (fun _ => rfl) C.2.2.2.2.1
  subst eT
  exact ⟨_, _, L, X.returnOut C.1 C.2.2.2.1 (hb C.2.1 hd) hr, hrun, hended, hL, O, hW, hsame.mono hc hs, q⟩
theorem go_retI (C : Ctx p s m meth c Z y bytes maxL (some .int)) {z : Int32} (hd : decode bytes pc = .ok (.ireturn, 1)) (hc : cs ≤ kc) (hs : sl ≤ ks) (q : Q (some (.int z)) h) : Go p l e R s m args below meth c Z n0 Q kc ks h cs sl (mkF m pc Ls (.int z :: st)) := fun T L hL O X eT => by
  obtain ⟨fs, hr, hrun, hended, hW, hsame⟩ := X.leave (v := some (.int z)) (fun h => by rw [C.2.2.2.1] at h; cases h) C.2.2.2.2.1
  subst eT
  exact ⟨_, _, L, retOut X C.1 C.2.2.2.1 rfl (Or.inl ⟨rfl, Or.inl rfl, _, rfl⟩) (hb C.2.1 hd) hr, hrun, hended, hL, O, hW, hsame.mono hc hs, q⟩
theorem go_retL (C : Ctx p s m meth c Z y bytes maxL (some .long)) {z : Int64} (hd : decode bytes pc = .ok (.lreturn, 1)) (hc : cs ≤ kc) (hs : sl ≤ ks) (q : Q (some (.long z)) h) : Go p l e R s m args below meth c Z n0 Q kc ks h cs sl (mkF m pc Ls (.long z :: st)) := fun T L hL O X eT => by
  obtain ⟨fs, hr, hrun, hended, hW, hsame⟩ := X.leave (v := some (.long z)) (fun h => by rw [C.2.2.2.1] at h; cases h) C.2.2.2.2.1
  subst eT
  exact ⟨_, _, L, retOut X C.1 C.2.2.2.1 rfl (Or.inr (Or.inl ⟨rfl, rfl, _, rfl⟩)) (hb C.2.1 hd) hr, hrun, hended, hL, O, hW, hsame.mono hc hs, q⟩
theorem go_retN {t : FieldType} (C : Ctx p s m meth c Z y bytes maxL (some t)) {z z' : Int32} (ht : t = .boolean ∨ t = .byte ∨ t = .char ∨ t = .short) (hz : nar t z = z') (hd : decode bytes pc = .ok (.ireturn, 1)) (hc : cs ≤ kc) (hs : sl ≤ ks) (q : Q (some (.int z')) h) : Go p l e R s m args below meth c Z n0 Q kc ks h cs sl (mkF m pc Ls (.int z :: st)) := fun T L hL O X eT => by
  subst hz
  obtain ⟨fs, hr, hrun, hended, hW, hsame⟩ := X.leave (v := some (.int (nar t z))) (fun h => by rw [C.2.2.2.1] at h; cases h) C.2.2.2.2.1
  subst eT
  exact ⟨_, _, L, retN X C.1 C.2.2.2.1 ht (hb C.2.1 hd) hr, hrun, hended, hL, O, hW, hsame.mono hc hs, q⟩
theorem go_retA {t : FieldType} (C : Ctx p s m meth c Z y bytes maxL (some t)) {w : Value} (ht : t.isReference = true) (hw : w.isRef = true) (hd : decode bytes pc = .ok (.areturn, 1)) (hc : cs ≤ kc) (hs : sl ≤ ks) (q : Q (some w) h) : Go p l e R s m args below meth c Z n0 Q kc ks h cs sl (mkF m pc Ls (w :: st)) := fun T L hL O X eT => by
  obtain ⟨fs, hr, hrun, hended, hW, hsame⟩ := X.leave (v := some w) (fun h => by rw [C.2.2.2.1] at h; cases h) C.2.2.2.2.1
  subst eT
  exact ⟨_, _, L, retOut X C.1 C.2.2.2.1 (by cases t <;> first | (cases ht; done) | (cases w <;> first | rfl | cases hw)) (Or.inr (Or.inr (Or.inr (Or.inr ⟨rfl, ht, hw⟩)))) (hb C.2.1 hd) hr, hrun, hended, hL, O, hW, hsame.mono hc hs, q⟩
theorem go_callS (C : Ctx p s m meth c Z y bytes maxL ret) {y' : MethodName} {bytes' : ByteArray} {maxL' : Nat} {ret' : Option FieldType} {rm' : Room} {as' : Array Value} {Q' : Option Value → Heap → Prop} {index W : Nat} {argsL rest : List Value} {ps : List FieldType} {r' : Option FieldType} (w1 : (Jvm.Cond.methodLink y.cls index y').before a0 Z = true) (w2 : (Jvm.Cond.static y').before a0 Z = true) (M : Met l Z n0 y' bytes' maxL' ret' [] rm' as' h Q') (wc : (Jvm.Cond.code y' bytes' maxL' ret').before a0 Z = true) (wz : (Jvm.Cond.initialized y'.cls).before a0 Z = true) (hy : y'.cls ≠ "java/lang/invoke/MethodHandle" ∧ y'.cls ≠ "java/lang/invoke/VarHandle") (hf : rm'.frames + 1 ≤ R.frames) (hW : (rest.map fun v => v.category).sum ≤ W) (hl : W + (maxL' + 11) + rm'.locals ≤ R.locals) (hc : cs + rm'.cells ≤ R.cells) (hs : sl + rm'.slots ≤ R.slots) (hsz : Ls.size = maxL)  (hlen : parseMethodDescriptor y'.desc = some ⟨ps, r'⟩) (hal : argsL.length = ps.length) (hst : st = argsL.reverse ++ rest) (has : as' = argsL.toArray) (hd : decode bytes pc = .ok (.invokestatic index, 3)) (hp : pc + 3 = pc')
    (K : ∀ v h', Q' v h' → Go p l e R s m args below meth c Z n0 Q kc ks h' (cs + rm'.cells) (sl + rm'.slots) (mkF m pc' Ls (v.toList ++ rest))) : Go p l e R s m args below meth c Z n0 Q kc ks h cs sl (mkF m pc Ls st) := fun T L0 hL O X eT => by
  subst hp has hst
  obtain ⟨v, _, ⟨T1, L1, k1, n1⟩, -, X1, ⟨Lc1, q1, l1, y1, z1⟩, s1⟩ := Jvm.LawKit.callS X C.1 (y := y') C.2.2.2.2.2.2.1 (mvT C.2.2.2.2.2.1 w1) (mvT C.2.2.2.2.2.1 w2) (mvT C.2.2.2.2.2.1 wz) (mvT C.2.2.2.2.2.1 wc) hy (backOf (W := W) (R := R) (p := p) (e := e) (below := below) (args := args) (len := 3) (Q := fun v h L => Fr n0 L ∧ Old Z n0 h ∧ Q' v h) M C.2.2.2.2.2.1 wc wz hf hl) (g := mkF m pc Ls (argsL.reverse ++ rest)) rfl (hsz.trans C.2.2.1.symm) (argsL := argsL) (rest := rest) (lenOf hlen hal) rfl (by show 2 * 0 + _ ≤ _; omega) (hb C.2.1 hd) (fun _ _ => ⟨rfl, eT, hc, hs⟩)
  dsimp only [Pt.U, Pt.locs, Pt.cells, Pt.slots] at X1 l1 y1 z1 s1 q1
  subst l1 y1 z1
  obtain ⟨N, O', q⟩ := q1
  obtain ⟨U, w, L', h1, r⟩ := K v _ q T1 _ (Fr.app hL N) O' X1 rfl
  exact ⟨U, w, L', s1 _ h1, r⟩
theorem go_callC (C : Ctx p s m meth c Z y bytes maxL ret) {y' : MethodName} {bytes' : ByteArray} {maxL' : Nat} {ret' : Option FieldType} {rm' : Room} {as' : Array Value} {Q' : Option Value → Heap → Prop} {index W : Nat} {argsL rest : List Value} {ps : List FieldType} {r' : Option FieldType} (w1 : (Jvm.Cond.methodLink y.cls index y').before a0 Z = true) (w2 : (Jvm.Cond.instanceMethod y').before a0 Z = true) (hin : y'.name = "<init>") (hr0 : ret' = none) (M : Met l Z n0 y' bytes' maxL' ret' [] rm' as' h Q') (wc : (Jvm.Cond.code y' bytes' maxL' ret').before a0 Z = true) (wz : (Jvm.Cond.initialized y'.cls).before a0 Z = true) (hy : y'.cls ≠ "java/lang/invoke/MethodHandle" ∧ y'.cls ≠ "java/lang/invoke/VarHandle") (hf : rm'.frames + 1 ≤ R.frames) (hW : (rest.map fun v => v.category).sum ≤ W) (hl : W + (maxL' + 11) + rm'.locals ≤ R.locals) (hc : cs + rm'.cells ≤ R.cells) (hs : sl + rm'.slots ≤ R.slots) (hsz : Ls.size = maxL) {a : Addr} (hlen : parseMethodDescriptor y'.desc = some ⟨ps, r'⟩) (hal : argsL.length = ps.length) (hst : st = argsL.reverse ++ .ref a :: rest) (has : as' = (.ref a :: argsL).toArray) (hd : decode bytes pc = .ok (.invokespecial index, 3)) (hp : pc + 3 = pc')
    (K : ∀ v h', Q' v h' → Go p l e R s m args below meth c Z n0 Q kc ks h' (cs + rm'.cells) (sl + rm'.slots) (mkF m pc' Ls (v.toList ++ rest))) : Go p l e R s m args below meth c Z n0 Q kc ks h cs sl (mkF m pc Ls st) := fun T L0 hL O X eT => by
  subst hp has hst
  subst hr0
  obtain ⟨v, _, ⟨T1, L1, k1, n1⟩, -, X1, ⟨Lc1, q1, l1, y1, z1⟩, s1⟩ := X.specialBack C.1 (y := y') hin C.2.2.2.2.2.2.1 (mvT C.2.2.2.2.2.1 w1) (mvT C.2.2.2.2.2.1 w2) (mvT C.2.2.2.2.2.1 wc) hy (backOf (W := W) (R := R) (p := p) (e := e) (below := below) (args := args) (len := 3) (Q := fun v h L => Fr n0 L ∧ Old Z n0 h ∧ Q' v h) M C.2.2.2.2.2.1 wc wz hf hl) (g := mkF m pc Ls (argsL.reverse ++ .ref a :: rest)) rfl (hsz.trans C.2.2.1.symm) (Steps.refl _) (a := a) (argsL := argsL) (rest := rest) (lenOf hlen hal) rfl (by show 2 * 0 + _ ≤ _; omega) (hb C.2.1 hd) (fun _ _ => ⟨rfl, eT, hc, hs⟩)
  dsimp only [Pt.U, Pt.locs, Pt.cells, Pt.slots] at X1 l1 y1 z1 s1 q1
  subst l1 y1 z1
  obtain ⟨N, O', q⟩ := q1
  obtain ⟨U, w, L', h1, r⟩ := K v _ q T1 _ (Fr.app hL N) O' X1 rfl
  exact ⟨U, w, L', s1.trans h1, r⟩
theorem go_callV (C : Ctx p s m meth c Z y bytes maxL ret) {y' : MethodName} {bytes' : ByteArray} {maxL' : Nat} {ret' : Option FieldType} {rm' : Room} {as' : Array Value} {Q' : Option Value → Heap → Prop} {index W : Nat} {argsL rest : List Value} {ps : List FieldType} {r' : Option FieldType} (w1 : (Jvm.Cond.methodLink y.cls index y').before a0 Z = true) (w2 : (Jvm.Cond.declares y').before a0 Z = true) {K0 : String} (w3 : (Jvm.Cond.selects K0 y' y').before a0 Z = true) (w4 : (Jvm.Cond.instanceMethod y').before a0 Z = true) (M : Met l Z n0 y' bytes' maxL' ret' [] rm' as' h Q') (wc : (Jvm.Cond.code y' bytes' maxL' ret').before a0 Z = true) (wz : (Jvm.Cond.initialized y'.cls).before a0 Z = true) (hy : y'.cls ≠ "java/lang/invoke/MethodHandle" ∧ y'.cls ≠ "java/lang/invoke/VarHandle") (hf : rm'.frames + 1 ≤ R.frames) (hW : (rest.map fun v => v.category).sum ≤ W) (hl : W + (maxL' + 11) + rm'.locals ≤ R.locals) (hc : cs + rm'.cells ≤ R.cells) (hs : sl + rm'.slots ≤ R.slots) (hsz : Ls.size = maxL) {a : Addr} (E : Exa Z h a K0) (hlen : parseMethodDescriptor y'.desc = some ⟨ps, r'⟩) (hal : argsL.length = ps.length) (hst : st = argsL.reverse ++ .ref a :: rest) (has : as' = (.ref a :: argsL).toArray) (hd : decode bytes pc = .ok (.invokevirtual index, 3)) (hp : pc + 3 = pc')
    (K : ∀ v h', Q' v h' → Go p l e R s m args below meth c Z n0 Q kc ks h' (cs + rm'.cells) (sl + rm'.slots) (mkF m pc' Ls (v.toList ++ rest))) : Go p l e R s m args below meth c Z n0 Q kc ks h cs sl (mkF m pc Ls st) := fun T L0 hL O X eT => by
  subst hp has hst
  obtain ⟨cq, kq, qa, qb, qc⟩ := isOf C.2.2.2.2.2.1 eT E
  obtain ⟨v, _, ⟨T1, L1, k1, n1⟩, -, X1, ⟨Lc1, q1, l1, y1, z1⟩, s1⟩ := X.virtualBack C.1 (y := y') (z := y') C.2.2.2.2.2.2.1 (mvT C.2.2.2.2.2.1 w1) (mvT C.2.2.2.2.2.1 w2) (notFace_of_selects (args := #[]) (mvT C.2.2.2.2.2.1 w3)) (mvT C.2.2.2.2.2.1 w3) (mvT C.2.2.2.2.2.1 w4) hy (backOf (W := W) (R := R) (p := p) (e := e) (below := below) (args := args) (len := 3) (Q := fun v h L => Fr n0 L ∧ Old Z n0 h ∧ Q' v h) M C.2.2.2.2.2.1 wc wz hf hl) qa qc (g := mkF m pc Ls (argsL.reverse ++ .ref a :: rest)) rfl (hsz.trans C.2.2.1.symm) (Steps.refl _) (argsL := argsL) (rest := rest) (lenOf hlen hal) rfl (by show 2 * 0 + _ ≤ _; omega) (hb C.2.1 hd) (fun _ _ => ⟨rfl, eT, hc, hs⟩)
  dsimp only [Pt.U, Pt.locs, Pt.cells, Pt.slots] at X1 l1 y1 z1 s1 q1
  subst l1 y1 z1
  obtain ⟨N, O', q⟩ := q1
  obtain ⟨U, w, L', h1, r⟩ := K v _ q T1 _ (Fr.app hL N) O' X1 rfl
  exact ⟨U, w, L', s1.trans h1, r⟩
theorem go_callU (C : Ctx p s m meth c Z y bytes maxL ret) {y' : MethodName} {bytes' : ByteArray} {maxL' : Nat} {ret' : Option FieldType} {rm' : Room} {as' : Array Value} {Q' : Option Value → Heap → Prop} {index W : Nat} {argsL rest : List Value} {ps : List FieldType} {r' : Option FieldType} {K1 : String} (w1 : (Jvm.Cond.methodLink y.cls index ⟨K1, y'.name, y'.desc⟩).before a0 Z = true) (w2 : (Jvm.Cond.sameMethod K1 y'.cls y'.name y'.desc).before a0 Z = true) (w3 : (Jvm.Cond.declares y').before a0 Z = true) {K0 : String} (w4 : (Jvm.Cond.selects K0 ⟨K1, y'.name, y'.desc⟩ y').before a0 Z = true) (w5 : (Jvm.Cond.instanceMethod y').before a0 Z = true) (M : Met l Z n0 y' bytes' maxL' ret' [] rm' as' h Q') (wc : (Jvm.Cond.code y' bytes' maxL' ret').before a0 Z = true) (wz : (Jvm.Cond.initialized y'.cls).before a0 Z = true) (hy : y'.cls ≠ "java/lang/invoke/MethodHandle" ∧ y'.cls ≠ "java/lang/invoke/VarHandle") (hf : rm'.frames + 1 ≤ R.frames) (hW : (rest.map fun v => v.category).sum ≤ W) (hl : W + (maxL' + 11) + rm'.locals ≤ R.locals) (hc : cs + rm'.cells ≤ R.cells) (hs : sl + rm'.slots ≤ R.slots) (hsz : Ls.size = maxL) {a : Addr} (E : Exa Z h a K0) (hlen : parseMethodDescriptor y'.desc = some ⟨ps, r'⟩) (hal : argsL.length = ps.length) (hst : st = argsL.reverse ++ .ref a :: rest) (has : as' = (.ref a :: argsL).toArray) (hd : decode bytes pc = .ok (.invokevirtual index, 3)) (hp : pc + 3 = pc')
    (K : ∀ v h', Q' v h' → Go p l e R s m args below meth c Z n0 Q kc ks h' (cs + rm'.cells) (sl + rm'.slots) (mkF m pc' Ls (v.toList ++ rest))) : Go p l e R s m args below meth c Z n0 Q kc ks h cs sl (mkF m pc Ls st) := fun T L0 hL O X eT => by
  subst hp has hst
  obtain ⟨cq, kq, qa, qb, qc⟩ := isOf C.2.2.2.2.2.1 eT E
  obtain ⟨v, _, ⟨T1, L1, k1, n1⟩, -, X1, ⟨Lc1, q1, l1, y1, z1⟩, s1⟩ := X.virtualBackUp C.1 (x := ⟨K1, y'.name, y'.desc⟩) (y := y') (owner := y'.cls) C.2.2.2.2.2.2.1 (mvT C.2.2.2.2.2.1 w1) (mvT C.2.2.2.2.2.1 w2) (mvT C.2.2.2.2.2.1 w3) hy (mvT C.2.2.2.2.2.1 w4) (mvT C.2.2.2.2.2.1 w5) (backOf (W := W) (R := R) (p := p) (e := e) (below := below) (args := args) (len := 3) (Q := fun v h L => Fr n0 L ∧ Old Z n0 h ∧ Q' v h) M C.2.2.2.2.2.1 wc wz hf hl) qa qc (g := mkF m pc Ls (argsL.reverse ++ .ref a :: rest)) rfl (hsz.trans C.2.2.1.symm) (Steps.refl _) (argsL := argsL) (rest := rest) (lenOf hlen hal) rfl (by show 2 * 0 + _ ≤ _; omega) (hb C.2.1 hd) (fun _ _ => ⟨rfl, eT, hc, hs⟩)
  dsimp only [Pt.U, Pt.locs, Pt.cells, Pt.slots] at X1 l1 y1 z1 s1 q1
  subst l1 y1 z1
  obtain ⟨N, O', q⟩ := q1
  obtain ⟨U, w, L', h1, r⟩ := K v _ q T1 _ (Fr.app hL N) O' X1 rfl
  exact ⟨U, w, L', s1.trans h1, r⟩
theorem go_callI (C : Ctx p s m meth c Z y bytes maxL ret) {y' : MethodName} {bytes' : ByteArray} {maxL' : Nat} {ret' : Option FieldType} {rm' : Room} {as' : Array Value} {Q' : Option Value → Heap → Prop} {index W : Nat} {argsL rest : List Value} {ps : List FieldType} {r' : Option FieldType} {xi : MethodName} {count : Nat} (w1 : (Jvm.Cond.methodLink y.cls index xi).before a0 Z = true) (w2 : (Jvm.Cond.declares xi).before a0 Z = true) (w3 : (Jvm.Cond.interfaceMethod xi.cls xi.cls xi.name xi.desc).before a0 Z = true) {K0 : String} (w4 : (Jvm.Cond.selects K0 xi y').before a0 Z = true) (w5 : (Jvm.Cond.instanceMethod y').before a0 Z = true) (w6 : (Jvm.Cond.publicMethod y').before a0 Z = true) (w7 : (Jvm.Cond.unhidden K0 xi.name xi.desc).before a0 Z = true) (w8 : (Jvm.Cond.castable K0 xi.cls).before a0 Z = true) (hfa : (Jvm.Cond.interfaceMethod xi.cls xi.cls xi.name xi.desc).faceAtom = true) (hyi : xi.cls ≠ "java/lang/invoke/MethodHandle" ∧ xi.cls ≠ "java/lang/invoke/VarHandle") (M : Met l Z n0 y' bytes' maxL' ret' [] rm' as' h Q') (wc : (Jvm.Cond.code y' bytes' maxL' ret').before a0 Z = true) (wz : (Jvm.Cond.initialized y'.cls).before a0 Z = true) (hy : y'.cls ≠ "java/lang/invoke/MethodHandle" ∧ y'.cls ≠ "java/lang/invoke/VarHandle") (hf : rm'.frames + 1 ≤ R.frames) (hW : (rest.map fun v => v.category).sum ≤ W) (hl : W + (maxL' + 11) + rm'.locals ≤ R.locals) (hc : cs + rm'.cells ≤ R.cells) (hs : sl + rm'.slots ≤ R.slots) (hsz : Ls.size = maxL) {a : Addr} (E : Exa Z h a K0) (hlen : parseMethodDescriptor xi.desc = some ⟨ps, r'⟩) (hal : argsL.length = ps.length) (hst : st = argsL.reverse ++ .ref a :: rest) (has : as' = (.ref a :: argsL).toArray) (hd : decode bytes pc = .ok (.invokeinterface index count, 5)) (hp : pc + 5 = pc')
    (K : ∀ v h', Q' v h' → Go p l e R s m args below meth c Z n0 Q kc ks h' (cs + rm'.cells) (sl + rm'.slots) (mkF m pc' Ls (v.toList ++ rest))) : Go p l e R s m args below meth c Z n0 Q kc ks h cs sl (mkF m pc Ls st) := fun T L0 hL O X eT => by
  subst hp has hst
  obtain ⟨cq, kq, qa, qb, qc⟩ := isOf C.2.2.2.2.2.1 eT E
  obtain ⟨v, _, ⟨T1, L1, k1, n1⟩, -, X1, ⟨Lc1, q1, l1, y1, z1⟩, s1⟩ := X.interfaceBack C.1 (xi := xi) (y := y') C.2.2.2.2.2.2.1 (mvT C.2.2.2.2.2.1 w1) (mvT C.2.2.2.2.2.1 w2) (mvT C.2.2.2.2.2.1 w3 (by simp [Cond.onTables, Cond.keepsFace, Cond.keeps, Cond.steady, hfa])) (mvT C.2.2.2.2.2.1 w4) (mvT C.2.2.2.2.2.1 w5) (mvT C.2.2.2.2.2.1 w6) (mvT C.2.2.2.2.2.1 w7) (mvT C.2.2.2.2.2.1 w8) hyi (backOf (W := W) (R := R) (p := p) (e := e) (below := below) (args := args) (len := 5) (Q := fun v h L => Fr n0 L ∧ Old Z n0 h ∧ Q' v h) M C.2.2.2.2.2.1 wc wz hf hl) qa qb qc (g := mkF m pc Ls (argsL.reverse ++ .ref a :: rest)) rfl (hsz.trans C.2.2.1.symm) (Steps.refl _) (argsL := argsL) (rest := rest) (lenOf hlen hal) rfl (by show 2 * 0 + _ ≤ _; omega) (hb C.2.1 hd) (fun _ _ => ⟨rfl, eT, hc, hs⟩)
  dsimp only [Pt.U, Pt.locs, Pt.cells, Pt.slots] at X1 l1 y1 z1 s1 q1
  subst l1 y1 z1
  obtain ⟨N, O', q⟩ := q1
  obtain ⟨U, w, L', h1, r⟩ := K v _ q T1 _ (Fr.app hL N) O' X1 rfl
  exact ⟨U, w, L', s1.trans h1, r⟩
def Ar (Z : State) (h : Heap) (a : Addr) (ty : FieldType) (k : ClassId) (vs : List Value) : Prop := ∃ cl : Cell, Arr Z h a cl ty ∧ cl.cls = k ∧ cl.slots.toList = vs
theorem Ar.ext {a : Addr} {ty : FieldType} {k : ClassId} {vs : List Value} (F : Ar Z h a ty k vs) (E : Ext h h') : Ar Z h' a ty k vs := by obtain ⟨cl, A, r⟩ := F; exact ⟨cl, A.ext E, r⟩
theorem Ar.other {a b : Addr} {sl : Nat} {v : Value} {ty : FieldType} {k : ClassId} {vs : List Value} (F : Ar Z h b ty k vs) (W : Wr h h' a sl v) (q : b ≠ a) : Ar Z h' b ty k vs := by obtain ⟨cl, A, r⟩ := F; exact ⟨cl, A.other W q, r⟩
theorem Ar.keep {a : Addr} {ty : FieldType} {k : ClassId} {vs : List Value} {ws : List Addr} (F : Ar Z h a ty k vs) (K : Keep h h' ws) (q : a ∉ ws) : Ar Z h' a ty k vs := by obtain ⟨cl, A, r⟩ := F; exact ⟨cl, ⟨K.2.1 a cl A.1 q, A.2⟩, r⟩
theorem Ar.lt {a : Addr} {ty : FieldType} {k : ClassId} {vs : List Value} (F : Ar Z h a ty k vs) : a < h.size := by obtain ⟨cl, A, r⟩ := F; exact A.lt
theorem Ar.new {a : Addr} {ty : FieldType} {k : ClassId} {n : Int32} {len : Nat} (A : Arr Z h a (newA k ty n) ty) (hn : n.toNatClampNeg = len) : Ar Z h a ty k (List.replicate len (defaultValue ty)) := ⟨_, A, rfl, by subst hn; simp [newA]⟩
theorem Ar.inb {cl : Cell} {vs : List Value} {j : Int32} {i : Nat} (hn : ¬ j < 0) (hj : j.toNatClampNeg = i) (e0 : cl.slots.toList = vs) (hi : i < vs.length) : ¬ (j < 0 ∨ cl.slots.size ≤ j.toNatClampNeg) := by
  subst e0 hj
  rw [Array.length_toList] at hi
  exact fun q => q.elim hn (fun q => absurd hi (Nat.not_lt.mpr q))
theorem Ar.upd {a : Addr} {ty : FieldType} {cl : Cell} {vs : List Value} {j : Int32} {i : Nat} {v : Value} (A : Arr Z h a (cl.setSlot j.toNatClampNeg v) ty) (hj : j.toNatClampNeg = i) (e0 : cl.slots.toList = vs) : Ar Z h a ty cl.cls (vs.set i v) := ⟨_, A, rfl, by subst hj e0; simp [Cell.setSlot]⟩
theorem go_newPA (C : Ctx p s m meth c Z y bytes maxL ret) {aty : ArrayType} {n : Int32} {len : Nat} {ty : FieldType} (hty : newarray.typeOf aty = ty) (w : (Jvm.Cond.arrayClass ty).before a0 Z = true) (hd : decode bytes pc = .ok (.newarray aty, 2)) (hp : pc + 2 = pc') (hn : ¬ n < 0) (hlen : n.toNatClampNeg = len) (hb' : len * 8 ≤ 536870912) (hc : cs + 1 ≤ R.cells) (hl : sl + len ≤ R.slots)
    (K : ∀ h' a k, a = h.size → n0 ≤ a → Ext h h' → Ar Z h' a ty k (List.replicate len (defaultValue ty)) → Go p l e R s m args below meth c Z n0 Q kc ks h' (cs + 1) (sl + len) (mkF m pc' Ls (.ref a :: st))) : Go p l e R s m args below meth c Z n0 Q kc ks h cs sl (mkF m pc Ls (.int n :: st)) := by
  subst hty
  exact go_newP C w hd hp hn (Nat.le_of_eq hlen) hb' hc hl fun h' a k e1 e2 E A => K h' a k e1 e2 E (Ar.new A hlen)
theorem go_newRA (C : Ctx p s m meth c Z y bytes maxL ret) {K0 : String} {index : Nat} {n : Int32} {len : Nat} (w1 : (Jvm.Cond.classLink y.cls index K0).before a0 Z = true) (w2 : (Jvm.Cond.arrayOver (.object K0)).before a0 Z = true) (hd : decode bytes pc = .ok (.anewarray index, 3)) (hp : pc + 3 = pc') (hn : ¬ n < 0) (hlen : n.toNatClampNeg = len) (hb' : len * 8 ≤ 536870912) (hc : cs + 1 ≤ R.cells) (hl : sl + len ≤ R.slots)
    (K : ∀ h' a k, a = h.size → n0 ≤ a → Ext h h' → Ar Z h' a (.object K0) k (List.replicate len .null) → Ovr Z k K0 → Go p l e R s m args below meth c Z n0 Q kc ks h' (cs + 1) (sl + len) (mkF m pc' Ls (.ref a :: st))) : Go p l e R s m args below meth c Z n0 Q kc ks h cs sl (mkF m pc Ls (.int n :: st)) :=
  go_newR C w1 w2 hd hp hn (Nat.le_of_eq hlen) hb' hc hl fun h' a k e1 e2 E A O => K h' a k e1 e2 E (Ar.new A hlen) O
theorem go_iaset (C : Ctx p s m meth c Z y bytes maxL ret) {a : Addr} {k : ClassId} {vs vs' : List Value} {j : Int32} {i : Nat} {x : Int32} (A : Ar Z h a .int k vs) (hn : ¬ j < 0) (hj : j.toNatClampNeg = i) (hi : i < vs.length) (hvs : vs.set i (.int x) = vs') (hd : decode bytes pc = .ok (.iastore, 1)) (hp : pc + 1 = pc') (ha : n0 ≤ a)
    (K : ∀ h', Wr h h' a i (.int x) → Ar Z h' a .int k vs' → Go p l e R s m args below meth c Z n0 Q kc ks h' cs sl (mkF m pc' Ls st)) : Go p l e R s m args below meth c Z n0 Q kc ks h cs sl (mkF m pc Ls (.int x :: .int j :: .ref a :: st)) := by
  obtain ⟨cl, A, rfl, e0⟩ := A
  subst hvs
  exact go_stI C A (Ar.inb hn hj e0 hi) hd hp ha fun h' W A' => K h' (hj ▸ W) (Ar.upd A' hj e0)
theorem go_laset (C : Ctx p s m meth c Z y bytes maxL ret) {a : Addr} {k : ClassId} {vs vs' : List Value} {j : Int32} {i : Nat} {x : Int64} (A : Ar Z h a .long k vs) (hn : ¬ j < 0) (hj : j.toNatClampNeg = i) (hi : i < vs.length) (hvs : vs.set i (.long x) = vs') (hd : decode bytes pc = .ok (.lastore, 1)) (hp : pc + 1 = pc') (ha : n0 ≤ a)
    (K : ∀ h', Wr h h' a i (.long x) → Ar Z h' a .long k vs' → Go p l e R s m args below meth c Z n0 Q kc ks h' cs sl (mkF m pc' Ls st)) : Go p l e R s m args below meth c Z n0 Q kc ks h cs sl (mkF m pc Ls (.long x :: .int j :: .ref a :: st)) := by
  obtain ⟨cl, A, rfl, e0⟩ := A
  subst hvs
  exact go_stJ C A (Ar.inb hn hj e0 hi) hd hp ha fun h' W A' => K h' (hj ▸ W) (Ar.upd A' hj e0)
theorem go_caset (C : Ctx p s m meth c Z y bytes maxL ret) {a : Addr} {k : ClassId} {vs vs' : List Value} {j : Int32} {i : Nat} {x : Int32} (A : Ar Z h a .char k vs) (hn : ¬ j < 0) (hj : j.toNatClampNeg = i) (hi : i < vs.length) (hvs : vs.set i (.int (nar .char x)) = vs') (hd : decode bytes pc = .ok (.castore, 1)) (hp : pc + 1 = pc') (ha : n0 ≤ a)
    (K : ∀ h', Wr h h' a i (.int (nar .char x)) → Ar Z h' a .char k vs' → Go p l e R s m args below meth c Z n0 Q kc ks h' cs sl (mkF m pc' Ls st)) : Go p l e R s m args below meth c Z n0 Q kc ks h cs sl (mkF m pc Ls (.int x :: .int j :: .ref a :: st)) := by
  obtain ⟨cl, A, rfl, e0⟩ := A
  subst hvs
  exact go_stC C A (Ar.inb hn hj e0 hi) hd hp ha fun h' W A' => K h' (hj ▸ W) (Ar.upd A' hj e0)
theorem go_raset (C : Ctx p s m meth c Z y bytes maxL ret) {a b : Addr} {k : ClassId} {K0 : String} {vs vs' : List Value} {j : Int32} {i : Nat} (A : Ar Z h a (.object K0) k vs) (V : Ovr Z k K0) (I : Ins Z h b K0 true) (hn : ¬ j < 0) (hj : j.toNatClampNeg = i) (hi : i < vs.length) (hvs : vs.set i (.ref b) = vs') (hd : decode bytes pc = .ok (.aastore, 1)) (hp : pc + 1 = pc') (ha : n0 ≤ a)
    (K : ∀ h', Wr h h' a i (.ref b) → Ar Z h' a (.object K0) k vs' → Go p l e R s m args below meth c Z n0 Q kc ks h' cs sl (mkF m pc' Ls st)) : Go p l e R s m args below meth c Z n0 Q kc ks h cs sl (mkF m pc Ls (.ref b :: .int j :: .ref a :: st)) := by
  obtain ⟨cl, A, rfl, e0⟩ := A
  subst hvs
  exact go_stR C A (Ar.inb hn hj e0 hi) rfl (Sto.of A V I) hd hp ha fun h' W A' => K h' (hj ▸ W) (Ar.upd A' hj e0)
theorem go_raget (C : Ctx p s m meth c Z y bytes maxL ret) {a : Addr} {k : ClassId} {vs : List Value} {ty : FieldType} {j : Int32} {i : Nat} {v : Value} (A : Ar Z h a ty k vs) (hty : ty.isReference = true) (hn : ¬ j < 0) (hj : j.toNatClampNeg = i) (hv : vs[i]? = some v) (hd : decode bytes pc = .ok (.aaload, 1)) (hp : pc + 1 = pc') (K : Go p l e R s m args below meth c Z n0 Q kc ks h cs sl (mkF m pc' Ls (v :: st))) : Go p l e R s m args below meth c Z n0 Q kc ks h cs sl (mkF m pc Ls (.int j :: .ref a :: st)) := by
  obtain ⟨cl, A, rfl, e0⟩ := A
  exact go_aaload C A hty (Ar.inb hn hj e0 (List.getElem?_eq_some_iff.mp hv).1) (by subst e0 hj; rw [← hv, Array.getElem?_toList]) hd hp K
theorem go_alen (C : Ctx p s m meth c Z y bytes maxL ret) {a : Addr} {k : ClassId} {vs : List Value} {ty : FieldType} {z : Int32} (A : Ar Z h a ty k vs) (hz : vs.length.toInt32 = z) (hd : decode bytes pc = .ok (.arraylength, 1)) (hp : pc + 1 = pc') (K : Go p l e R s m args below meth c Z n0 Q kc ks h cs sl (mkF m pc' Ls (.int z :: st))) : Go p l e R s m args below meth c Z n0 Q kc ks h cs sl (mkF m pc Ls (.ref a :: st)) := by
  obtain ⟨cl, A, rfl, e0⟩ := A
  exact go_arraylength C A (by rw [← hz, ← e0, Array.length_toList]) hd hp K
theorem go_iaget (C : Ctx p s m meth c Z y bytes maxL ret) {a : Addr} {k : ClassId} {vs : List Value} {j : Int32} {i : Nat} {v : Value} (A : Ar Z h a .int k vs) (hn : ¬ j < 0) (hj : j.toNatClampNeg = i) (hv : vs[i]? = some v) (hd : decode bytes pc = .ok (.iaload, 1)) (hp : pc + 1 = pc') (K : Go p l e R s m args below meth c Z n0 Q kc ks h cs sl (mkF m pc' Ls (v :: st))) : Go p l e R s m args below meth c Z n0 Q kc ks h cs sl (mkF m pc Ls (.int j :: .ref a :: st)) := by
  obtain ⟨cl, A, rfl, e0⟩ := A
  exact go_iaload C A (Ar.inb hn hj e0 (List.getElem?_eq_some_iff.mp hv).1) (by subst e0 hj; rw [← hv, Array.getElem?_toList]) hd hp K
theorem go_laget (C : Ctx p s m meth c Z y bytes maxL ret) {a : Addr} {k : ClassId} {vs : List Value} {j : Int32} {i : Nat} {v : Value} (A : Ar Z h a .long k vs) (hn : ¬ j < 0) (hj : j.toNatClampNeg = i) (hv : vs[i]? = some v) (hd : decode bytes pc = .ok (.laload, 1)) (hp : pc + 1 = pc') (K : Go p l e R s m args below meth c Z n0 Q kc ks h cs sl (mkF m pc' Ls (v :: st))) : Go p l e R s m args below meth c Z n0 Q kc ks h cs sl (mkF m pc Ls (.int j :: .ref a :: st)) := by
  obtain ⟨cl, A, rfl, e0⟩ := A
  exact go_laload C A (Ar.inb hn hj e0 (List.getElem?_eq_some_iff.mp hv).1) (by subst e0 hj; rw [← hv, Array.getElem?_toList]) hd hp K
theorem go_caget (C : Ctx p s m meth c Z y bytes maxL ret) {a : Addr} {k : ClassId} {vs : List Value} {j : Int32} {i : Nat} {v : Value} (A : Ar Z h a .char k vs) (hn : ¬ j < 0) (hj : j.toNatClampNeg = i) (hv : vs[i]? = some v) (hd : decode bytes pc = .ok (.caload, 1)) (hp : pc + 1 = pc') (K : Go p l e R s m args below meth c Z n0 Q kc ks h cs sl (mkF m pc' Ls (v :: st))) : Go p l e R s m args below meth c Z n0 Q kc ks h cs sl (mkF m pc Ls (.int j :: .ref a :: st)) := by
  obtain ⟨cl, A, rfl, e0⟩ := A
  exact go_caload C A (Ar.inb hn hj e0 (List.getElem?_eq_some_iff.mp hv).1) (by subst e0 hj; rw [← hv, Array.getElem?_toList]) hd hp K
theorem go_clone (C : Ctx p s m meth c Z y bytes maxL ret) {ad : String} {index : Nat} {a : Addr} {ty : FieldType} {k : ClassId} {vs : List Value} {len W : Nat}
    (w1 : (Jvm.Cond.methodLink y.cls index ⟨ad, "clone", "()Ljava/lang/Object;"⟩).before a0 Z = true) (w2 : (Jvm.Cond.sameMethod ad "java/lang/Object" "clone" "()Ljava/lang/Object;").before a0 Z = true) (w3 : (Jvm.Cond.native ⟨"java/lang/Object", "clone", "()Ljava/lang/Object;"⟩).before a0 Z = true)
    (w4 : (Jvm.Cond.instanceMethod ⟨"java/lang/Object", "clone", "()Ljava/lang/Object;"⟩).before a0 Z = true) (w5 : (Jvm.Cond.selects ad ⟨ad, "clone", "()Ljava/lang/Object;"⟩ ⟨"java/lang/Object", "clone", "()Ljava/lang/Object;"⟩).before a0 Z = true) (w6 : (Jvm.Cond.castable ad "java/lang/Cloneable").before a0 Z = true)
    (A : Ar Z h a ty k vs) (E : Exa Z h a ad) (hfit : ∀ v ∈ vs, fits ty v = true) (hsz : Ls.size = maxL) (hd : decode bytes pc = .ok (.invokevirtual index, 3)) (hp : pc + 3 = pc') (hf : 1 ≤ R.frames) (hW : (st.map fun v => v.category).sum ≤ W) (hl : W + 14 ≤ R.locals) (hlen : vs.length = len) (hc : cs + 1 ≤ R.cells) (hsl : sl + len ≤ R.slots)
    (K : ∀ h' b, b = h.size → n0 ≤ b → Ext h h' → Ar Z h' b ty k vs → Exa Z h' b ad → Go p l e R s m args below meth c Z n0 Q kc ks h' (cs + 1) (sl + len) (mkF m pc' Ls (.ref b :: st))) : Go p l e R s m args below meth c Z n0 Q kc ks h cs sl (mkF m pc Ls (.ref a :: st)) := fun T L0 hL O X eT => by
  subst hp
  obtain ⟨cl, A, hk', e0⟩ := A
  have FC : FitC Z cl := fitC_of A fun i hi v hv => hfit v (by subst e0; exact List.mem_of_getElem? (by rw [Array.getElem?_toList]; exact hv))
  obtain ⟨T', h', X', e', E', A', Ex', hs⟩ := cloneA X C.1 C.2.2.2.2.2.1 C.2.2.2.2.2.2.1 w1 w2 w3 w4 w5 w6 eT A E FC (g := mkF m pc Ls (.ref a :: st)) rfl (hsz.trans C.2.2.1.symm) rfl (hb C.2.1 hd) hf (W := W) (by show 2 * 0 + _ ≤ _; omega) hl (cap := len) (by rw [← hlen, ← e0, Array.length_toList]; exact Nat.le_refl _) hc hsl
  obtain ⟨U, v, L', h1, r⟩ := K h' h.size rfl (O.1 ▸ O.2.1) E' ⟨cloneOf cl, A', hk', e0⟩ Ex' T' _ hL (O.ext E') X' e'
  exact ⟨U, v, L', hs U h1, r⟩
theorem go_newPE (C : Ctx p s m meth c Z y bytes maxL ret) {aty : ArrayType} {n : Int32} {len : Nat} {ty : FieldType} {ad : String} (hty : newarray.typeOf aty = ty) (had : "[" ++ ty.toString = ad) (w : (Jvm.Cond.arrayClass ty).before a0 Z = true) (hd : decode bytes pc = .ok (.newarray aty, 2)) (hp : pc + 2 = pc') (hn : ¬ n < 0) (hlen : n.toNatClampNeg = len) (hb' : len * 8 ≤ 536870912) (hc : cs + 1 ≤ R.cells) (hl : sl + len ≤ R.slots)
    (K : ∀ h' a k, a = h.size → n0 ≤ a → Ext h h' → Ar Z h' a ty k (List.replicate len (defaultValue ty)) → Exa Z h' a ad → Go p l e R s m args below meth c Z n0 Q kc ks h' (cs + 1) (sl + len) (mkF m pc' Ls (.ref a :: st))) : Go p l e R s m args below meth c Z n0 Q kc ks h cs sl (mkF m pc Ls (.int n :: st)) := fun T L0 hL O X eT => by
  subst hp hty
  obtain ⟨T', h', k, X', e', E, A, Ex, hs⟩ := newPE X C.1 C.2.2.2.2.2.1 w eT (g := mkF m pc Ls (.int n :: st)) rfl (hb C.2.1 hd) rfl hn (Nat.le_of_eq hlen) hb' hc hl had
  obtain ⟨U, v, L', h1, r⟩ := K h' h.size k rfl (O.1 ▸ O.2.1) E (Ar.new A hlen) Ex T' _ hL (O.ext E) X' e'
  exact ⟨U, v, L', hs U h1, r⟩
theorem go_newAA (C : Ctx p s m meth c Z y bytes maxL ret) {K0 ad : String} {ty : FieldType} {index : Nat} {n : Int32} {len : Nat} (hC : (FieldType.array ty).toString = K0) (had : "[" ++ K0 = ad) (w1 : (Jvm.Cond.classLink y.cls index K0).before a0 Z = true) (w2 : (Jvm.Cond.arrayOver (.array ty)).before a0 Z = true) (hd : decode bytes pc = .ok (.anewarray index, 3)) (hp : pc + 3 = pc') (hn : ¬ n < 0) (hlen : n.toNatClampNeg = len) (hb' : len * 8 ≤ 536870912) (hc : cs + 1 ≤ R.cells) (hl : sl + len ≤ R.slots)
    (K : ∀ h' a k, a = h.size → n0 ≤ a → Ext h h' → Ar Z h' a (.array ty) k (List.replicate len .null) → OvrA Z k ty K0 → Exa Z h' a ad → Go p l e R s m args below meth c Z n0 Q kc ks h' (cs + 1) (sl + len) (mkF m pc' Ls (.ref a :: st))) : Go p l e R s m args below meth c Z n0 Q kc ks h cs sl (mkF m pc Ls (.int n :: st)) := fun T L0 hL O X eT => by
  subst hp
  obtain ⟨T', h', k, X', e', E, A, Ex, V, hs⟩ := newRA X C.1 C.2.2.2.2.2.1 C.2.2.2.2.2.2.1 hC w1 w2 eT (g := mkF m pc Ls (.int n :: st)) rfl (hb C.2.1 hd) rfl hn (Nat.le_of_eq hlen) hb' hc hl had
  obtain ⟨U, v, L', h1, r⟩ := K h' h.size k rfl (O.1 ▸ O.2.1) E (Ar.new A hlen) V Ex T' _ hL (O.ext E) X' e'
  exact ⟨U, v, L', hs U h1, r⟩
theorem go_aaset (C : Ctx p s m meth c Z y bytes maxL ret) {a b : Addr} {k : ClassId} {K0 : String} {ty : FieldType} {vs vs' : List Value} {j : Int32} {i : Nat} (A : Ar Z h a (.array ty) k vs) (V : OvrA Z k ty K0) (I : Ins Z h b K0 true) (hn : ¬ j < 0) (hj : j.toNatClampNeg = i) (hi : i < vs.length) (hvs : vs.set i (.ref b) = vs') (hd : decode bytes pc = .ok (.aastore, 1)) (hp : pc + 1 = pc') (ha : n0 ≤ a)
    (K : ∀ h', Wr h h' a i (.ref b) → Ar Z h' a (.array ty) k vs' → Go p l e R s m args below meth c Z n0 Q kc ks h' cs sl (mkF m pc' Ls st)) : Go p l e R s m args below meth c Z n0 Q kc ks h cs sl (mkF m pc Ls (.ref b :: .int j :: .ref a :: st)) := by
  obtain ⟨cl, A, rfl, e0⟩ := A
  subst hvs
  exact go_stR C A (Ar.inb hn hj e0 hi) rfl (Sto.ofVA A rfl V I) hd hp ha fun h' W A' => K h' (hj ▸ W) (Ar.upd A' hj e0)
theorem go_dupX2 (C : Ctx p s m meth c Z y bytes maxL ret) {u v w : Value} (hd : decode bytes pc = .ok (.dup_x2, 1)) (hu : u.category = 1) (hv : v.category = 1) (hw : w.category = 1) (hp : pc + 1 = pc') (K : Go p l e R s m args below meth c Z n0 Q kc ks h cs sl (mkF m pc' Ls (u :: v :: w :: u :: st))) : Go p l e R s m args below meth c Z n0 Q kc ks h cs sl (mkF m pc Ls (u :: v :: w :: st)) := by
  subst hp
  refine go_step K fun T t a k => ?_
  have hx := C.1
  have hd' := hb C.2.1 hd
  jvm_step a [a.top, hx, hd', hu, hv, hw]
  exact k
theorem go_callP (C : Ctx p s m meth c Z y bytes maxL ret) {y' : MethodName} {bytes' : ByteArray} {maxL' : Nat} {ret' : Option FieldType} {rm' : Room} {as' : Array Value} {Q' : Option Value → Heap → Prop} {index W : Nat} {argsL rest : List Value} {ps : List FieldType} {r' : Option FieldType} (w1 : (Jvm.Cond.methodLink y.cls index y').before a0 Z = true) (w2 : (Jvm.Cond.instanceMethod y').before a0 Z = true) (w3 : (Jvm.Cond.privateMethod y').before a0 Z = true) {nn : Nat} (wi : (Jvm.Cond.instantiable y'.cls nn).before a0 Z = true) (M : Met l Z n0 y' bytes' maxL' ret' [] rm' as' h Q') (wc : (Jvm.Cond.code y' bytes' maxL' ret').before a0 Z = true) (wz : (Jvm.Cond.initialized y'.cls).before a0 Z = true) (hy : y'.cls ≠ "java/lang/invoke/MethodHandle" ∧ y'.cls ≠ "java/lang/invoke/VarHandle") (hf : rm'.frames + 1 ≤ R.frames) (hW : (rest.map fun v => v.category).sum ≤ W) (hl : W + (maxL' + 11) + rm'.locals ≤ R.locals) (hc : cs + rm'.cells ≤ R.cells) (hs : sl + rm'.slots ≤ R.slots) (hsz : Ls.size = maxL) {a : Addr} {K0 : String} (E : Exa Z h a K0) (hlen : parseMethodDescriptor y'.desc = some ⟨ps, r'⟩) (hal : argsL.length = ps.length) (hst : st = argsL.reverse ++ .ref a :: rest) (has : as' = (.ref a :: argsL).toArray) (hd : decode bytes pc = .ok (.invokevirtual index, 3)) (hp : pc + 3 = pc')
    (K : ∀ v h', Q' v h' → Go p l e R s m args below meth c Z n0 Q kc ks h' (cs + rm'.cells) (sl + rm'.slots) (mkF m pc' Ls (v.toList ++ rest))) : Go p l e R s m args below meth c Z n0 Q kc ks h cs sl (mkF m pc Ls st) := fun T L0 hL O X eT => by
  subst hp has hst
  obtain ⟨mk, methM, hnamed, hmethM, hstM, habM⟩ := Cond.instanceMethod_spec (mvT (args := args) C.2.2.2.2.2.1 w2)
  obtain ⟨methM', cM, hmethM', -, -, -, -, -, -, hsigM⟩ := Cond.code_spec hnamed (mvT (args := args) C.2.2.2.2.2.1 wc)
  cases hmethM.symm.trans hmethM'
  obtain ⟨c0, kP, i1, hkP, -, hkPi0, -⟩ := Cond.instantiable_spec (mvT (args := args) C.2.2.2.2.2.1 wi)
  have hkPi := (Bool.or_eq_false_iff.mp hkPi0).1
  cases (findClass_of_methodNamed hnamed).symm.trans i1
  obtain ⟨cell, hcell0, hobj⟩ := E.cell
  have hcell : T.heap[a]? = some cell := by rw [eT]; exact hcell0
  have hselP : selectMethod e.platform s.vm cell.cls mk = .method mk := selectMethod_private hmethM (Cond.privateMethod_at (mvP (args := args) C.2.2.2.2.2.1 w3) mk methM hnamed hmethM)
  obtain ⟨vm₁, X₁, hstep₁⟩ := X.invokevirtual C.1 C.2.2.2.2.2.2.1 (mvT C.2.2.2.2.2.1 w1) hnamed hmethM hstM hkP hkPi hy (a := a) (cell := cell) hcell hobj hselP hmethM habM hkP hkPi (g := mkF m pc Ls (argsL.reverse ++ .ref a :: rest)) rfl (argsL := argsL) (rest := rest) (lenOf hlen hal _ hsigM) rfl (hb C.2.1 hd)
  obtain ⟨v, ⟨T1, L1, k1, n1⟩, X1, ⟨Lc1, q1, l1, y1, z1⟩, hsteps⟩ := (backOf (W := W) (R := R) (p := p) (e := e) (below := below) (args := args) (len := 3) (Q := fun v h L => Fr n0 L ∧ Old Z n0 h ∧ Q' v h) M C.2.2.2.2.2.1 wc wz hf hl) m meth c ⟨T.setVm vm₁, L0, cs, sl⟩ (mkF m pc Ls rest) (.invokevirtual index) mk (.ref a :: argsL).toArray X₁ rfl (hsz.trans C.2.2.1.symm) (hb C.2.1 hd) (by show 2 * 0 + (rest.map fun v => v.category).sum ≤ W; omega) (X₁.named hnamed) ⟨rfl, eT, hc, hs⟩
  have s1 := (hstep₁ _ fun acts => by rw [doInvoke_state]; exact Steps.refl _).trans hsteps
  dsimp only [Pt.U, Pt.locs, Pt.cells, Pt.slots] at X1 l1 y1 z1 s1 q1
  subst l1 y1 z1
  obtain ⟨N, O', q⟩ := q1
  obtain ⟨U, w, L', h1, r⟩ := K v _ q T1 _ (Fr.app hL N) O' X1 rfl
  exact ⟨U, w, L', s1.trans h1, r⟩
end OwnGo
theorem wd_0 {Z : State} {a0 : Array Value} (hw : ∀ d ∈ tables_1, d.before a0 Z = true) : (Jvm.Cond.classLink "com/example/tidewater/tidewater/graph/NodeKindIsControlConsumerPinLaw" (7 : Nat) "com/example/tidewater/tidewater/graph/NodeKind").before a0 Z = true := hw _ (List.mem_of_getElem? (i := 0) rfl)
theorem wd_1 {Z : State} {a0 : Array Value} (hw : ∀ d ∈ tables_1, d.before a0 Z = true) : (Jvm.Cond.arrayOver (Jvm.ClassFile.FieldType.object "com/example/tidewater/tidewater/graph/NodeKind")).before a0 Z = true := hw _ (List.mem_of_getElem? (i := 1) rfl)
theorem wd_2 {Z : State} {a0 : Array Value} (hw : ∀ d ∈ tables_1, d.before a0 Z = true) : (Jvm.Cond.fieldLink "com/example/tidewater/tidewater/graph/NodeKindIsControlConsumerPinLaw" (9 : Nat) "com/example/tidewater/tidewater/graph/NodeKind" "START" "Lcom/example/tidewater/tidewater/graph/NodeKind;").before a0 Z = true := hw _ (List.mem_of_getElem? (i := 2) rfl)
theorem wd_3 {Z : State} {a0 : Array Value} (hw : ∀ d ∈ tables_1, d.before a0 Z = true) : (Jvm.Cond.initialized "com/example/tidewater/tidewater/graph/NodeKind").before a0 Z = true := hw _ (List.mem_of_getElem? (i := 3) rfl)
theorem wd_4 {Z : State} {a0 : Array Value} (hw : ∀ d ∈ tables_1, d.before a0 Z = true) : (Jvm.Cond.laysStatic "com/example/tidewater/tidewater/graph/NodeKind" "START" "Lcom/example/tidewater/tidewater/graph/NodeKind;").before a0 Z = true := hw _ (List.mem_of_getElem? (i := 4) rfl)
theorem wd_6 {Z : State} {a0 : Array Value} (hw : ∀ d ∈ tables_1, d.before a0 Z = true) : (Jvm.Cond.fieldLink "com/example/tidewater/tidewater/graph/NodeKindIsControlConsumerPinLaw" (13 : Nat) "com/example/tidewater/tidewater/graph/NodeKind" "PROJ" "Lcom/example/tidewater/tidewater/graph/NodeKind;").before a0 Z = true := hw _ (List.mem_of_getElem? (i := 6) rfl)
theorem wd_7 {Z : State} {a0 : Array Value} (hw : ∀ d ∈ tables_1, d.before a0 Z = true) : (Jvm.Cond.laysStatic "com/example/tidewater/tidewater/graph/NodeKind" "PROJ" "Lcom/example/tidewater/tidewater/graph/NodeKind;").before a0 Z = true := hw _ (List.mem_of_getElem? (i := 7) rfl)
theorem wd_8 {Z : State} {a0 : Array Value} (hw : ∀ d ∈ tables_1, d.before a0 Z = true) : (Jvm.Cond.fieldLink "com/example/tidewater/tidewater/graph/NodeKindIsControlConsumerPinLaw" (16 : Nat) "com/example/tidewater/tidewater/graph/NodeKind" "CONSTANT" "Lcom/example/tidewater/tidewater/graph/NodeKind;").before a0 Z = true := hw _ (List.mem_of_getElem? (i := 8) rfl)
theorem wd_9 {Z : State} {a0 : Array Value} (hw : ∀ d ∈ tables_1, d.before a0 Z = true) : (Jvm.Cond.laysStatic "com/example/tidewater/tidewater/graph/NodeKind" "CONSTANT" "Lcom/example/tidewater/tidewater/graph/NodeKind;").before a0 Z = true := hw _ (List.mem_of_getElem? (i := 9) rfl)
theorem wd_10 {Z : State} {a0 : Array Value} (hw : ∀ d ∈ tables_1, d.before a0 Z = true) : (Jvm.Cond.fieldLink "com/example/tidewater/tidewater/graph/NodeKindIsControlConsumerPinLaw" (19 : Nat) "com/example/tidewater/tidewater/graph/NodeKind" "ADD" "Lcom/example/tidewater/tidewater/graph/NodeKind;").before a0 Z = true := hw _ (List.mem_of_getElem? (i := 10) rfl)
theorem wd_11 {Z : State} {a0 : Array Value} (hw : ∀ d ∈ tables_1, d.before a0 Z = true) : (Jvm.Cond.laysStatic "com/example/tidewater/tidewater/graph/NodeKind" "ADD" "Lcom/example/tidewater/tidewater/graph/NodeKind;").before a0 Z = true := hw _ (List.mem_of_getElem? (i := 11) rfl)
theorem wd_12 {Z : State} {a0 : Array Value} (hw : ∀ d ∈ tables_1, d.before a0 Z = true) : (Jvm.Cond.fieldLink "com/example/tidewater/tidewater/graph/NodeKindIsControlConsumerPinLaw" (22 : Nat) "com/example/tidewater/tidewater/graph/NodeKind" "SUB" "Lcom/example/tidewater/tidewater/graph/NodeKind;").before a0 Z = true := hw _ (List.mem_of_getElem? (i := 12) rfl)
theorem wd_13 {Z : State} {a0 : Array Value} (hw : ∀ d ∈ tables_1, d.before a0 Z = true) : (Jvm.Cond.laysStatic "com/example/tidewater/tidewater/graph/NodeKind" "SUB" "Lcom/example/tidewater/tidewater/graph/NodeKind;").before a0 Z = true := hw _ (List.mem_of_getElem? (i := 13) rfl)
theorem wd_14 {Z : State} {a0 : Array Value} (hw : ∀ d ∈ tables_1, d.before a0 Z = true) : (Jvm.Cond.fieldLink "com/example/tidewater/tidewater/graph/NodeKindIsControlConsumerPinLaw" (25 : Nat) "com/example/tidewater/tidewater/graph/NodeKind" "MUL" "Lcom/example/tidewater/tidewater/graph/NodeKind;").before a0 Z = true := hw _ (List.mem_of_getElem? (i := 14) rfl)
theorem wd_15 {Z : State} {a0 : Array Value} (hw : ∀ d ∈ tables_1, d.before a0 Z = true) : (Jvm.Cond.laysStatic "com/example/tidewater/tidewater/graph/NodeKind" "MUL" "Lcom/example/tidewater/tidewater/graph/NodeKind;").before a0 Z = true := hw _ (List.mem_of_getElem? (i := 15) rfl)
theorem wd_16 {Z : State} {a0 : Array Value} (hw : ∀ d ∈ tables_1, d.before a0 Z = true) : (Jvm.Cond.fieldLink "com/example/tidewater/tidewater/graph/NodeKindIsControlConsumerPinLaw" (28 : Nat) "com/example/tidewater/tidewater/graph/NodeKind" "DIV" "Lcom/example/tidewater/tidewater/graph/NodeKind;").before a0 Z = true := hw _ (List.mem_of_getElem? (i := 16) rfl)
theorem wd_17 {Z : State} {a0 : Array Value} (hw : ∀ d ∈ tables_1, d.before a0 Z = true) : (Jvm.Cond.laysStatic "com/example/tidewater/tidewater/graph/NodeKind" "DIV" "Lcom/example/tidewater/tidewater/graph/NodeKind;").before a0 Z = true := hw _ (List.mem_of_getElem? (i := 17) rfl)
theorem wd_18 {Z : State} {a0 : Array Value} (hw : ∀ d ∈ tables_1, d.before a0 Z = true) : (Jvm.Cond.fieldLink "com/example/tidewater/tidewater/graph/NodeKindIsControlConsumerPinLaw" (31 : Nat) "com/example/tidewater/tidewater/graph/NodeKind" "MOD" "Lcom/example/tidewater/tidewater/graph/NodeKind;").before a0 Z = true := hw _ (List.mem_of_getElem? (i := 18) rfl)
theorem wd_19 {Z : State} {a0 : Array Value} (hw : ∀ d ∈ tables_1, d.before a0 Z = true) : (Jvm.Cond.laysStatic "com/example/tidewater/tidewater/graph/NodeKind" "MOD" "Lcom/example/tidewater/tidewater/graph/NodeKind;").before a0 Z = true := hw _ (List.mem_of_getElem? (i := 19) rfl)
theorem wd_20 {Z : State} {a0 : Array Value} (hw : ∀ d ∈ tables_1, d.before a0 Z = true) : (Jvm.Cond.fieldLink "com/example/tidewater/tidewater/graph/NodeKindIsControlConsumerPinLaw" (34 : Nat) "com/example/tidewater/tidewater/graph/NodeKind" "NEG" "Lcom/example/tidewater/tidewater/graph/NodeKind;").before a0 Z = true := hw _ (List.mem_of_getElem? (i := 20) rfl)
theorem wd_21 {Z : State} {a0 : Array Value} (hw : ∀ d ∈ tables_1, d.before a0 Z = true) : (Jvm.Cond.laysStatic "com/example/tidewater/tidewater/graph/NodeKind" "NEG" "Lcom/example/tidewater/tidewater/graph/NodeKind;").before a0 Z = true := hw _ (List.mem_of_getElem? (i := 21) rfl)
theorem wd_22 {Z : State} {a0 : Array Value} (hw : ∀ d ∈ tables_1, d.before a0 Z = true) : (Jvm.Cond.fieldLink "com/example/tidewater/tidewater/graph/NodeKindIsControlConsumerPinLaw" (37 : Nat) "com/example/tidewater/tidewater/graph/NodeKind" "NOT" "Lcom/example/tidewater/tidewater/graph/NodeKind;").before a0 Z = true := hw _ (List.mem_of_getElem? (i := 22) rfl)
theorem wd_23 {Z : State} {a0 : Array Value} (hw : ∀ d ∈ tables_1, d.before a0 Z = true) : (Jvm.Cond.laysStatic "com/example/tidewater/tidewater/graph/NodeKind" "NOT" "Lcom/example/tidewater/tidewater/graph/NodeKind;").before a0 Z = true := hw _ (List.mem_of_getElem? (i := 23) rfl)
theorem wd_24 {Z : State} {a0 : Array Value} (hw : ∀ d ∈ tables_1, d.before a0 Z = true) : (Jvm.Cond.fieldLink "com/example/tidewater/tidewater/graph/NodeKindIsControlConsumerPinLaw" (40 : Nat) "com/example/tidewater/tidewater/graph/NodeKind" "EQ" "Lcom/example/tidewater/tidewater/graph/NodeKind;").before a0 Z = true := hw _ (List.mem_of_getElem? (i := 24) rfl)
theorem wd_25 {Z : State} {a0 : Array Value} (hw : ∀ d ∈ tables_1, d.before a0 Z = true) : (Jvm.Cond.laysStatic "com/example/tidewater/tidewater/graph/NodeKind" "EQ" "Lcom/example/tidewater/tidewater/graph/NodeKind;").before a0 Z = true := hw _ (List.mem_of_getElem? (i := 25) rfl)
theorem wd_26 {Z : State} {a0 : Array Value} (hw : ∀ d ∈ tables_1, d.before a0 Z = true) : (Jvm.Cond.fieldLink "com/example/tidewater/tidewater/graph/NodeKindIsControlConsumerPinLaw" (43 : Nat) "com/example/tidewater/tidewater/graph/NodeKind" "NE" "Lcom/example/tidewater/tidewater/graph/NodeKind;").before a0 Z = true := hw _ (List.mem_of_getElem? (i := 26) rfl)
theorem wd_27 {Z : State} {a0 : Array Value} (hw : ∀ d ∈ tables_1, d.before a0 Z = true) : (Jvm.Cond.laysStatic "com/example/tidewater/tidewater/graph/NodeKind" "NE" "Lcom/example/tidewater/tidewater/graph/NodeKind;").before a0 Z = true := hw _ (List.mem_of_getElem? (i := 27) rfl)
theorem wd_28 {Z : State} {a0 : Array Value} (hw : ∀ d ∈ tables_1, d.before a0 Z = true) : (Jvm.Cond.fieldLink "com/example/tidewater/tidewater/graph/NodeKindIsControlConsumerPinLaw" (46 : Nat) "com/example/tidewater/tidewater/graph/NodeKind" "LT" "Lcom/example/tidewater/tidewater/graph/NodeKind;").before a0 Z = true := hw _ (List.mem_of_getElem? (i := 28) rfl)
theorem wd_29 {Z : State} {a0 : Array Value} (hw : ∀ d ∈ tables_1, d.before a0 Z = true) : (Jvm.Cond.laysStatic "com/example/tidewater/tidewater/graph/NodeKind" "LT" "Lcom/example/tidewater/tidewater/graph/NodeKind;").before a0 Z = true := hw _ (List.mem_of_getElem? (i := 29) rfl)
theorem wd_30 {Z : State} {a0 : Array Value} (hw : ∀ d ∈ tables_1, d.before a0 Z = true) : (Jvm.Cond.fieldLink "com/example/tidewater/tidewater/graph/NodeKindIsControlConsumerPinLaw" (49 : Nat) "com/example/tidewater/tidewater/graph/NodeKind" "LE" "Lcom/example/tidewater/tidewater/graph/NodeKind;").before a0 Z = true := hw _ (List.mem_of_getElem? (i := 30) rfl)
theorem wd_31 {Z : State} {a0 : Array Value} (hw : ∀ d ∈ tables_1, d.before a0 Z = true) : (Jvm.Cond.laysStatic "com/example/tidewater/tidewater/graph/NodeKind" "LE" "Lcom/example/tidewater/tidewater/graph/NodeKind;").before a0 Z = true := hw _ (List.mem_of_getElem? (i := 31) rfl)
theorem wd_32 {Z : State} {a0 : Array Value} (hw : ∀ d ∈ tables_1, d.before a0 Z = true) : (Jvm.Cond.fieldLink "com/example/tidewater/tidewater/graph/NodeKindIsControlConsumerPinLaw" (52 : Nat) "com/example/tidewater/tidewater/graph/NodeKind" "GT" "Lcom/example/tidewater/tidewater/graph/NodeKind;").before a0 Z = true := hw _ (List.mem_of_getElem? (i := 32) rfl)
theorem wd_33 {Z : State} {a0 : Array Value} (hw : ∀ d ∈ tables_1, d.before a0 Z = true) : (Jvm.Cond.laysStatic "com/example/tidewater/tidewater/graph/NodeKind" "GT" "Lcom/example/tidewater/tidewater/graph/NodeKind;").before a0 Z = true := hw _ (List.mem_of_getElem? (i := 33) rfl)
theorem wd_34 {Z : State} {a0 : Array Value} (hw : ∀ d ∈ tables_1, d.before a0 Z = true) : (Jvm.Cond.fieldLink "com/example/tidewater/tidewater/graph/NodeKindIsControlConsumerPinLaw" (55 : Nat) "com/example/tidewater/tidewater/graph/NodeKind" "GE" "Lcom/example/tidewater/tidewater/graph/NodeKind;").before a0 Z = true := hw _ (List.mem_of_getElem? (i := 34) rfl)
theorem wd_35 {Z : State} {a0 : Array Value} (hw : ∀ d ∈ tables_1, d.before a0 Z = true) : (Jvm.Cond.laysStatic "com/example/tidewater/tidewater/graph/NodeKind" "GE" "Lcom/example/tidewater/tidewater/graph/NodeKind;").before a0 Z = true := hw _ (List.mem_of_getElem? (i := 35) rfl)
theorem wd_36 {Z : State} {a0 : Array Value} (hw : ∀ d ∈ tables_1, d.before a0 Z = true) : (Jvm.Cond.fieldLink "com/example/tidewater/tidewater/graph/NodeKindIsControlConsumerPinLaw" (58 : Nat) "com/example/tidewater/tidewater/graph/NodeKind" "IF" "Lcom/example/tidewater/tidewater/graph/NodeKind;").before a0 Z = true := hw _ (List.mem_of_getElem? (i := 36) rfl)
theorem wd_37 {Z : State} {a0 : Array Value} (hw : ∀ d ∈ tables_1, d.before a0 Z = true) : (Jvm.Cond.laysStatic "com/example/tidewater/tidewater/graph/NodeKind" "IF" "Lcom/example/tidewater/tidewater/graph/NodeKind;").before a0 Z = true := hw _ (List.mem_of_getElem? (i := 37) rfl)
theorem wd_38 {Z : State} {a0 : Array Value} (hw : ∀ d ∈ tables_1, d.before a0 Z = true) : (Jvm.Cond.fieldLink "com/example/tidewater/tidewater/graph/NodeKindIsControlConsumerPinLaw" (61 : Nat) "com/example/tidewater/tidewater/graph/NodeKind" "REGION" "Lcom/example/tidewater/tidewater/graph/NodeKind;").before a0 Z = true := hw _ (List.mem_of_getElem? (i := 38) rfl)
theorem wd_39 {Z : State} {a0 : Array Value} (hw : ∀ d ∈ tables_1, d.before a0 Z = true) : (Jvm.Cond.laysStatic "com/example/tidewater/tidewater/graph/NodeKind" "REGION" "Lcom/example/tidewater/tidewater/graph/NodeKind;").before a0 Z = true := hw _ (List.mem_of_getElem? (i := 39) rfl)
theorem wd_40 {Z : State} {a0 : Array Value} (hw : ∀ d ∈ tables_1, d.before a0 Z = true) : (Jvm.Cond.fieldLink "com/example/tidewater/tidewater/graph/NodeKindIsControlConsumerPinLaw" (64 : Nat) "com/example/tidewater/tidewater/graph/NodeKind" "LOOP" "Lcom/example/tidewater/tidewater/graph/NodeKind;").before a0 Z = true := hw _ (List.mem_of_getElem? (i := 40) rfl)
theorem wd_41 {Z : State} {a0 : Array Value} (hw : ∀ d ∈ tables_1, d.before a0 Z = true) : (Jvm.Cond.laysStatic "com/example/tidewater/tidewater/graph/NodeKind" "LOOP" "Lcom/example/tidewater/tidewater/graph/NodeKind;").before a0 Z = true := hw _ (List.mem_of_getElem? (i := 41) rfl)
theorem wd_42 {Z : State} {a0 : Array Value} (hw : ∀ d ∈ tables_1, d.before a0 Z = true) : (Jvm.Cond.fieldLink "com/example/tidewater/tidewater/graph/NodeKindIsControlConsumerPinLaw" (67 : Nat) "com/example/tidewater/tidewater/graph/NodeKind" "PHI" "Lcom/example/tidewater/tidewater/graph/NodeKind;").before a0 Z = true := hw _ (List.mem_of_getElem? (i := 42) rfl)
theorem wd_43 {Z : State} {a0 : Array Value} (hw : ∀ d ∈ tables_1, d.before a0 Z = true) : (Jvm.Cond.laysStatic "com/example/tidewater/tidewater/graph/NodeKind" "PHI" "Lcom/example/tidewater/tidewater/graph/NodeKind;").before a0 Z = true := hw _ (List.mem_of_getElem? (i := 43) rfl)
theorem wd_44 {Z : State} {a0 : Array Value} (hw : ∀ d ∈ tables_1, d.before a0 Z = true) : (Jvm.Cond.fieldLink "com/example/tidewater/tidewater/graph/NodeKindIsControlConsumerPinLaw" (70 : Nat) "com/example/tidewater/tidewater/graph/NodeKind" "ZERO_CHECK" "Lcom/example/tidewater/tidewater/graph/NodeKind;").before a0 Z = true := hw _ (List.mem_of_getElem? (i := 44) rfl)
theorem wd_45 {Z : State} {a0 : Array Value} (hw : ∀ d ∈ tables_1, d.before a0 Z = true) : (Jvm.Cond.laysStatic "com/example/tidewater/tidewater/graph/NodeKind" "ZERO_CHECK" "Lcom/example/tidewater/tidewater/graph/NodeKind;").before a0 Z = true := hw _ (List.mem_of_getElem? (i := 45) rfl)
theorem wd_46 {Z : State} {a0 : Array Value} (hw : ∀ d ∈ tables_1, d.before a0 Z = true) : (Jvm.Cond.fieldLink "com/example/tidewater/tidewater/graph/NodeKindIsControlConsumerPinLaw" (73 : Nat) "com/example/tidewater/tidewater/graph/NodeKind" "RETURN" "Lcom/example/tidewater/tidewater/graph/NodeKind;").before a0 Z = true := hw _ (List.mem_of_getElem? (i := 46) rfl)
theorem wd_47 {Z : State} {a0 : Array Value} (hw : ∀ d ∈ tables_1, d.before a0 Z = true) : (Jvm.Cond.laysStatic "com/example/tidewater/tidewater/graph/NodeKind" "RETURN" "Lcom/example/tidewater/tidewater/graph/NodeKind;").before a0 Z = true := hw _ (List.mem_of_getElem? (i := 47) rfl)
theorem wd_48 {Z : State} {a0 : Array Value} (hw : ∀ d ∈ tables_1, d.before a0 Z = true) : (Jvm.Cond.fieldLink "com/example/tidewater/tidewater/graph/NodeKindIsControlConsumerPinLaw" (76 : Nat) "com/example/tidewater/tidewater/graph/NodeKind" "STOP" "Lcom/example/tidewater/tidewater/graph/NodeKind;").before a0 Z = true := hw _ (List.mem_of_getElem? (i := 48) rfl)
theorem wd_49 {Z : State} {a0 : Array Value} (hw : ∀ d ∈ tables_1, d.before a0 Z = true) : (Jvm.Cond.laysStatic "com/example/tidewater/tidewater/graph/NodeKind" "STOP" "Lcom/example/tidewater/tidewater/graph/NodeKind;").before a0 Z = true := hw _ (List.mem_of_getElem? (i := 49) rfl)
theorem wd_50 {Z : State} {a0 : Array Value} (hw : ∀ d ∈ tables_1, d.before a0 Z = true) : (Jvm.Cond.constant "com/example/tidewater/tidewater/graph/NodeKindIsControlConsumerPinLaw" (79 : Nat) (2147483647 : Int32)).before a0 Z = true := hw _ (List.mem_of_getElem? (i := 50) rfl)
theorem wd_51 {Z : State} {a0 : Array Value} (hw : ∀ d ∈ tables_1, d.before a0 Z = true) : (Jvm.Cond.methodLink "com/example/tidewater/tidewater/graph/NodeKindIsControlConsumerPinLaw" (80 : Nat) ({ cls := "com/example/tidewater/tidewater/graph/NodeKind", name := "isControlConsumer", desc := "()Z" } : Jvm.MethodName)).before a0 Z = true := hw _ (List.mem_of_getElem? (i := 51) rfl)
theorem wd_52 {Z : State} {a0 : Array Value} (hw : ∀ d ∈ tables_1, d.before a0 Z = true) : (Jvm.Cond.declares ({ cls := "com/example/tidewater/tidewater/graph/NodeKind", name := "isControlConsumer", desc := "()Z" } : Jvm.MethodName)).before a0 Z = true := hw _ (List.mem_of_getElem? (i := 52) rfl)
theorem wd_53 {Z : State} {a0 : Array Value} (hw : ∀ d ∈ tables_1, d.before a0 Z = true) : (Jvm.Cond.instanceMethod ({ cls := "com/example/tidewater/tidewater/graph/NodeKind", name := "isControlConsumer", desc := "()Z" } : Jvm.MethodName)).before a0 Z = true := hw _ (List.mem_of_getElem? (i := 53) rfl)
theorem wd_54 {Z : State} {a0 : Array Value} (hw : ∀ d ∈ tables_1, d.before a0 Z = true) : (Jvm.Cond.selects "com/example/tidewater/tidewater/graph/NodeKind" ({ cls := "com/example/tidewater/tidewater/graph/NodeKind", name := "isControlConsumer", desc := "()Z" } : Jvm.MethodName) ({ cls := "com/example/tidewater/tidewater/graph/NodeKind", name := "isControlConsumer", desc := "()Z" } : Jvm.MethodName)).before a0 Z = true := hw _ (List.mem_of_getElem? (i := 54) rfl)
theorem wd_55 {Z : State} {a0 : Array Value} (hw : ∀ d ∈ tables_1, d.before a0 Z = true) : (Jvm.Cond.code ({ cls := "com/example/tidewater/tidewater/graph/NodeKind", name := "isControlConsumer", desc := "()Z" } : Jvm.MethodName) prog_21_method_12_code (1 : Nat) (Option.some Jvm.ClassFile.FieldType.boolean)).before a0 Z = true := hw _ (List.mem_of_getElem? (i := 55) rfl)
theorem wd_56 {Z : State} {a0 : Array Value} (hw : ∀ d ∈ tables_1, d.before a0 Z = true) : (Jvm.Cond.fieldLink "com/example/tidewater/tidewater/graph/NodeKind" (52 : Nat) "com/example/tidewater/tidewater/graph/NodeKind" "IF" "Lcom/example/tidewater/tidewater/graph/NodeKind;").before a0 Z = true := hw _ (List.mem_of_getElem? (i := 56) rfl)
theorem wd_57 {Z : State} {a0 : Array Value} (hw : ∀ d ∈ tables_1, d.before a0 Z = true) : (Jvm.Cond.fieldLink "com/example/tidewater/tidewater/graph/NodeKind" (67 : Nat) "com/example/tidewater/tidewater/graph/NodeKind" "RETURN" "Lcom/example/tidewater/tidewater/graph/NodeKind;").before a0 Z = true := hw _ (List.mem_of_getElem? (i := 57) rfl)
theorem wd_58 {Z : State} {a0 : Array Value} (hw : ∀ d ∈ tables_1, d.before a0 Z = true) : (Jvm.Cond.fieldLink "com/example/tidewater/tidewater/graph/NodeKind" (64 : Nat) "com/example/tidewater/tidewater/graph/NodeKind" "ZERO_CHECK" "Lcom/example/tidewater/tidewater/graph/NodeKind;").before a0 Z = true := hw _ (List.mem_of_getElem? (i := 58) rfl)
theorem wd_59 {Z : State} {a0 : Array Value} (hw : ∀ d ∈ tables_1, d.before a0 Z = true) : (Jvm.Cond.fieldLink "com/example/tidewater/tidewater/graph/NodeKind" (55 : Nat) "com/example/tidewater/tidewater/graph/NodeKind" "REGION" "Lcom/example/tidewater/tidewater/graph/NodeKind;").before a0 Z = true := hw _ (List.mem_of_getElem? (i := 59) rfl)
theorem wd_60 {Z : State} {a0 : Array Value} (hw : ∀ d ∈ tables_1, d.before a0 Z = true) : (Jvm.Cond.fieldLink "com/example/tidewater/tidewater/graph/NodeKind" (58 : Nat) "com/example/tidewater/tidewater/graph/NodeKind" "LOOP" "Lcom/example/tidewater/tidewater/graph/NodeKind;").before a0 Z = true := hw _ (List.mem_of_getElem? (i := 60) rfl)
theorem pd_0 : parseMethodDescriptor "()Z" = some ⟨[], some .boolean⟩ := by decide +kernel
theorem dc_prog_21_method_12_code_0 : decode prog_21_method_12_code 0 = .ok (.aload_n 0, 1) := by decide +kernel
theorem dc_prog_21_method_12_code_1 : decode prog_21_method_12_code 1 = .ok (.getstatic 52, 3) := by decide +kernel
theorem dc_prog_21_method_12_code_4 : decode prog_21_method_12_code 4 = .ok (.if_acmp .eq 31, 3) := by decide +kernel
theorem dc_prog_21_method_12_code_7 : decode prog_21_method_12_code 7 = .ok (.aload_n 0, 1) := by decide +kernel
theorem dc_prog_21_method_12_code_8 : decode prog_21_method_12_code 8 = .ok (.getstatic 67, 3) := by decide +kernel
theorem dc_prog_21_method_12_code_11 : decode prog_21_method_12_code 11 = .ok (.if_acmp .eq 24, 3) := by decide +kernel
theorem dc_prog_21_method_12_code_14 : decode prog_21_method_12_code 14 = .ok (.aload_n 0, 1) := by decide +kernel
theorem dc_prog_21_method_12_code_15 : decode prog_21_method_12_code 15 = .ok (.getstatic 64, 3) := by decide +kernel
theorem dc_prog_21_method_12_code_18 : decode prog_21_method_12_code 18 = .ok (.if_acmp .eq 17, 3) := by decide +kernel
theorem dc_prog_21_method_12_code_21 : decode prog_21_method_12_code 21 = .ok (.aload_n 0, 1) := by decide +kernel
theorem dc_prog_21_method_12_code_22 : decode prog_21_method_12_code 22 = .ok (.getstatic 55, 3) := by decide +kernel
theorem dc_prog_21_method_12_code_25 : decode prog_21_method_12_code 25 = .ok (.if_acmp .eq 10, 3) := by decide +kernel
theorem dc_prog_21_method_12_code_28 : decode prog_21_method_12_code 28 = .ok (.aload_n 0, 1) := by decide +kernel
theorem dc_prog_21_method_12_code_29 : decode prog_21_method_12_code 29 = .ok (.getstatic 58, 3) := by decide +kernel
theorem dc_prog_21_method_12_code_32 : decode prog_21_method_12_code 32 = .ok (.if_acmp .ne 7, 3) := by decide +kernel
theorem dc_prog_21_method_12_code_35 : decode prog_21_method_12_code 35 = .ok (.iconst 1, 1) := by decide +kernel
theorem dc_prog_21_method_12_code_36 : decode prog_21_method_12_code 36 = .ok (.goto 4, 3) := by decide +kernel
theorem dc_prog_21_method_12_code_39 : decode prog_21_method_12_code 39 = .ok (.iconst 0, 1) := by decide +kernel
theorem dc_prog_21_method_12_code_40 : decode prog_21_method_12_code 40 = .ok (.ireturn, 1) := by decide +kernel
theorem own_eqI {args : Array Value} {first s : State} {o : Option Outcome} {idx : List Nat} {t : Term} {k : Int32} (h : (Jvm.Cond.eq t (.int k)).value args first o s idx = some true) : t.eval args first o idx s = some (.int k) := by
  simp only [Cond.value, Term.eval] at h
  cases ht : t.eval args first o idx s with
  | none => simp [ht] at h
  | some x => cases x <;> simp [ht] at h ⊢; exact h
def En_START (Z : State) (h : Heap) (a : Addr) : Prop := Sta Z h "com/example/tidewater/tidewater/graph/NodeKind" "START" "Lcom/example/tidewater/tidewater/graph/NodeKind;" (.ref a) ∧ Exa Z h a "com/example/tidewater/tidewater/graph/NodeKind" ∧ Fld Z h a "java/lang/Enum" "ordinal" "I" (.int (0 : Int32))
theorem En_START.ext {Z : State} {h h' : Heap} {a : Addr} (F : En_START Z h a) (E : Ext h h') : En_START Z h' a := ⟨F.1.ext E, F.2.1.ext E, F.2.2.ext E⟩
def En_PROJ (Z : State) (h : Heap) (a : Addr) : Prop := Sta Z h "com/example/tidewater/tidewater/graph/NodeKind" "PROJ" "Lcom/example/tidewater/tidewater/graph/NodeKind;" (.ref a) ∧ Exa Z h a "com/example/tidewater/tidewater/graph/NodeKind" ∧ Fld Z h a "java/lang/Enum" "ordinal" "I" (.int (1 : Int32))
theorem En_PROJ.ext {Z : State} {h h' : Heap} {a : Addr} (F : En_PROJ Z h a) (E : Ext h h') : En_PROJ Z h' a := ⟨F.1.ext E, F.2.1.ext E, F.2.2.ext E⟩
def En_CONSTANT (Z : State) (h : Heap) (a : Addr) : Prop := Sta Z h "com/example/tidewater/tidewater/graph/NodeKind" "CONSTANT" "Lcom/example/tidewater/tidewater/graph/NodeKind;" (.ref a) ∧ Exa Z h a "com/example/tidewater/tidewater/graph/NodeKind" ∧ Fld Z h a "java/lang/Enum" "ordinal" "I" (.int (2 : Int32))
theorem En_CONSTANT.ext {Z : State} {h h' : Heap} {a : Addr} (F : En_CONSTANT Z h a) (E : Ext h h') : En_CONSTANT Z h' a := ⟨F.1.ext E, F.2.1.ext E, F.2.2.ext E⟩
def En_ADD (Z : State) (h : Heap) (a : Addr) : Prop := Sta Z h "com/example/tidewater/tidewater/graph/NodeKind" "ADD" "Lcom/example/tidewater/tidewater/graph/NodeKind;" (.ref a) ∧ Exa Z h a "com/example/tidewater/tidewater/graph/NodeKind" ∧ Fld Z h a "java/lang/Enum" "ordinal" "I" (.int (3 : Int32))
theorem En_ADD.ext {Z : State} {h h' : Heap} {a : Addr} (F : En_ADD Z h a) (E : Ext h h') : En_ADD Z h' a := ⟨F.1.ext E, F.2.1.ext E, F.2.2.ext E⟩
def En_SUB (Z : State) (h : Heap) (a : Addr) : Prop := Sta Z h "com/example/tidewater/tidewater/graph/NodeKind" "SUB" "Lcom/example/tidewater/tidewater/graph/NodeKind;" (.ref a) ∧ Exa Z h a "com/example/tidewater/tidewater/graph/NodeKind" ∧ Fld Z h a "java/lang/Enum" "ordinal" "I" (.int (4 : Int32))
theorem En_SUB.ext {Z : State} {h h' : Heap} {a : Addr} (F : En_SUB Z h a) (E : Ext h h') : En_SUB Z h' a := ⟨F.1.ext E, F.2.1.ext E, F.2.2.ext E⟩
def En_MUL (Z : State) (h : Heap) (a : Addr) : Prop := Sta Z h "com/example/tidewater/tidewater/graph/NodeKind" "MUL" "Lcom/example/tidewater/tidewater/graph/NodeKind;" (.ref a) ∧ Exa Z h a "com/example/tidewater/tidewater/graph/NodeKind" ∧ Fld Z h a "java/lang/Enum" "ordinal" "I" (.int (5 : Int32))
theorem En_MUL.ext {Z : State} {h h' : Heap} {a : Addr} (F : En_MUL Z h a) (E : Ext h h') : En_MUL Z h' a := ⟨F.1.ext E, F.2.1.ext E, F.2.2.ext E⟩
def En_DIV (Z : State) (h : Heap) (a : Addr) : Prop := Sta Z h "com/example/tidewater/tidewater/graph/NodeKind" "DIV" "Lcom/example/tidewater/tidewater/graph/NodeKind;" (.ref a) ∧ Exa Z h a "com/example/tidewater/tidewater/graph/NodeKind" ∧ Fld Z h a "java/lang/Enum" "ordinal" "I" (.int (6 : Int32))
theorem En_DIV.ext {Z : State} {h h' : Heap} {a : Addr} (F : En_DIV Z h a) (E : Ext h h') : En_DIV Z h' a := ⟨F.1.ext E, F.2.1.ext E, F.2.2.ext E⟩
def En_MOD (Z : State) (h : Heap) (a : Addr) : Prop := Sta Z h "com/example/tidewater/tidewater/graph/NodeKind" "MOD" "Lcom/example/tidewater/tidewater/graph/NodeKind;" (.ref a) ∧ Exa Z h a "com/example/tidewater/tidewater/graph/NodeKind" ∧ Fld Z h a "java/lang/Enum" "ordinal" "I" (.int (7 : Int32))
theorem En_MOD.ext {Z : State} {h h' : Heap} {a : Addr} (F : En_MOD Z h a) (E : Ext h h') : En_MOD Z h' a := ⟨F.1.ext E, F.2.1.ext E, F.2.2.ext E⟩
def En_NEG (Z : State) (h : Heap) (a : Addr) : Prop := Sta Z h "com/example/tidewater/tidewater/graph/NodeKind" "NEG" "Lcom/example/tidewater/tidewater/graph/NodeKind;" (.ref a) ∧ Exa Z h a "com/example/tidewater/tidewater/graph/NodeKind" ∧ Fld Z h a "java/lang/Enum" "ordinal" "I" (.int (8 : Int32))
theorem En_NEG.ext {Z : State} {h h' : Heap} {a : Addr} (F : En_NEG Z h a) (E : Ext h h') : En_NEG Z h' a := ⟨F.1.ext E, F.2.1.ext E, F.2.2.ext E⟩
def En_NOT (Z : State) (h : Heap) (a : Addr) : Prop := Sta Z h "com/example/tidewater/tidewater/graph/NodeKind" "NOT" "Lcom/example/tidewater/tidewater/graph/NodeKind;" (.ref a) ∧ Exa Z h a "com/example/tidewater/tidewater/graph/NodeKind" ∧ Fld Z h a "java/lang/Enum" "ordinal" "I" (.int (9 : Int32))
theorem En_NOT.ext {Z : State} {h h' : Heap} {a : Addr} (F : En_NOT Z h a) (E : Ext h h') : En_NOT Z h' a := ⟨F.1.ext E, F.2.1.ext E, F.2.2.ext E⟩
def En_EQ (Z : State) (h : Heap) (a : Addr) : Prop := Sta Z h "com/example/tidewater/tidewater/graph/NodeKind" "EQ" "Lcom/example/tidewater/tidewater/graph/NodeKind;" (.ref a) ∧ Exa Z h a "com/example/tidewater/tidewater/graph/NodeKind" ∧ Fld Z h a "java/lang/Enum" "ordinal" "I" (.int (10 : Int32))
theorem En_EQ.ext {Z : State} {h h' : Heap} {a : Addr} (F : En_EQ Z h a) (E : Ext h h') : En_EQ Z h' a := ⟨F.1.ext E, F.2.1.ext E, F.2.2.ext E⟩
def En_NE (Z : State) (h : Heap) (a : Addr) : Prop := Sta Z h "com/example/tidewater/tidewater/graph/NodeKind" "NE" "Lcom/example/tidewater/tidewater/graph/NodeKind;" (.ref a) ∧ Exa Z h a "com/example/tidewater/tidewater/graph/NodeKind" ∧ Fld Z h a "java/lang/Enum" "ordinal" "I" (.int (11 : Int32))
theorem En_NE.ext {Z : State} {h h' : Heap} {a : Addr} (F : En_NE Z h a) (E : Ext h h') : En_NE Z h' a := ⟨F.1.ext E, F.2.1.ext E, F.2.2.ext E⟩
def En_LT (Z : State) (h : Heap) (a : Addr) : Prop := Sta Z h "com/example/tidewater/tidewater/graph/NodeKind" "LT" "Lcom/example/tidewater/tidewater/graph/NodeKind;" (.ref a) ∧ Exa Z h a "com/example/tidewater/tidewater/graph/NodeKind" ∧ Fld Z h a "java/lang/Enum" "ordinal" "I" (.int (12 : Int32))
theorem En_LT.ext {Z : State} {h h' : Heap} {a : Addr} (F : En_LT Z h a) (E : Ext h h') : En_LT Z h' a := ⟨F.1.ext E, F.2.1.ext E, F.2.2.ext E⟩
def En_LE (Z : State) (h : Heap) (a : Addr) : Prop := Sta Z h "com/example/tidewater/tidewater/graph/NodeKind" "LE" "Lcom/example/tidewater/tidewater/graph/NodeKind;" (.ref a) ∧ Exa Z h a "com/example/tidewater/tidewater/graph/NodeKind" ∧ Fld Z h a "java/lang/Enum" "ordinal" "I" (.int (13 : Int32))
theorem En_LE.ext {Z : State} {h h' : Heap} {a : Addr} (F : En_LE Z h a) (E : Ext h h') : En_LE Z h' a := ⟨F.1.ext E, F.2.1.ext E, F.2.2.ext E⟩
def En_GT (Z : State) (h : Heap) (a : Addr) : Prop := Sta Z h "com/example/tidewater/tidewater/graph/NodeKind" "GT" "Lcom/example/tidewater/tidewater/graph/NodeKind;" (.ref a) ∧ Exa Z h a "com/example/tidewater/tidewater/graph/NodeKind" ∧ Fld Z h a "java/lang/Enum" "ordinal" "I" (.int (14 : Int32))
theorem En_GT.ext {Z : State} {h h' : Heap} {a : Addr} (F : En_GT Z h a) (E : Ext h h') : En_GT Z h' a := ⟨F.1.ext E, F.2.1.ext E, F.2.2.ext E⟩
def En_GE (Z : State) (h : Heap) (a : Addr) : Prop := Sta Z h "com/example/tidewater/tidewater/graph/NodeKind" "GE" "Lcom/example/tidewater/tidewater/graph/NodeKind;" (.ref a) ∧ Exa Z h a "com/example/tidewater/tidewater/graph/NodeKind" ∧ Fld Z h a "java/lang/Enum" "ordinal" "I" (.int (15 : Int32))
theorem En_GE.ext {Z : State} {h h' : Heap} {a : Addr} (F : En_GE Z h a) (E : Ext h h') : En_GE Z h' a := ⟨F.1.ext E, F.2.1.ext E, F.2.2.ext E⟩
def En_IF (Z : State) (h : Heap) (a : Addr) : Prop := Sta Z h "com/example/tidewater/tidewater/graph/NodeKind" "IF" "Lcom/example/tidewater/tidewater/graph/NodeKind;" (.ref a) ∧ Exa Z h a "com/example/tidewater/tidewater/graph/NodeKind" ∧ Fld Z h a "java/lang/Enum" "ordinal" "I" (.int (16 : Int32))
theorem En_IF.ext {Z : State} {h h' : Heap} {a : Addr} (F : En_IF Z h a) (E : Ext h h') : En_IF Z h' a := ⟨F.1.ext E, F.2.1.ext E, F.2.2.ext E⟩
def En_REGION (Z : State) (h : Heap) (a : Addr) : Prop := Sta Z h "com/example/tidewater/tidewater/graph/NodeKind" "REGION" "Lcom/example/tidewater/tidewater/graph/NodeKind;" (.ref a) ∧ Exa Z h a "com/example/tidewater/tidewater/graph/NodeKind" ∧ Fld Z h a "java/lang/Enum" "ordinal" "I" (.int (17 : Int32))
theorem En_REGION.ext {Z : State} {h h' : Heap} {a : Addr} (F : En_REGION Z h a) (E : Ext h h') : En_REGION Z h' a := ⟨F.1.ext E, F.2.1.ext E, F.2.2.ext E⟩
def En_LOOP (Z : State) (h : Heap) (a : Addr) : Prop := Sta Z h "com/example/tidewater/tidewater/graph/NodeKind" "LOOP" "Lcom/example/tidewater/tidewater/graph/NodeKind;" (.ref a) ∧ Exa Z h a "com/example/tidewater/tidewater/graph/NodeKind" ∧ Fld Z h a "java/lang/Enum" "ordinal" "I" (.int (18 : Int32))
theorem En_LOOP.ext {Z : State} {h h' : Heap} {a : Addr} (F : En_LOOP Z h a) (E : Ext h h') : En_LOOP Z h' a := ⟨F.1.ext E, F.2.1.ext E, F.2.2.ext E⟩
def En_PHI (Z : State) (h : Heap) (a : Addr) : Prop := Sta Z h "com/example/tidewater/tidewater/graph/NodeKind" "PHI" "Lcom/example/tidewater/tidewater/graph/NodeKind;" (.ref a) ∧ Exa Z h a "com/example/tidewater/tidewater/graph/NodeKind" ∧ Fld Z h a "java/lang/Enum" "ordinal" "I" (.int (19 : Int32))
theorem En_PHI.ext {Z : State} {h h' : Heap} {a : Addr} (F : En_PHI Z h a) (E : Ext h h') : En_PHI Z h' a := ⟨F.1.ext E, F.2.1.ext E, F.2.2.ext E⟩
def En_ZERO_CHECK (Z : State) (h : Heap) (a : Addr) : Prop := Sta Z h "com/example/tidewater/tidewater/graph/NodeKind" "ZERO_CHECK" "Lcom/example/tidewater/tidewater/graph/NodeKind;" (.ref a) ∧ Exa Z h a "com/example/tidewater/tidewater/graph/NodeKind" ∧ Fld Z h a "java/lang/Enum" "ordinal" "I" (.int (20 : Int32))
theorem En_ZERO_CHECK.ext {Z : State} {h h' : Heap} {a : Addr} (F : En_ZERO_CHECK Z h a) (E : Ext h h') : En_ZERO_CHECK Z h' a := ⟨F.1.ext E, F.2.1.ext E, F.2.2.ext E⟩
def En_RETURN (Z : State) (h : Heap) (a : Addr) : Prop := Sta Z h "com/example/tidewater/tidewater/graph/NodeKind" "RETURN" "Lcom/example/tidewater/tidewater/graph/NodeKind;" (.ref a) ∧ Exa Z h a "com/example/tidewater/tidewater/graph/NodeKind" ∧ Fld Z h a "java/lang/Enum" "ordinal" "I" (.int (21 : Int32))
theorem En_RETURN.ext {Z : State} {h h' : Heap} {a : Addr} (F : En_RETURN Z h a) (E : Ext h h') : En_RETURN Z h' a := ⟨F.1.ext E, F.2.1.ext E, F.2.2.ext E⟩
def En_STOP (Z : State) (h : Heap) (a : Addr) : Prop := Sta Z h "com/example/tidewater/tidewater/graph/NodeKind" "STOP" "Lcom/example/tidewater/tidewater/graph/NodeKind;" (.ref a) ∧ Exa Z h a "com/example/tidewater/tidewater/graph/NodeKind" ∧ Fld Z h a "java/lang/Enum" "ordinal" "I" (.int (22 : Int32))
theorem En_STOP.ext {Z : State} {h h' : Heap} {a : Addr} (F : En_STOP Z h a) (E : Ext h h') : En_STOP Z h' a := ⟨F.1.ext E, F.2.1.ext E, F.2.2.ext E⟩
theorem acmp_eqT {v w : Value} (h : v = w) : XT.acmp .eq v w = true := decide_eq_true h
theorem acmp_eqF {v w : Value} (h : ¬ v = w) : XT.acmp .eq v w = false := decide_eq_false h
theorem acmp_neT {v w : Value} (h : ¬ v = w) : XT.acmp .ne v w = true := decide_eq_true h
theorem acmp_neF {v w : Value} (h : v = w) : XT.acmp .ne v w = false := decide_eq_false (fun q => q h)
theorem own_ne {i k : Int32} {d : Int} (h : ¬ i = k) (hk : k.toInt = d) : i.toInt ≠ d := fun q => h (Int32.toInt_inj.mp (q.trans hk.symm))
theorem own_mask (x : Int32) : 0 ≤ (x &&& 2147483647).toInt := (c_and x 2147483647 (by decide)).1
theorem own_rem (x k : Int32) (d : Int) (hk : k.toInt = d) (hd : 0 < d) : 0 ≤ ((x &&& 2147483647) % k).toInt ∧ ((x &&& 2147483647) % k).toInt < d := by
  have h := (c_irem (x &&& 2147483647) k d hk).1 (own_mask x)
  rw [h]
  exact ⟨Int.emod_nonneg _ (by omega), Int.emod_lt_of_pos _ hd⟩
theorem own_cases23 {i : Int32} (h : 0 ≤ i.toInt ∧ i.toInt < 23) : i = 0 ∨ i = 1 ∨ i = 2 ∨ i = 3 ∨ i = 4 ∨ i = 5 ∨ i = 6 ∨ i = 7 ∨ i = 8 ∨ i = 9 ∨ i = 10 ∨ i = 11 ∨ i = 12 ∨ i = 13 ∨ i = 14 ∨ i = 15 ∨ i = 16 ∨ i = 17 ∨ i = 18 ∨ i = 19 ∨ i = 20 ∨ i = 21 ∨ i = 22 := by
  simp only [← Int32.toInt_inj, Int32.reduceToInt]
  omega
set_option maxRecDepth 65536 in
set_option maxHeartbeats 4000000 in
theorem cons_START (l : Launch) (Z : State) (a0 : Array Value) (hw : ∀ d ∈ tables_1, d.before a0 Z = true) (n0 : Nat) (h : Heap) (O : Old Z n0 h) {a_START : Addr} (EnSTART : En_START Z h a_START) {a_IF : Addr} (EnIF : En_IF Z h a_IF) {a_REGION : Addr} (EnREGION : En_REGION Z h a_REGION) {a_LOOP : Addr} (EnLOOP : En_LOOP Z h a_LOOP) {a_ZERO_CHECK : Addr} (EnZERO_CHECK : En_ZERO_CHECK Z h a_ZERO_CHECK) {a_RETURN : Addr} (EnRETURN : En_RETURN Z h a_RETURN) :
    Met l Z n0 (⟨"com/example/tidewater/tidewater/graph/NodeKind", "isControlConsumer", "()Z"⟩ : MethodName) prog_21_method_12_code 1 (some .boolean) [] ({ frames := 0, cells := 0, slots := 0, locals := 0 } : Room) #[(.ref a_START)] h (fun v h' => v = some (.int (0 : Int32)) ∧ h = h') := by
  refine met_of (Ls := #[(.val (.ref a_START))]) (by decide +kernel) (fun m => by first | rfl | (simp [entryFrame, mkF, argsToLocals, Value.category]; done)) O ?_
  intro p e s m below meth cd C
  refine go_aloadN C (pc' := 1) dc_prog_21_method_12_code_0 rfl rfl rfl ?_
  refine go_getS C (pc' := 4) (host := "") (Or.inl (wd_56 hw)) Via.refl EnIF.1 dc_prog_21_method_12_code_1 rfl ?_
  refine go_acmpNo C (pc' := 7) dc_prog_21_method_12_code_4 rfl rfl (acmp_eqF (fun q => Fld.ne EnSTART.2.2 EnIF.2.2 (by decide) (Value.ref.inj q))) rfl ?_
  refine go_aloadN C (pc' := 8) dc_prog_21_method_12_code_7 rfl rfl rfl ?_
  refine go_getS C (pc' := 11) (host := "") (Or.inl (wd_57 hw)) Via.refl EnRETURN.1 dc_prog_21_method_12_code_8 rfl ?_
  refine go_acmpNo C (pc' := 14) dc_prog_21_method_12_code_11 rfl rfl (acmp_eqF (fun q => Fld.ne EnSTART.2.2 EnRETURN.2.2 (by decide) (Value.ref.inj q))) rfl ?_
  refine go_aloadN C (pc' := 15) dc_prog_21_method_12_code_14 rfl rfl rfl ?_
  refine go_getS C (pc' := 18) (host := "") (Or.inl (wd_58 hw)) Via.refl EnZERO_CHECK.1 dc_prog_21_method_12_code_15 rfl ?_
  refine go_acmpNo C (pc' := 21) dc_prog_21_method_12_code_18 rfl rfl (acmp_eqF (fun q => Fld.ne EnSTART.2.2 EnZERO_CHECK.2.2 (by decide) (Value.ref.inj q))) rfl ?_
  refine go_aloadN C (pc' := 22) dc_prog_21_method_12_code_21 rfl rfl rfl ?_
  refine go_getS C (pc' := 25) (host := "") (Or.inl (wd_59 hw)) Via.refl EnREGION.1 dc_prog_21_method_12_code_22 rfl ?_
  refine go_acmpNo C (pc' := 28) dc_prog_21_method_12_code_25 rfl rfl (acmp_eqF (fun q => Fld.ne EnSTART.2.2 EnREGION.2.2 (by decide) (Value.ref.inj q))) rfl ?_
  refine go_aloadN C (pc' := 29) dc_prog_21_method_12_code_28 rfl rfl rfl ?_
  refine go_getS C (pc' := 32) (host := "") (Or.inl (wd_60 hw)) Via.refl EnLOOP.1 dc_prog_21_method_12_code_29 rfl ?_
  refine go_acmpYes C (pc' := 39) dc_prog_21_method_12_code_32 rfl rfl (acmp_neT (fun q => Fld.ne EnSTART.2.2 EnLOOP.2.2 (by decide) (Value.ref.inj q))) (by decide) (by decide) ?_
  refine go_iconst C (pc' := 40) dc_prog_21_method_12_code_39 (z := (0 : Int32)) (by decide) rfl ?_
  exact go_retN C (by simp) (z' := (0 : Int32)) (by decide) dc_prog_21_method_12_code_40 (by decide) (by decide) ⟨rfl, rfl⟩
set_option maxRecDepth 65536 in
set_option maxHeartbeats 4000000 in
theorem cons_PROJ (l : Launch) (Z : State) (a0 : Array Value) (hw : ∀ d ∈ tables_1, d.before a0 Z = true) (n0 : Nat) (h : Heap) (O : Old Z n0 h) {a_PROJ : Addr} (EnPROJ : En_PROJ Z h a_PROJ) {a_IF : Addr} (EnIF : En_IF Z h a_IF) {a_REGION : Addr} (EnREGION : En_REGION Z h a_REGION) {a_LOOP : Addr} (EnLOOP : En_LOOP Z h a_LOOP) {a_ZERO_CHECK : Addr} (EnZERO_CHECK : En_ZERO_CHECK Z h a_ZERO_CHECK) {a_RETURN : Addr} (EnRETURN : En_RETURN Z h a_RETURN) :
    Met l Z n0 (⟨"com/example/tidewater/tidewater/graph/NodeKind", "isControlConsumer", "()Z"⟩ : MethodName) prog_21_method_12_code 1 (some .boolean) [] ({ frames := 0, cells := 0, slots := 0, locals := 0 } : Room) #[(.ref a_PROJ)] h (fun v h' => v = some (.int (0 : Int32)) ∧ h = h') := by
  refine met_of (Ls := #[(.val (.ref a_PROJ))]) (by decide +kernel) (fun m => by first | rfl | (simp [entryFrame, mkF, argsToLocals, Value.category]; done)) O ?_
  intro p e s m below meth cd C
  refine go_aloadN C (pc' := 1) dc_prog_21_method_12_code_0 rfl rfl rfl ?_
  refine go_getS C (pc' := 4) (host := "") (Or.inl (wd_56 hw)) Via.refl EnIF.1 dc_prog_21_method_12_code_1 rfl ?_
  refine go_acmpNo C (pc' := 7) dc_prog_21_method_12_code_4 rfl rfl (acmp_eqF (fun q => Fld.ne EnPROJ.2.2 EnIF.2.2 (by decide) (Value.ref.inj q))) rfl ?_
  refine go_aloadN C (pc' := 8) dc_prog_21_method_12_code_7 rfl rfl rfl ?_
  refine go_getS C (pc' := 11) (host := "") (Or.inl (wd_57 hw)) Via.refl EnRETURN.1 dc_prog_21_method_12_code_8 rfl ?_
  refine go_acmpNo C (pc' := 14) dc_prog_21_method_12_code_11 rfl rfl (acmp_eqF (fun q => Fld.ne EnPROJ.2.2 EnRETURN.2.2 (by decide) (Value.ref.inj q))) rfl ?_
  refine go_aloadN C (pc' := 15) dc_prog_21_method_12_code_14 rfl rfl rfl ?_
  refine go_getS C (pc' := 18) (host := "") (Or.inl (wd_58 hw)) Via.refl EnZERO_CHECK.1 dc_prog_21_method_12_code_15 rfl ?_
  refine go_acmpNo C (pc' := 21) dc_prog_21_method_12_code_18 rfl rfl (acmp_eqF (fun q => Fld.ne EnPROJ.2.2 EnZERO_CHECK.2.2 (by decide) (Value.ref.inj q))) rfl ?_
  refine go_aloadN C (pc' := 22) dc_prog_21_method_12_code_21 rfl rfl rfl ?_
  refine go_getS C (pc' := 25) (host := "") (Or.inl (wd_59 hw)) Via.refl EnREGION.1 dc_prog_21_method_12_code_22 rfl ?_
  refine go_acmpNo C (pc' := 28) dc_prog_21_method_12_code_25 rfl rfl (acmp_eqF (fun q => Fld.ne EnPROJ.2.2 EnREGION.2.2 (by decide) (Value.ref.inj q))) rfl ?_
  refine go_aloadN C (pc' := 29) dc_prog_21_method_12_code_28 rfl rfl rfl ?_
  refine go_getS C (pc' := 32) (host := "") (Or.inl (wd_60 hw)) Via.refl EnLOOP.1 dc_prog_21_method_12_code_29 rfl ?_
  refine go_acmpYes C (pc' := 39) dc_prog_21_method_12_code_32 rfl rfl (acmp_neT (fun q => Fld.ne EnPROJ.2.2 EnLOOP.2.2 (by decide) (Value.ref.inj q))) (by decide) (by decide) ?_
  refine go_iconst C (pc' := 40) dc_prog_21_method_12_code_39 (z := (0 : Int32)) (by decide) rfl ?_
  exact go_retN C (by simp) (z' := (0 : Int32)) (by decide) dc_prog_21_method_12_code_40 (by decide) (by decide) ⟨rfl, rfl⟩
set_option maxRecDepth 65536 in
set_option maxHeartbeats 4000000 in
theorem cons_CONSTANT (l : Launch) (Z : State) (a0 : Array Value) (hw : ∀ d ∈ tables_1, d.before a0 Z = true) (n0 : Nat) (h : Heap) (O : Old Z n0 h) {a_CONSTANT : Addr} (EnCONSTANT : En_CONSTANT Z h a_CONSTANT) {a_IF : Addr} (EnIF : En_IF Z h a_IF) {a_REGION : Addr} (EnREGION : En_REGION Z h a_REGION) {a_LOOP : Addr} (EnLOOP : En_LOOP Z h a_LOOP) {a_ZERO_CHECK : Addr} (EnZERO_CHECK : En_ZERO_CHECK Z h a_ZERO_CHECK) {a_RETURN : Addr} (EnRETURN : En_RETURN Z h a_RETURN) :
    Met l Z n0 (⟨"com/example/tidewater/tidewater/graph/NodeKind", "isControlConsumer", "()Z"⟩ : MethodName) prog_21_method_12_code 1 (some .boolean) [] ({ frames := 0, cells := 0, slots := 0, locals := 0 } : Room) #[(.ref a_CONSTANT)] h (fun v h' => v = some (.int (0 : Int32)) ∧ h = h') := by
  refine met_of (Ls := #[(.val (.ref a_CONSTANT))]) (by decide +kernel) (fun m => by first | rfl | (simp [entryFrame, mkF, argsToLocals, Value.category]; done)) O ?_
  intro p e s m below meth cd C
  refine go_aloadN C (pc' := 1) dc_prog_21_method_12_code_0 rfl rfl rfl ?_
  refine go_getS C (pc' := 4) (host := "") (Or.inl (wd_56 hw)) Via.refl EnIF.1 dc_prog_21_method_12_code_1 rfl ?_
  refine go_acmpNo C (pc' := 7) dc_prog_21_method_12_code_4 rfl rfl (acmp_eqF (fun q => Fld.ne EnCONSTANT.2.2 EnIF.2.2 (by decide) (Value.ref.inj q))) rfl ?_
  refine go_aloadN C (pc' := 8) dc_prog_21_method_12_code_7 rfl rfl rfl ?_
  refine go_getS C (pc' := 11) (host := "") (Or.inl (wd_57 hw)) Via.refl EnRETURN.1 dc_prog_21_method_12_code_8 rfl ?_
  refine go_acmpNo C (pc' := 14) dc_prog_21_method_12_code_11 rfl rfl (acmp_eqF (fun q => Fld.ne EnCONSTANT.2.2 EnRETURN.2.2 (by decide) (Value.ref.inj q))) rfl ?_
  refine go_aloadN C (pc' := 15) dc_prog_21_method_12_code_14 rfl rfl rfl ?_
  refine go_getS C (pc' := 18) (host := "") (Or.inl (wd_58 hw)) Via.refl EnZERO_CHECK.1 dc_prog_21_method_12_code_15 rfl ?_
  refine go_acmpNo C (pc' := 21) dc_prog_21_method_12_code_18 rfl rfl (acmp_eqF (fun q => Fld.ne EnCONSTANT.2.2 EnZERO_CHECK.2.2 (by decide) (Value.ref.inj q))) rfl ?_
  refine go_aloadN C (pc' := 22) dc_prog_21_method_12_code_21 rfl rfl rfl ?_
  refine go_getS C (pc' := 25) (host := "") (Or.inl (wd_59 hw)) Via.refl EnREGION.1 dc_prog_21_method_12_code_22 rfl ?_
  refine go_acmpNo C (pc' := 28) dc_prog_21_method_12_code_25 rfl rfl (acmp_eqF (fun q => Fld.ne EnCONSTANT.2.2 EnREGION.2.2 (by decide) (Value.ref.inj q))) rfl ?_
  refine go_aloadN C (pc' := 29) dc_prog_21_method_12_code_28 rfl rfl rfl ?_
  refine go_getS C (pc' := 32) (host := "") (Or.inl (wd_60 hw)) Via.refl EnLOOP.1 dc_prog_21_method_12_code_29 rfl ?_
  refine go_acmpYes C (pc' := 39) dc_prog_21_method_12_code_32 rfl rfl (acmp_neT (fun q => Fld.ne EnCONSTANT.2.2 EnLOOP.2.2 (by decide) (Value.ref.inj q))) (by decide) (by decide) ?_
  refine go_iconst C (pc' := 40) dc_prog_21_method_12_code_39 (z := (0 : Int32)) (by decide) rfl ?_
  exact go_retN C (by simp) (z' := (0 : Int32)) (by decide) dc_prog_21_method_12_code_40 (by decide) (by decide) ⟨rfl, rfl⟩
set_option maxRecDepth 65536 in
set_option maxHeartbeats 4000000 in
theorem cons_ADD (l : Launch) (Z : State) (a0 : Array Value) (hw : ∀ d ∈ tables_1, d.before a0 Z = true) (n0 : Nat) (h : Heap) (O : Old Z n0 h) {a_ADD : Addr} (EnADD : En_ADD Z h a_ADD) {a_IF : Addr} (EnIF : En_IF Z h a_IF) {a_REGION : Addr} (EnREGION : En_REGION Z h a_REGION) {a_LOOP : Addr} (EnLOOP : En_LOOP Z h a_LOOP) {a_ZERO_CHECK : Addr} (EnZERO_CHECK : En_ZERO_CHECK Z h a_ZERO_CHECK) {a_RETURN : Addr} (EnRETURN : En_RETURN Z h a_RETURN) :
    Met l Z n0 (⟨"com/example/tidewater/tidewater/graph/NodeKind", "isControlConsumer", "()Z"⟩ : MethodName) prog_21_method_12_code 1 (some .boolean) [] ({ frames := 0, cells := 0, slots := 0, locals := 0 } : Room) #[(.ref a_ADD)] h (fun v h' => v = some (.int (0 : Int32)) ∧ h = h') := by
  refine met_of (Ls := #[(.val (.ref a_ADD))]) (by decide +kernel) (fun m => by first | rfl | (simp [entryFrame, mkF, argsToLocals, Value.category]; done)) O ?_
  intro p e s m below meth cd C
  refine go_aloadN C (pc' := 1) dc_prog_21_method_12_code_0 rfl rfl rfl ?_
  refine go_getS C (pc' := 4) (host := "") (Or.inl (wd_56 hw)) Via.refl EnIF.1 dc_prog_21_method_12_code_1 rfl ?_
  refine go_acmpNo C (pc' := 7) dc_prog_21_method_12_code_4 rfl rfl (acmp_eqF (fun q => Fld.ne EnADD.2.2 EnIF.2.2 (by decide) (Value.ref.inj q))) rfl ?_
  refine go_aloadN C (pc' := 8) dc_prog_21_method_12_code_7 rfl rfl rfl ?_
  refine go_getS C (pc' := 11) (host := "") (Or.inl (wd_57 hw)) Via.refl EnRETURN.1 dc_prog_21_method_12_code_8 rfl ?_
  refine go_acmpNo C (pc' := 14) dc_prog_21_method_12_code_11 rfl rfl (acmp_eqF (fun q => Fld.ne EnADD.2.2 EnRETURN.2.2 (by decide) (Value.ref.inj q))) rfl ?_
  refine go_aloadN C (pc' := 15) dc_prog_21_method_12_code_14 rfl rfl rfl ?_
  refine go_getS C (pc' := 18) (host := "") (Or.inl (wd_58 hw)) Via.refl EnZERO_CHECK.1 dc_prog_21_method_12_code_15 rfl ?_
  refine go_acmpNo C (pc' := 21) dc_prog_21_method_12_code_18 rfl rfl (acmp_eqF (fun q => Fld.ne EnADD.2.2 EnZERO_CHECK.2.2 (by decide) (Value.ref.inj q))) rfl ?_
  refine go_aloadN C (pc' := 22) dc_prog_21_method_12_code_21 rfl rfl rfl ?_
  refine go_getS C (pc' := 25) (host := "") (Or.inl (wd_59 hw)) Via.refl EnREGION.1 dc_prog_21_method_12_code_22 rfl ?_
  refine go_acmpNo C (pc' := 28) dc_prog_21_method_12_code_25 rfl rfl (acmp_eqF (fun q => Fld.ne EnADD.2.2 EnREGION.2.2 (by decide) (Value.ref.inj q))) rfl ?_
  refine go_aloadN C (pc' := 29) dc_prog_21_method_12_code_28 rfl rfl rfl ?_
  refine go_getS C (pc' := 32) (host := "") (Or.inl (wd_60 hw)) Via.refl EnLOOP.1 dc_prog_21_method_12_code_29 rfl ?_
  refine go_acmpYes C (pc' := 39) dc_prog_21_method_12_code_32 rfl rfl (acmp_neT (fun q => Fld.ne EnADD.2.2 EnLOOP.2.2 (by decide) (Value.ref.inj q))) (by decide) (by decide) ?_
  refine go_iconst C (pc' := 40) dc_prog_21_method_12_code_39 (z := (0 : Int32)) (by decide) rfl ?_
  exact go_retN C (by simp) (z' := (0 : Int32)) (by decide) dc_prog_21_method_12_code_40 (by decide) (by decide) ⟨rfl, rfl⟩
set_option maxRecDepth 65536 in
set_option maxHeartbeats 4000000 in
theorem cons_SUB (l : Launch) (Z : State) (a0 : Array Value) (hw : ∀ d ∈ tables_1, d.before a0 Z = true) (n0 : Nat) (h : Heap) (O : Old Z n0 h) {a_SUB : Addr} (EnSUB : En_SUB Z h a_SUB) {a_IF : Addr} (EnIF : En_IF Z h a_IF) {a_REGION : Addr} (EnREGION : En_REGION Z h a_REGION) {a_LOOP : Addr} (EnLOOP : En_LOOP Z h a_LOOP) {a_ZERO_CHECK : Addr} (EnZERO_CHECK : En_ZERO_CHECK Z h a_ZERO_CHECK) {a_RETURN : Addr} (EnRETURN : En_RETURN Z h a_RETURN) :
    Met l Z n0 (⟨"com/example/tidewater/tidewater/graph/NodeKind", "isControlConsumer", "()Z"⟩ : MethodName) prog_21_method_12_code 1 (some .boolean) [] ({ frames := 0, cells := 0, slots := 0, locals := 0 } : Room) #[(.ref a_SUB)] h (fun v h' => v = some (.int (0 : Int32)) ∧ h = h') := by
  refine met_of (Ls := #[(.val (.ref a_SUB))]) (by decide +kernel) (fun m => by first | rfl | (simp [entryFrame, mkF, argsToLocals, Value.category]; done)) O ?_
  intro p e s m below meth cd C
  refine go_aloadN C (pc' := 1) dc_prog_21_method_12_code_0 rfl rfl rfl ?_
  refine go_getS C (pc' := 4) (host := "") (Or.inl (wd_56 hw)) Via.refl EnIF.1 dc_prog_21_method_12_code_1 rfl ?_
  refine go_acmpNo C (pc' := 7) dc_prog_21_method_12_code_4 rfl rfl (acmp_eqF (fun q => Fld.ne EnSUB.2.2 EnIF.2.2 (by decide) (Value.ref.inj q))) rfl ?_
  refine go_aloadN C (pc' := 8) dc_prog_21_method_12_code_7 rfl rfl rfl ?_
  refine go_getS C (pc' := 11) (host := "") (Or.inl (wd_57 hw)) Via.refl EnRETURN.1 dc_prog_21_method_12_code_8 rfl ?_
  refine go_acmpNo C (pc' := 14) dc_prog_21_method_12_code_11 rfl rfl (acmp_eqF (fun q => Fld.ne EnSUB.2.2 EnRETURN.2.2 (by decide) (Value.ref.inj q))) rfl ?_
  refine go_aloadN C (pc' := 15) dc_prog_21_method_12_code_14 rfl rfl rfl ?_
  refine go_getS C (pc' := 18) (host := "") (Or.inl (wd_58 hw)) Via.refl EnZERO_CHECK.1 dc_prog_21_method_12_code_15 rfl ?_
  refine go_acmpNo C (pc' := 21) dc_prog_21_method_12_code_18 rfl rfl (acmp_eqF (fun q => Fld.ne EnSUB.2.2 EnZERO_CHECK.2.2 (by decide) (Value.ref.inj q))) rfl ?_
  refine go_aloadN C (pc' := 22) dc_prog_21_method_12_code_21 rfl rfl rfl ?_
  refine go_getS C (pc' := 25) (host := "") (Or.inl (wd_59 hw)) Via.refl EnREGION.1 dc_prog_21_method_12_code_22 rfl ?_
  refine go_acmpNo C (pc' := 28) dc_prog_21_method_12_code_25 rfl rfl (acmp_eqF (fun q => Fld.ne EnSUB.2.2 EnREGION.2.2 (by decide) (Value.ref.inj q))) rfl ?_
  refine go_aloadN C (pc' := 29) dc_prog_21_method_12_code_28 rfl rfl rfl ?_
  refine go_getS C (pc' := 32) (host := "") (Or.inl (wd_60 hw)) Via.refl EnLOOP.1 dc_prog_21_method_12_code_29 rfl ?_
  refine go_acmpYes C (pc' := 39) dc_prog_21_method_12_code_32 rfl rfl (acmp_neT (fun q => Fld.ne EnSUB.2.2 EnLOOP.2.2 (by decide) (Value.ref.inj q))) (by decide) (by decide) ?_
  refine go_iconst C (pc' := 40) dc_prog_21_method_12_code_39 (z := (0 : Int32)) (by decide) rfl ?_
  exact go_retN C (by simp) (z' := (0 : Int32)) (by decide) dc_prog_21_method_12_code_40 (by decide) (by decide) ⟨rfl, rfl⟩
set_option maxRecDepth 65536 in
set_option maxHeartbeats 4000000 in
theorem cons_MUL (l : Launch) (Z : State) (a0 : Array Value) (hw : ∀ d ∈ tables_1, d.before a0 Z = true) (n0 : Nat) (h : Heap) (O : Old Z n0 h) {a_MUL : Addr} (EnMUL : En_MUL Z h a_MUL) {a_IF : Addr} (EnIF : En_IF Z h a_IF) {a_REGION : Addr} (EnREGION : En_REGION Z h a_REGION) {a_LOOP : Addr} (EnLOOP : En_LOOP Z h a_LOOP) {a_ZERO_CHECK : Addr} (EnZERO_CHECK : En_ZERO_CHECK Z h a_ZERO_CHECK) {a_RETURN : Addr} (EnRETURN : En_RETURN Z h a_RETURN) :
    Met l Z n0 (⟨"com/example/tidewater/tidewater/graph/NodeKind", "isControlConsumer", "()Z"⟩ : MethodName) prog_21_method_12_code 1 (some .boolean) [] ({ frames := 0, cells := 0, slots := 0, locals := 0 } : Room) #[(.ref a_MUL)] h (fun v h' => v = some (.int (0 : Int32)) ∧ h = h') := by
  refine met_of (Ls := #[(.val (.ref a_MUL))]) (by decide +kernel) (fun m => by first | rfl | (simp [entryFrame, mkF, argsToLocals, Value.category]; done)) O ?_
  intro p e s m below meth cd C
  refine go_aloadN C (pc' := 1) dc_prog_21_method_12_code_0 rfl rfl rfl ?_
  refine go_getS C (pc' := 4) (host := "") (Or.inl (wd_56 hw)) Via.refl EnIF.1 dc_prog_21_method_12_code_1 rfl ?_
  refine go_acmpNo C (pc' := 7) dc_prog_21_method_12_code_4 rfl rfl (acmp_eqF (fun q => Fld.ne EnMUL.2.2 EnIF.2.2 (by decide) (Value.ref.inj q))) rfl ?_
  refine go_aloadN C (pc' := 8) dc_prog_21_method_12_code_7 rfl rfl rfl ?_
  refine go_getS C (pc' := 11) (host := "") (Or.inl (wd_57 hw)) Via.refl EnRETURN.1 dc_prog_21_method_12_code_8 rfl ?_
  refine go_acmpNo C (pc' := 14) dc_prog_21_method_12_code_11 rfl rfl (acmp_eqF (fun q => Fld.ne EnMUL.2.2 EnRETURN.2.2 (by decide) (Value.ref.inj q))) rfl ?_
  refine go_aloadN C (pc' := 15) dc_prog_21_method_12_code_14 rfl rfl rfl ?_
  refine go_getS C (pc' := 18) (host := "") (Or.inl (wd_58 hw)) Via.refl EnZERO_CHECK.1 dc_prog_21_method_12_code_15 rfl ?_
  refine go_acmpNo C (pc' := 21) dc_prog_21_method_12_code_18 rfl rfl (acmp_eqF (fun q => Fld.ne EnMUL.2.2 EnZERO_CHECK.2.2 (by decide) (Value.ref.inj q))) rfl ?_
  refine go_aloadN C (pc' := 22) dc_prog_21_method_12_code_21 rfl rfl rfl ?_
  refine go_getS C (pc' := 25) (host := "") (Or.inl (wd_59 hw)) Via.refl EnREGION.1 dc_prog_21_method_12_code_22 rfl ?_
  refine go_acmpNo C (pc' := 28) dc_prog_21_method_12_code_25 rfl rfl (acmp_eqF (fun q => Fld.ne EnMUL.2.2 EnREGION.2.2 (by decide) (Value.ref.inj q))) rfl ?_
  refine go_aloadN C (pc' := 29) dc_prog_21_method_12_code_28 rfl rfl rfl ?_
  refine go_getS C (pc' := 32) (host := "") (Or.inl (wd_60 hw)) Via.refl EnLOOP.1 dc_prog_21_method_12_code_29 rfl ?_
  refine go_acmpYes C (pc' := 39) dc_prog_21_method_12_code_32 rfl rfl (acmp_neT (fun q => Fld.ne EnMUL.2.2 EnLOOP.2.2 (by decide) (Value.ref.inj q))) (by decide) (by decide) ?_
  refine go_iconst C (pc' := 40) dc_prog_21_method_12_code_39 (z := (0 : Int32)) (by decide) rfl ?_
  exact go_retN C (by simp) (z' := (0 : Int32)) (by decide) dc_prog_21_method_12_code_40 (by decide) (by decide) ⟨rfl, rfl⟩
set_option maxRecDepth 65536 in
set_option maxHeartbeats 4000000 in
theorem cons_DIV (l : Launch) (Z : State) (a0 : Array Value) (hw : ∀ d ∈ tables_1, d.before a0 Z = true) (n0 : Nat) (h : Heap) (O : Old Z n0 h) {a_DIV : Addr} (EnDIV : En_DIV Z h a_DIV) {a_IF : Addr} (EnIF : En_IF Z h a_IF) {a_REGION : Addr} (EnREGION : En_REGION Z h a_REGION) {a_LOOP : Addr} (EnLOOP : En_LOOP Z h a_LOOP) {a_ZERO_CHECK : Addr} (EnZERO_CHECK : En_ZERO_CHECK Z h a_ZERO_CHECK) {a_RETURN : Addr} (EnRETURN : En_RETURN Z h a_RETURN) :
    Met l Z n0 (⟨"com/example/tidewater/tidewater/graph/NodeKind", "isControlConsumer", "()Z"⟩ : MethodName) prog_21_method_12_code 1 (some .boolean) [] ({ frames := 0, cells := 0, slots := 0, locals := 0 } : Room) #[(.ref a_DIV)] h (fun v h' => v = some (.int (0 : Int32)) ∧ h = h') := by
  refine met_of (Ls := #[(.val (.ref a_DIV))]) (by decide +kernel) (fun m => by first | rfl | (simp [entryFrame, mkF, argsToLocals, Value.category]; done)) O ?_
  intro p e s m below meth cd C
  refine go_aloadN C (pc' := 1) dc_prog_21_method_12_code_0 rfl rfl rfl ?_
  refine go_getS C (pc' := 4) (host := "") (Or.inl (wd_56 hw)) Via.refl EnIF.1 dc_prog_21_method_12_code_1 rfl ?_
  refine go_acmpNo C (pc' := 7) dc_prog_21_method_12_code_4 rfl rfl (acmp_eqF (fun q => Fld.ne EnDIV.2.2 EnIF.2.2 (by decide) (Value.ref.inj q))) rfl ?_
  refine go_aloadN C (pc' := 8) dc_prog_21_method_12_code_7 rfl rfl rfl ?_
  refine go_getS C (pc' := 11) (host := "") (Or.inl (wd_57 hw)) Via.refl EnRETURN.1 dc_prog_21_method_12_code_8 rfl ?_
  refine go_acmpNo C (pc' := 14) dc_prog_21_method_12_code_11 rfl rfl (acmp_eqF (fun q => Fld.ne EnDIV.2.2 EnRETURN.2.2 (by decide) (Value.ref.inj q))) rfl ?_
  refine go_aloadN C (pc' := 15) dc_prog_21_method_12_code_14 rfl rfl rfl ?_
  refine go_getS C (pc' := 18) (host := "") (Or.inl (wd_58 hw)) Via.refl EnZERO_CHECK.1 dc_prog_21_method_12_code_15 rfl ?_
  refine go_acmpNo C (pc' := 21) dc_prog_21_method_12_code_18 rfl rfl (acmp_eqF (fun q => Fld.ne EnDIV.2.2 EnZERO_CHECK.2.2 (by decide) (Value.ref.inj q))) rfl ?_
  refine go_aloadN C (pc' := 22) dc_prog_21_method_12_code_21 rfl rfl rfl ?_
  refine go_getS C (pc' := 25) (host := "") (Or.inl (wd_59 hw)) Via.refl EnREGION.1 dc_prog_21_method_12_code_22 rfl ?_
  refine go_acmpNo C (pc' := 28) dc_prog_21_method_12_code_25 rfl rfl (acmp_eqF (fun q => Fld.ne EnDIV.2.2 EnREGION.2.2 (by decide) (Value.ref.inj q))) rfl ?_
  refine go_aloadN C (pc' := 29) dc_prog_21_method_12_code_28 rfl rfl rfl ?_
  refine go_getS C (pc' := 32) (host := "") (Or.inl (wd_60 hw)) Via.refl EnLOOP.1 dc_prog_21_method_12_code_29 rfl ?_
  refine go_acmpYes C (pc' := 39) dc_prog_21_method_12_code_32 rfl rfl (acmp_neT (fun q => Fld.ne EnDIV.2.2 EnLOOP.2.2 (by decide) (Value.ref.inj q))) (by decide) (by decide) ?_
  refine go_iconst C (pc' := 40) dc_prog_21_method_12_code_39 (z := (0 : Int32)) (by decide) rfl ?_
  exact go_retN C (by simp) (z' := (0 : Int32)) (by decide) dc_prog_21_method_12_code_40 (by decide) (by decide) ⟨rfl, rfl⟩
set_option maxRecDepth 65536 in
set_option maxHeartbeats 4000000 in
theorem cons_MOD (l : Launch) (Z : State) (a0 : Array Value) (hw : ∀ d ∈ tables_1, d.before a0 Z = true) (n0 : Nat) (h : Heap) (O : Old Z n0 h) {a_MOD : Addr} (EnMOD : En_MOD Z h a_MOD) {a_IF : Addr} (EnIF : En_IF Z h a_IF) {a_REGION : Addr} (EnREGION : En_REGION Z h a_REGION) {a_LOOP : Addr} (EnLOOP : En_LOOP Z h a_LOOP) {a_ZERO_CHECK : Addr} (EnZERO_CHECK : En_ZERO_CHECK Z h a_ZERO_CHECK) {a_RETURN : Addr} (EnRETURN : En_RETURN Z h a_RETURN) :
    Met l Z n0 (⟨"com/example/tidewater/tidewater/graph/NodeKind", "isControlConsumer", "()Z"⟩ : MethodName) prog_21_method_12_code 1 (some .boolean) [] ({ frames := 0, cells := 0, slots := 0, locals := 0 } : Room) #[(.ref a_MOD)] h (fun v h' => v = some (.int (0 : Int32)) ∧ h = h') := by
  refine met_of (Ls := #[(.val (.ref a_MOD))]) (by decide +kernel) (fun m => by first | rfl | (simp [entryFrame, mkF, argsToLocals, Value.category]; done)) O ?_
  intro p e s m below meth cd C
  refine go_aloadN C (pc' := 1) dc_prog_21_method_12_code_0 rfl rfl rfl ?_
  refine go_getS C (pc' := 4) (host := "") (Or.inl (wd_56 hw)) Via.refl EnIF.1 dc_prog_21_method_12_code_1 rfl ?_
  refine go_acmpNo C (pc' := 7) dc_prog_21_method_12_code_4 rfl rfl (acmp_eqF (fun q => Fld.ne EnMOD.2.2 EnIF.2.2 (by decide) (Value.ref.inj q))) rfl ?_
  refine go_aloadN C (pc' := 8) dc_prog_21_method_12_code_7 rfl rfl rfl ?_
  refine go_getS C (pc' := 11) (host := "") (Or.inl (wd_57 hw)) Via.refl EnRETURN.1 dc_prog_21_method_12_code_8 rfl ?_
  refine go_acmpNo C (pc' := 14) dc_prog_21_method_12_code_11 rfl rfl (acmp_eqF (fun q => Fld.ne EnMOD.2.2 EnRETURN.2.2 (by decide) (Value.ref.inj q))) rfl ?_
  refine go_aloadN C (pc' := 15) dc_prog_21_method_12_code_14 rfl rfl rfl ?_
  refine go_getS C (pc' := 18) (host := "") (Or.inl (wd_58 hw)) Via.refl EnZERO_CHECK.1 dc_prog_21_method_12_code_15 rfl ?_
  refine go_acmpNo C (pc' := 21) dc_prog_21_method_12_code_18 rfl rfl (acmp_eqF (fun q => Fld.ne EnMOD.2.2 EnZERO_CHECK.2.2 (by decide) (Value.ref.inj q))) rfl ?_
  refine go_aloadN C (pc' := 22) dc_prog_21_method_12_code_21 rfl rfl rfl ?_
  refine go_getS C (pc' := 25) (host := "") (Or.inl (wd_59 hw)) Via.refl EnREGION.1 dc_prog_21_method_12_code_22 rfl ?_
  refine go_acmpNo C (pc' := 28) dc_prog_21_method_12_code_25 rfl rfl (acmp_eqF (fun q => Fld.ne EnMOD.2.2 EnREGION.2.2 (by decide) (Value.ref.inj q))) rfl ?_
  refine go_aloadN C (pc' := 29) dc_prog_21_method_12_code_28 rfl rfl rfl ?_
  refine go_getS C (pc' := 32) (host := "") (Or.inl (wd_60 hw)) Via.refl EnLOOP.1 dc_prog_21_method_12_code_29 rfl ?_
  refine go_acmpYes C (pc' := 39) dc_prog_21_method_12_code_32 rfl rfl (acmp_neT (fun q => Fld.ne EnMOD.2.2 EnLOOP.2.2 (by decide) (Value.ref.inj q))) (by decide) (by decide) ?_
  refine go_iconst C (pc' := 40) dc_prog_21_method_12_code_39 (z := (0 : Int32)) (by decide) rfl ?_
  exact go_retN C (by simp) (z' := (0 : Int32)) (by decide) dc_prog_21_method_12_code_40 (by decide) (by decide) ⟨rfl, rfl⟩
set_option maxRecDepth 65536 in
set_option maxHeartbeats 4000000 in
theorem cons_NEG (l : Launch) (Z : State) (a0 : Array Value) (hw : ∀ d ∈ tables_1, d.before a0 Z = true) (n0 : Nat) (h : Heap) (O : Old Z n0 h) {a_NEG : Addr} (EnNEG : En_NEG Z h a_NEG) {a_IF : Addr} (EnIF : En_IF Z h a_IF) {a_REGION : Addr} (EnREGION : En_REGION Z h a_REGION) {a_LOOP : Addr} (EnLOOP : En_LOOP Z h a_LOOP) {a_ZERO_CHECK : Addr} (EnZERO_CHECK : En_ZERO_CHECK Z h a_ZERO_CHECK) {a_RETURN : Addr} (EnRETURN : En_RETURN Z h a_RETURN) :
    Met l Z n0 (⟨"com/example/tidewater/tidewater/graph/NodeKind", "isControlConsumer", "()Z"⟩ : MethodName) prog_21_method_12_code 1 (some .boolean) [] ({ frames := 0, cells := 0, slots := 0, locals := 0 } : Room) #[(.ref a_NEG)] h (fun v h' => v = some (.int (0 : Int32)) ∧ h = h') := by
  refine met_of (Ls := #[(.val (.ref a_NEG))]) (by decide +kernel) (fun m => by first | rfl | (simp [entryFrame, mkF, argsToLocals, Value.category]; done)) O ?_
  intro p e s m below meth cd C
  refine go_aloadN C (pc' := 1) dc_prog_21_method_12_code_0 rfl rfl rfl ?_
  refine go_getS C (pc' := 4) (host := "") (Or.inl (wd_56 hw)) Via.refl EnIF.1 dc_prog_21_method_12_code_1 rfl ?_
  refine go_acmpNo C (pc' := 7) dc_prog_21_method_12_code_4 rfl rfl (acmp_eqF (fun q => Fld.ne EnNEG.2.2 EnIF.2.2 (by decide) (Value.ref.inj q))) rfl ?_
  refine go_aloadN C (pc' := 8) dc_prog_21_method_12_code_7 rfl rfl rfl ?_
  refine go_getS C (pc' := 11) (host := "") (Or.inl (wd_57 hw)) Via.refl EnRETURN.1 dc_prog_21_method_12_code_8 rfl ?_
  refine go_acmpNo C (pc' := 14) dc_prog_21_method_12_code_11 rfl rfl (acmp_eqF (fun q => Fld.ne EnNEG.2.2 EnRETURN.2.2 (by decide) (Value.ref.inj q))) rfl ?_
  refine go_aloadN C (pc' := 15) dc_prog_21_method_12_code_14 rfl rfl rfl ?_
  refine go_getS C (pc' := 18) (host := "") (Or.inl (wd_58 hw)) Via.refl EnZERO_CHECK.1 dc_prog_21_method_12_code_15 rfl ?_
  refine go_acmpNo C (pc' := 21) dc_prog_21_method_12_code_18 rfl rfl (acmp_eqF (fun q => Fld.ne EnNEG.2.2 EnZERO_CHECK.2.2 (by decide) (Value.ref.inj q))) rfl ?_
  refine go_aloadN C (pc' := 22) dc_prog_21_method_12_code_21 rfl rfl rfl ?_
  refine go_getS C (pc' := 25) (host := "") (Or.inl (wd_59 hw)) Via.refl EnREGION.1 dc_prog_21_method_12_code_22 rfl ?_
  refine go_acmpNo C (pc' := 28) dc_prog_21_method_12_code_25 rfl rfl (acmp_eqF (fun q => Fld.ne EnNEG.2.2 EnREGION.2.2 (by decide) (Value.ref.inj q))) rfl ?_
  refine go_aloadN C (pc' := 29) dc_prog_21_method_12_code_28 rfl rfl rfl ?_
  refine go_getS C (pc' := 32) (host := "") (Or.inl (wd_60 hw)) Via.refl EnLOOP.1 dc_prog_21_method_12_code_29 rfl ?_
  refine go_acmpYes C (pc' := 39) dc_prog_21_method_12_code_32 rfl rfl (acmp_neT (fun q => Fld.ne EnNEG.2.2 EnLOOP.2.2 (by decide) (Value.ref.inj q))) (by decide) (by decide) ?_
  refine go_iconst C (pc' := 40) dc_prog_21_method_12_code_39 (z := (0 : Int32)) (by decide) rfl ?_
  exact go_retN C (by simp) (z' := (0 : Int32)) (by decide) dc_prog_21_method_12_code_40 (by decide) (by decide) ⟨rfl, rfl⟩
set_option maxRecDepth 65536 in
set_option maxHeartbeats 4000000 in
theorem cons_NOT (l : Launch) (Z : State) (a0 : Array Value) (hw : ∀ d ∈ tables_1, d.before a0 Z = true) (n0 : Nat) (h : Heap) (O : Old Z n0 h) {a_NOT : Addr} (EnNOT : En_NOT Z h a_NOT) {a_IF : Addr} (EnIF : En_IF Z h a_IF) {a_REGION : Addr} (EnREGION : En_REGION Z h a_REGION) {a_LOOP : Addr} (EnLOOP : En_LOOP Z h a_LOOP) {a_ZERO_CHECK : Addr} (EnZERO_CHECK : En_ZERO_CHECK Z h a_ZERO_CHECK) {a_RETURN : Addr} (EnRETURN : En_RETURN Z h a_RETURN) :
    Met l Z n0 (⟨"com/example/tidewater/tidewater/graph/NodeKind", "isControlConsumer", "()Z"⟩ : MethodName) prog_21_method_12_code 1 (some .boolean) [] ({ frames := 0, cells := 0, slots := 0, locals := 0 } : Room) #[(.ref a_NOT)] h (fun v h' => v = some (.int (0 : Int32)) ∧ h = h') := by
  refine met_of (Ls := #[(.val (.ref a_NOT))]) (by decide +kernel) (fun m => by first | rfl | (simp [entryFrame, mkF, argsToLocals, Value.category]; done)) O ?_
  intro p e s m below meth cd C
  refine go_aloadN C (pc' := 1) dc_prog_21_method_12_code_0 rfl rfl rfl ?_
  refine go_getS C (pc' := 4) (host := "") (Or.inl (wd_56 hw)) Via.refl EnIF.1 dc_prog_21_method_12_code_1 rfl ?_
  refine go_acmpNo C (pc' := 7) dc_prog_21_method_12_code_4 rfl rfl (acmp_eqF (fun q => Fld.ne EnNOT.2.2 EnIF.2.2 (by decide) (Value.ref.inj q))) rfl ?_
  refine go_aloadN C (pc' := 8) dc_prog_21_method_12_code_7 rfl rfl rfl ?_
  refine go_getS C (pc' := 11) (host := "") (Or.inl (wd_57 hw)) Via.refl EnRETURN.1 dc_prog_21_method_12_code_8 rfl ?_
  refine go_acmpNo C (pc' := 14) dc_prog_21_method_12_code_11 rfl rfl (acmp_eqF (fun q => Fld.ne EnNOT.2.2 EnRETURN.2.2 (by decide) (Value.ref.inj q))) rfl ?_
  refine go_aloadN C (pc' := 15) dc_prog_21_method_12_code_14 rfl rfl rfl ?_
  refine go_getS C (pc' := 18) (host := "") (Or.inl (wd_58 hw)) Via.refl EnZERO_CHECK.1 dc_prog_21_method_12_code_15 rfl ?_
  refine go_acmpNo C (pc' := 21) dc_prog_21_method_12_code_18 rfl rfl (acmp_eqF (fun q => Fld.ne EnNOT.2.2 EnZERO_CHECK.2.2 (by decide) (Value.ref.inj q))) rfl ?_
  refine go_aloadN C (pc' := 22) dc_prog_21_method_12_code_21 rfl rfl rfl ?_
  refine go_getS C (pc' := 25) (host := "") (Or.inl (wd_59 hw)) Via.refl EnREGION.1 dc_prog_21_method_12_code_22 rfl ?_
  refine go_acmpNo C (pc' := 28) dc_prog_21_method_12_code_25 rfl rfl (acmp_eqF (fun q => Fld.ne EnNOT.2.2 EnREGION.2.2 (by decide) (Value.ref.inj q))) rfl ?_
  refine go_aloadN C (pc' := 29) dc_prog_21_method_12_code_28 rfl rfl rfl ?_
  refine go_getS C (pc' := 32) (host := "") (Or.inl (wd_60 hw)) Via.refl EnLOOP.1 dc_prog_21_method_12_code_29 rfl ?_
  refine go_acmpYes C (pc' := 39) dc_prog_21_method_12_code_32 rfl rfl (acmp_neT (fun q => Fld.ne EnNOT.2.2 EnLOOP.2.2 (by decide) (Value.ref.inj q))) (by decide) (by decide) ?_
  refine go_iconst C (pc' := 40) dc_prog_21_method_12_code_39 (z := (0 : Int32)) (by decide) rfl ?_
  exact go_retN C (by simp) (z' := (0 : Int32)) (by decide) dc_prog_21_method_12_code_40 (by decide) (by decide) ⟨rfl, rfl⟩
set_option maxRecDepth 65536 in
set_option maxHeartbeats 4000000 in
theorem cons_EQ (l : Launch) (Z : State) (a0 : Array Value) (hw : ∀ d ∈ tables_1, d.before a0 Z = true) (n0 : Nat) (h : Heap) (O : Old Z n0 h) {a_EQ : Addr} (EnEQ : En_EQ Z h a_EQ) {a_IF : Addr} (EnIF : En_IF Z h a_IF) {a_REGION : Addr} (EnREGION : En_REGION Z h a_REGION) {a_LOOP : Addr} (EnLOOP : En_LOOP Z h a_LOOP) {a_ZERO_CHECK : Addr} (EnZERO_CHECK : En_ZERO_CHECK Z h a_ZERO_CHECK) {a_RETURN : Addr} (EnRETURN : En_RETURN Z h a_RETURN) :
    Met l Z n0 (⟨"com/example/tidewater/tidewater/graph/NodeKind", "isControlConsumer", "()Z"⟩ : MethodName) prog_21_method_12_code 1 (some .boolean) [] ({ frames := 0, cells := 0, slots := 0, locals := 0 } : Room) #[(.ref a_EQ)] h (fun v h' => v = some (.int (0 : Int32)) ∧ h = h') := by
  refine met_of (Ls := #[(.val (.ref a_EQ))]) (by decide +kernel) (fun m => by first | rfl | (simp [entryFrame, mkF, argsToLocals, Value.category]; done)) O ?_
  intro p e s m below meth cd C
  refine go_aloadN C (pc' := 1) dc_prog_21_method_12_code_0 rfl rfl rfl ?_
  refine go_getS C (pc' := 4) (host := "") (Or.inl (wd_56 hw)) Via.refl EnIF.1 dc_prog_21_method_12_code_1 rfl ?_
  refine go_acmpNo C (pc' := 7) dc_prog_21_method_12_code_4 rfl rfl (acmp_eqF (fun q => Fld.ne EnEQ.2.2 EnIF.2.2 (by decide) (Value.ref.inj q))) rfl ?_
  refine go_aloadN C (pc' := 8) dc_prog_21_method_12_code_7 rfl rfl rfl ?_
  refine go_getS C (pc' := 11) (host := "") (Or.inl (wd_57 hw)) Via.refl EnRETURN.1 dc_prog_21_method_12_code_8 rfl ?_
  refine go_acmpNo C (pc' := 14) dc_prog_21_method_12_code_11 rfl rfl (acmp_eqF (fun q => Fld.ne EnEQ.2.2 EnRETURN.2.2 (by decide) (Value.ref.inj q))) rfl ?_
  refine go_aloadN C (pc' := 15) dc_prog_21_method_12_code_14 rfl rfl rfl ?_
  refine go_getS C (pc' := 18) (host := "") (Or.inl (wd_58 hw)) Via.refl EnZERO_CHECK.1 dc_prog_21_method_12_code_15 rfl ?_
  refine go_acmpNo C (pc' := 21) dc_prog_21_method_12_code_18 rfl rfl (acmp_eqF (fun q => Fld.ne EnEQ.2.2 EnZERO_CHECK.2.2 (by decide) (Value.ref.inj q))) rfl ?_
  refine go_aloadN C (pc' := 22) dc_prog_21_method_12_code_21 rfl rfl rfl ?_
  refine go_getS C (pc' := 25) (host := "") (Or.inl (wd_59 hw)) Via.refl EnREGION.1 dc_prog_21_method_12_code_22 rfl ?_
  refine go_acmpNo C (pc' := 28) dc_prog_21_method_12_code_25 rfl rfl (acmp_eqF (fun q => Fld.ne EnEQ.2.2 EnREGION.2.2 (by decide) (Value.ref.inj q))) rfl ?_
  refine go_aloadN C (pc' := 29) dc_prog_21_method_12_code_28 rfl rfl rfl ?_
  refine go_getS C (pc' := 32) (host := "") (Or.inl (wd_60 hw)) Via.refl EnLOOP.1 dc_prog_21_method_12_code_29 rfl ?_
  refine go_acmpYes C (pc' := 39) dc_prog_21_method_12_code_32 rfl rfl (acmp_neT (fun q => Fld.ne EnEQ.2.2 EnLOOP.2.2 (by decide) (Value.ref.inj q))) (by decide) (by decide) ?_
  refine go_iconst C (pc' := 40) dc_prog_21_method_12_code_39 (z := (0 : Int32)) (by decide) rfl ?_
  exact go_retN C (by simp) (z' := (0 : Int32)) (by decide) dc_prog_21_method_12_code_40 (by decide) (by decide) ⟨rfl, rfl⟩
set_option maxRecDepth 65536 in
set_option maxHeartbeats 4000000 in
theorem cons_NE (l : Launch) (Z : State) (a0 : Array Value) (hw : ∀ d ∈ tables_1, d.before a0 Z = true) (n0 : Nat) (h : Heap) (O : Old Z n0 h) {a_NE : Addr} (EnNE : En_NE Z h a_NE) {a_IF : Addr} (EnIF : En_IF Z h a_IF) {a_REGION : Addr} (EnREGION : En_REGION Z h a_REGION) {a_LOOP : Addr} (EnLOOP : En_LOOP Z h a_LOOP) {a_ZERO_CHECK : Addr} (EnZERO_CHECK : En_ZERO_CHECK Z h a_ZERO_CHECK) {a_RETURN : Addr} (EnRETURN : En_RETURN Z h a_RETURN) :
    Met l Z n0 (⟨"com/example/tidewater/tidewater/graph/NodeKind", "isControlConsumer", "()Z"⟩ : MethodName) prog_21_method_12_code 1 (some .boolean) [] ({ frames := 0, cells := 0, slots := 0, locals := 0 } : Room) #[(.ref a_NE)] h (fun v h' => v = some (.int (0 : Int32)) ∧ h = h') := by
  refine met_of (Ls := #[(.val (.ref a_NE))]) (by decide +kernel) (fun m => by first | rfl | (simp [entryFrame, mkF, argsToLocals, Value.category]; done)) O ?_
  intro p e s m below meth cd C
  refine go_aloadN C (pc' := 1) dc_prog_21_method_12_code_0 rfl rfl rfl ?_
  refine go_getS C (pc' := 4) (host := "") (Or.inl (wd_56 hw)) Via.refl EnIF.1 dc_prog_21_method_12_code_1 rfl ?_
  refine go_acmpNo C (pc' := 7) dc_prog_21_method_12_code_4 rfl rfl (acmp_eqF (fun q => Fld.ne EnNE.2.2 EnIF.2.2 (by decide) (Value.ref.inj q))) rfl ?_
  refine go_aloadN C (pc' := 8) dc_prog_21_method_12_code_7 rfl rfl rfl ?_
  refine go_getS C (pc' := 11) (host := "") (Or.inl (wd_57 hw)) Via.refl EnRETURN.1 dc_prog_21_method_12_code_8 rfl ?_
  refine go_acmpNo C (pc' := 14) dc_prog_21_method_12_code_11 rfl rfl (acmp_eqF (fun q => Fld.ne EnNE.2.2 EnRETURN.2.2 (by decide) (Value.ref.inj q))) rfl ?_
  refine go_aloadN C (pc' := 15) dc_prog_21_method_12_code_14 rfl rfl rfl ?_
  refine go_getS C (pc' := 18) (host := "") (Or.inl (wd_58 hw)) Via.refl EnZERO_CHECK.1 dc_prog_21_method_12_code_15 rfl ?_
  refine go_acmpNo C (pc' := 21) dc_prog_21_method_12_code_18 rfl rfl (acmp_eqF (fun q => Fld.ne EnNE.2.2 EnZERO_CHECK.2.2 (by decide) (Value.ref.inj q))) rfl ?_
  refine go_aloadN C (pc' := 22) dc_prog_21_method_12_code_21 rfl rfl rfl ?_
  refine go_getS C (pc' := 25) (host := "") (Or.inl (wd_59 hw)) Via.refl EnREGION.1 dc_prog_21_method_12_code_22 rfl ?_
  refine go_acmpNo C (pc' := 28) dc_prog_21_method_12_code_25 rfl rfl (acmp_eqF (fun q => Fld.ne EnNE.2.2 EnREGION.2.2 (by decide) (Value.ref.inj q))) rfl ?_
  refine go_aloadN C (pc' := 29) dc_prog_21_method_12_code_28 rfl rfl rfl ?_
  refine go_getS C (pc' := 32) (host := "") (Or.inl (wd_60 hw)) Via.refl EnLOOP.1 dc_prog_21_method_12_code_29 rfl ?_
  refine go_acmpYes C (pc' := 39) dc_prog_21_method_12_code_32 rfl rfl (acmp_neT (fun q => Fld.ne EnNE.2.2 EnLOOP.2.2 (by decide) (Value.ref.inj q))) (by decide) (by decide) ?_
  refine go_iconst C (pc' := 40) dc_prog_21_method_12_code_39 (z := (0 : Int32)) (by decide) rfl ?_
  exact go_retN C (by simp) (z' := (0 : Int32)) (by decide) dc_prog_21_method_12_code_40 (by decide) (by decide) ⟨rfl, rfl⟩
set_option maxRecDepth 65536 in
set_option maxHeartbeats 4000000 in
theorem cons_LT (l : Launch) (Z : State) (a0 : Array Value) (hw : ∀ d ∈ tables_1, d.before a0 Z = true) (n0 : Nat) (h : Heap) (O : Old Z n0 h) {a_LT : Addr} (EnLT : En_LT Z h a_LT) {a_IF : Addr} (EnIF : En_IF Z h a_IF) {a_REGION : Addr} (EnREGION : En_REGION Z h a_REGION) {a_LOOP : Addr} (EnLOOP : En_LOOP Z h a_LOOP) {a_ZERO_CHECK : Addr} (EnZERO_CHECK : En_ZERO_CHECK Z h a_ZERO_CHECK) {a_RETURN : Addr} (EnRETURN : En_RETURN Z h a_RETURN) :
    Met l Z n0 (⟨"com/example/tidewater/tidewater/graph/NodeKind", "isControlConsumer", "()Z"⟩ : MethodName) prog_21_method_12_code 1 (some .boolean) [] ({ frames := 0, cells := 0, slots := 0, locals := 0 } : Room) #[(.ref a_LT)] h (fun v h' => v = some (.int (0 : Int32)) ∧ h = h') := by
  refine met_of (Ls := #[(.val (.ref a_LT))]) (by decide +kernel) (fun m => by first | rfl | (simp [entryFrame, mkF, argsToLocals, Value.category]; done)) O ?_
  intro p e s m below meth cd C
  refine go_aloadN C (pc' := 1) dc_prog_21_method_12_code_0 rfl rfl rfl ?_
  refine go_getS C (pc' := 4) (host := "") (Or.inl (wd_56 hw)) Via.refl EnIF.1 dc_prog_21_method_12_code_1 rfl ?_
  refine go_acmpNo C (pc' := 7) dc_prog_21_method_12_code_4 rfl rfl (acmp_eqF (fun q => Fld.ne EnLT.2.2 EnIF.2.2 (by decide) (Value.ref.inj q))) rfl ?_
  refine go_aloadN C (pc' := 8) dc_prog_21_method_12_code_7 rfl rfl rfl ?_
  refine go_getS C (pc' := 11) (host := "") (Or.inl (wd_57 hw)) Via.refl EnRETURN.1 dc_prog_21_method_12_code_8 rfl ?_
  refine go_acmpNo C (pc' := 14) dc_prog_21_method_12_code_11 rfl rfl (acmp_eqF (fun q => Fld.ne EnLT.2.2 EnRETURN.2.2 (by decide) (Value.ref.inj q))) rfl ?_
  refine go_aloadN C (pc' := 15) dc_prog_21_method_12_code_14 rfl rfl rfl ?_
  refine go_getS C (pc' := 18) (host := "") (Or.inl (wd_58 hw)) Via.refl EnZERO_CHECK.1 dc_prog_21_method_12_code_15 rfl ?_
  refine go_acmpNo C (pc' := 21) dc_prog_21_method_12_code_18 rfl rfl (acmp_eqF (fun q => Fld.ne EnLT.2.2 EnZERO_CHECK.2.2 (by decide) (Value.ref.inj q))) rfl ?_
  refine go_aloadN C (pc' := 22) dc_prog_21_method_12_code_21 rfl rfl rfl ?_
  refine go_getS C (pc' := 25) (host := "") (Or.inl (wd_59 hw)) Via.refl EnREGION.1 dc_prog_21_method_12_code_22 rfl ?_
  refine go_acmpNo C (pc' := 28) dc_prog_21_method_12_code_25 rfl rfl (acmp_eqF (fun q => Fld.ne EnLT.2.2 EnREGION.2.2 (by decide) (Value.ref.inj q))) rfl ?_
  refine go_aloadN C (pc' := 29) dc_prog_21_method_12_code_28 rfl rfl rfl ?_
  refine go_getS C (pc' := 32) (host := "") (Or.inl (wd_60 hw)) Via.refl EnLOOP.1 dc_prog_21_method_12_code_29 rfl ?_
  refine go_acmpYes C (pc' := 39) dc_prog_21_method_12_code_32 rfl rfl (acmp_neT (fun q => Fld.ne EnLT.2.2 EnLOOP.2.2 (by decide) (Value.ref.inj q))) (by decide) (by decide) ?_
  refine go_iconst C (pc' := 40) dc_prog_21_method_12_code_39 (z := (0 : Int32)) (by decide) rfl ?_
  exact go_retN C (by simp) (z' := (0 : Int32)) (by decide) dc_prog_21_method_12_code_40 (by decide) (by decide) ⟨rfl, rfl⟩
set_option maxRecDepth 65536 in
set_option maxHeartbeats 4000000 in
theorem cons_LE (l : Launch) (Z : State) (a0 : Array Value) (hw : ∀ d ∈ tables_1, d.before a0 Z = true) (n0 : Nat) (h : Heap) (O : Old Z n0 h) {a_LE : Addr} (EnLE : En_LE Z h a_LE) {a_IF : Addr} (EnIF : En_IF Z h a_IF) {a_REGION : Addr} (EnREGION : En_REGION Z h a_REGION) {a_LOOP : Addr} (EnLOOP : En_LOOP Z h a_LOOP) {a_ZERO_CHECK : Addr} (EnZERO_CHECK : En_ZERO_CHECK Z h a_ZERO_CHECK) {a_RETURN : Addr} (EnRETURN : En_RETURN Z h a_RETURN) :
    Met l Z n0 (⟨"com/example/tidewater/tidewater/graph/NodeKind", "isControlConsumer", "()Z"⟩ : MethodName) prog_21_method_12_code 1 (some .boolean) [] ({ frames := 0, cells := 0, slots := 0, locals := 0 } : Room) #[(.ref a_LE)] h (fun v h' => v = some (.int (0 : Int32)) ∧ h = h') := by
  refine met_of (Ls := #[(.val (.ref a_LE))]) (by decide +kernel) (fun m => by first | rfl | (simp [entryFrame, mkF, argsToLocals, Value.category]; done)) O ?_
  intro p e s m below meth cd C
  refine go_aloadN C (pc' := 1) dc_prog_21_method_12_code_0 rfl rfl rfl ?_
  refine go_getS C (pc' := 4) (host := "") (Or.inl (wd_56 hw)) Via.refl EnIF.1 dc_prog_21_method_12_code_1 rfl ?_
  refine go_acmpNo C (pc' := 7) dc_prog_21_method_12_code_4 rfl rfl (acmp_eqF (fun q => Fld.ne EnLE.2.2 EnIF.2.2 (by decide) (Value.ref.inj q))) rfl ?_
  refine go_aloadN C (pc' := 8) dc_prog_21_method_12_code_7 rfl rfl rfl ?_
  refine go_getS C (pc' := 11) (host := "") (Or.inl (wd_57 hw)) Via.refl EnRETURN.1 dc_prog_21_method_12_code_8 rfl ?_
  refine go_acmpNo C (pc' := 14) dc_prog_21_method_12_code_11 rfl rfl (acmp_eqF (fun q => Fld.ne EnLE.2.2 EnRETURN.2.2 (by decide) (Value.ref.inj q))) rfl ?_
  refine go_aloadN C (pc' := 15) dc_prog_21_method_12_code_14 rfl rfl rfl ?_
  refine go_getS C (pc' := 18) (host := "") (Or.inl (wd_58 hw)) Via.refl EnZERO_CHECK.1 dc_prog_21_method_12_code_15 rfl ?_
  refine go_acmpNo C (pc' := 21) dc_prog_21_method_12_code_18 rfl rfl (acmp_eqF (fun q => Fld.ne EnLE.2.2 EnZERO_CHECK.2.2 (by decide) (Value.ref.inj q))) rfl ?_
  refine go_aloadN C (pc' := 22) dc_prog_21_method_12_code_21 rfl rfl rfl ?_
  refine go_getS C (pc' := 25) (host := "") (Or.inl (wd_59 hw)) Via.refl EnREGION.1 dc_prog_21_method_12_code_22 rfl ?_
  refine go_acmpNo C (pc' := 28) dc_prog_21_method_12_code_25 rfl rfl (acmp_eqF (fun q => Fld.ne EnLE.2.2 EnREGION.2.2 (by decide) (Value.ref.inj q))) rfl ?_
  refine go_aloadN C (pc' := 29) dc_prog_21_method_12_code_28 rfl rfl rfl ?_
  refine go_getS C (pc' := 32) (host := "") (Or.inl (wd_60 hw)) Via.refl EnLOOP.1 dc_prog_21_method_12_code_29 rfl ?_
  refine go_acmpYes C (pc' := 39) dc_prog_21_method_12_code_32 rfl rfl (acmp_neT (fun q => Fld.ne EnLE.2.2 EnLOOP.2.2 (by decide) (Value.ref.inj q))) (by decide) (by decide) ?_
  refine go_iconst C (pc' := 40) dc_prog_21_method_12_code_39 (z := (0 : Int32)) (by decide) rfl ?_
  exact go_retN C (by simp) (z' := (0 : Int32)) (by decide) dc_prog_21_method_12_code_40 (by decide) (by decide) ⟨rfl, rfl⟩
set_option maxRecDepth 65536 in
set_option maxHeartbeats 4000000 in
theorem cons_GT (l : Launch) (Z : State) (a0 : Array Value) (hw : ∀ d ∈ tables_1, d.before a0 Z = true) (n0 : Nat) (h : Heap) (O : Old Z n0 h) {a_GT : Addr} (EnGT : En_GT Z h a_GT) {a_IF : Addr} (EnIF : En_IF Z h a_IF) {a_REGION : Addr} (EnREGION : En_REGION Z h a_REGION) {a_LOOP : Addr} (EnLOOP : En_LOOP Z h a_LOOP) {a_ZERO_CHECK : Addr} (EnZERO_CHECK : En_ZERO_CHECK Z h a_ZERO_CHECK) {a_RETURN : Addr} (EnRETURN : En_RETURN Z h a_RETURN) :
    Met l Z n0 (⟨"com/example/tidewater/tidewater/graph/NodeKind", "isControlConsumer", "()Z"⟩ : MethodName) prog_21_method_12_code 1 (some .boolean) [] ({ frames := 0, cells := 0, slots := 0, locals := 0 } : Room) #[(.ref a_GT)] h (fun v h' => v = some (.int (0 : Int32)) ∧ h = h') := by
  refine met_of (Ls := #[(.val (.ref a_GT))]) (by decide +kernel) (fun m => by first | rfl | (simp [entryFrame, mkF, argsToLocals, Value.category]; done)) O ?_
  intro p e s m below meth cd C
  refine go_aloadN C (pc' := 1) dc_prog_21_method_12_code_0 rfl rfl rfl ?_
  refine go_getS C (pc' := 4) (host := "") (Or.inl (wd_56 hw)) Via.refl EnIF.1 dc_prog_21_method_12_code_1 rfl ?_
  refine go_acmpNo C (pc' := 7) dc_prog_21_method_12_code_4 rfl rfl (acmp_eqF (fun q => Fld.ne EnGT.2.2 EnIF.2.2 (by decide) (Value.ref.inj q))) rfl ?_
  refine go_aloadN C (pc' := 8) dc_prog_21_method_12_code_7 rfl rfl rfl ?_
  refine go_getS C (pc' := 11) (host := "") (Or.inl (wd_57 hw)) Via.refl EnRETURN.1 dc_prog_21_method_12_code_8 rfl ?_
  refine go_acmpNo C (pc' := 14) dc_prog_21_method_12_code_11 rfl rfl (acmp_eqF (fun q => Fld.ne EnGT.2.2 EnRETURN.2.2 (by decide) (Value.ref.inj q))) rfl ?_
  refine go_aloadN C (pc' := 15) dc_prog_21_method_12_code_14 rfl rfl rfl ?_
  refine go_getS C (pc' := 18) (host := "") (Or.inl (wd_58 hw)) Via.refl EnZERO_CHECK.1 dc_prog_21_method_12_code_15 rfl ?_
  refine go_acmpNo C (pc' := 21) dc_prog_21_method_12_code_18 rfl rfl (acmp_eqF (fun q => Fld.ne EnGT.2.2 EnZERO_CHECK.2.2 (by decide) (Value.ref.inj q))) rfl ?_
  refine go_aloadN C (pc' := 22) dc_prog_21_method_12_code_21 rfl rfl rfl ?_
  refine go_getS C (pc' := 25) (host := "") (Or.inl (wd_59 hw)) Via.refl EnREGION.1 dc_prog_21_method_12_code_22 rfl ?_
  refine go_acmpNo C (pc' := 28) dc_prog_21_method_12_code_25 rfl rfl (acmp_eqF (fun q => Fld.ne EnGT.2.2 EnREGION.2.2 (by decide) (Value.ref.inj q))) rfl ?_
  refine go_aloadN C (pc' := 29) dc_prog_21_method_12_code_28 rfl rfl rfl ?_
  refine go_getS C (pc' := 32) (host := "") (Or.inl (wd_60 hw)) Via.refl EnLOOP.1 dc_prog_21_method_12_code_29 rfl ?_
  refine go_acmpYes C (pc' := 39) dc_prog_21_method_12_code_32 rfl rfl (acmp_neT (fun q => Fld.ne EnGT.2.2 EnLOOP.2.2 (by decide) (Value.ref.inj q))) (by decide) (by decide) ?_
  refine go_iconst C (pc' := 40) dc_prog_21_method_12_code_39 (z := (0 : Int32)) (by decide) rfl ?_
  exact go_retN C (by simp) (z' := (0 : Int32)) (by decide) dc_prog_21_method_12_code_40 (by decide) (by decide) ⟨rfl, rfl⟩
set_option maxRecDepth 65536 in
set_option maxHeartbeats 4000000 in
theorem cons_GE (l : Launch) (Z : State) (a0 : Array Value) (hw : ∀ d ∈ tables_1, d.before a0 Z = true) (n0 : Nat) (h : Heap) (O : Old Z n0 h) {a_GE : Addr} (EnGE : En_GE Z h a_GE) {a_IF : Addr} (EnIF : En_IF Z h a_IF) {a_REGION : Addr} (EnREGION : En_REGION Z h a_REGION) {a_LOOP : Addr} (EnLOOP : En_LOOP Z h a_LOOP) {a_ZERO_CHECK : Addr} (EnZERO_CHECK : En_ZERO_CHECK Z h a_ZERO_CHECK) {a_RETURN : Addr} (EnRETURN : En_RETURN Z h a_RETURN) :
    Met l Z n0 (⟨"com/example/tidewater/tidewater/graph/NodeKind", "isControlConsumer", "()Z"⟩ : MethodName) prog_21_method_12_code 1 (some .boolean) [] ({ frames := 0, cells := 0, slots := 0, locals := 0 } : Room) #[(.ref a_GE)] h (fun v h' => v = some (.int (0 : Int32)) ∧ h = h') := by
  refine met_of (Ls := #[(.val (.ref a_GE))]) (by decide +kernel) (fun m => by first | rfl | (simp [entryFrame, mkF, argsToLocals, Value.category]; done)) O ?_
  intro p e s m below meth cd C
  refine go_aloadN C (pc' := 1) dc_prog_21_method_12_code_0 rfl rfl rfl ?_
  refine go_getS C (pc' := 4) (host := "") (Or.inl (wd_56 hw)) Via.refl EnIF.1 dc_prog_21_method_12_code_1 rfl ?_
  refine go_acmpNo C (pc' := 7) dc_prog_21_method_12_code_4 rfl rfl (acmp_eqF (fun q => Fld.ne EnGE.2.2 EnIF.2.2 (by decide) (Value.ref.inj q))) rfl ?_
  refine go_aloadN C (pc' := 8) dc_prog_21_method_12_code_7 rfl rfl rfl ?_
  refine go_getS C (pc' := 11) (host := "") (Or.inl (wd_57 hw)) Via.refl EnRETURN.1 dc_prog_21_method_12_code_8 rfl ?_
  refine go_acmpNo C (pc' := 14) dc_prog_21_method_12_code_11 rfl rfl (acmp_eqF (fun q => Fld.ne EnGE.2.2 EnRETURN.2.2 (by decide) (Value.ref.inj q))) rfl ?_
  refine go_aloadN C (pc' := 15) dc_prog_21_method_12_code_14 rfl rfl rfl ?_
  refine go_getS C (pc' := 18) (host := "") (Or.inl (wd_58 hw)) Via.refl EnZERO_CHECK.1 dc_prog_21_method_12_code_15 rfl ?_
  refine go_acmpNo C (pc' := 21) dc_prog_21_method_12_code_18 rfl rfl (acmp_eqF (fun q => Fld.ne EnGE.2.2 EnZERO_CHECK.2.2 (by decide) (Value.ref.inj q))) rfl ?_
  refine go_aloadN C (pc' := 22) dc_prog_21_method_12_code_21 rfl rfl rfl ?_
  refine go_getS C (pc' := 25) (host := "") (Or.inl (wd_59 hw)) Via.refl EnREGION.1 dc_prog_21_method_12_code_22 rfl ?_
  refine go_acmpNo C (pc' := 28) dc_prog_21_method_12_code_25 rfl rfl (acmp_eqF (fun q => Fld.ne EnGE.2.2 EnREGION.2.2 (by decide) (Value.ref.inj q))) rfl ?_
  refine go_aloadN C (pc' := 29) dc_prog_21_method_12_code_28 rfl rfl rfl ?_
  refine go_getS C (pc' := 32) (host := "") (Or.inl (wd_60 hw)) Via.refl EnLOOP.1 dc_prog_21_method_12_code_29 rfl ?_
  refine go_acmpYes C (pc' := 39) dc_prog_21_method_12_code_32 rfl rfl (acmp_neT (fun q => Fld.ne EnGE.2.2 EnLOOP.2.2 (by decide) (Value.ref.inj q))) (by decide) (by decide) ?_
  refine go_iconst C (pc' := 40) dc_prog_21_method_12_code_39 (z := (0 : Int32)) (by decide) rfl ?_
  exact go_retN C (by simp) (z' := (0 : Int32)) (by decide) dc_prog_21_method_12_code_40 (by decide) (by decide) ⟨rfl, rfl⟩
set_option maxRecDepth 65536 in
set_option maxHeartbeats 4000000 in
theorem cons_IF (l : Launch) (Z : State) (a0 : Array Value) (hw : ∀ d ∈ tables_1, d.before a0 Z = true) (n0 : Nat) (h : Heap) (O : Old Z n0 h) {a_IF : Addr} (EnIF : En_IF Z h a_IF) {a_REGION : Addr} (EnREGION : En_REGION Z h a_REGION) {a_LOOP : Addr} (EnLOOP : En_LOOP Z h a_LOOP) {a_ZERO_CHECK : Addr} (EnZERO_CHECK : En_ZERO_CHECK Z h a_ZERO_CHECK) {a_RETURN : Addr} (EnRETURN : En_RETURN Z h a_RETURN) :
    Met l Z n0 (⟨"com/example/tidewater/tidewater/graph/NodeKind", "isControlConsumer", "()Z"⟩ : MethodName) prog_21_method_12_code 1 (some .boolean) [] ({ frames := 0, cells := 0, slots := 0, locals := 0 } : Room) #[(.ref a_IF)] h (fun v h' => v = some (.int (1 : Int32)) ∧ h = h') := by
  refine met_of (Ls := #[(.val (.ref a_IF))]) (by decide +kernel) (fun m => by first | rfl | (simp [entryFrame, mkF, argsToLocals, Value.category]; done)) O ?_
  intro p e s m below meth cd C
  refine go_aloadN C (pc' := 1) dc_prog_21_method_12_code_0 rfl rfl rfl ?_
  refine go_getS C (pc' := 4) (host := "") (Or.inl (wd_56 hw)) Via.refl EnIF.1 dc_prog_21_method_12_code_1 rfl ?_
  refine go_acmpYes C (pc' := 35) dc_prog_21_method_12_code_4 rfl rfl (acmp_eqT rfl) (by decide) (by decide) ?_
  refine go_iconst C (pc' := 36) dc_prog_21_method_12_code_35 (z := (1 : Int32)) (by decide) rfl ?_
  refine go_goto C (pc' := 40) dc_prog_21_method_12_code_36 (by decide) (by decide) ?_
  exact go_retN C (by simp) (z' := (1 : Int32)) (by decide) dc_prog_21_method_12_code_40 (by decide) (by decide) ⟨rfl, rfl⟩
set_option maxRecDepth 65536 in
set_option maxHeartbeats 4000000 in
theorem cons_REGION (l : Launch) (Z : State) (a0 : Array Value) (hw : ∀ d ∈ tables_1, d.before a0 Z = true) (n0 : Nat) (h : Heap) (O : Old Z n0 h) {a_IF : Addr} (EnIF : En_IF Z h a_IF) {a_REGION : Addr} (EnREGION : En_REGION Z h a_REGION) {a_LOOP : Addr} (EnLOOP : En_LOOP Z h a_LOOP) {a_ZERO_CHECK : Addr} (EnZERO_CHECK : En_ZERO_CHECK Z h a_ZERO_CHECK) {a_RETURN : Addr} (EnRETURN : En_RETURN Z h a_RETURN) :
    Met l Z n0 (⟨"com/example/tidewater/tidewater/graph/NodeKind", "isControlConsumer", "()Z"⟩ : MethodName) prog_21_method_12_code 1 (some .boolean) [] ({ frames := 0, cells := 0, slots := 0, locals := 0 } : Room) #[(.ref a_REGION)] h (fun v h' => v = some (.int (1 : Int32)) ∧ h = h') := by
  refine met_of (Ls := #[(.val (.ref a_REGION))]) (by decide +kernel) (fun m => by first | rfl | (simp [entryFrame, mkF, argsToLocals, Value.category]; done)) O ?_
  intro p e s m below meth cd C
  refine go_aloadN C (pc' := 1) dc_prog_21_method_12_code_0 rfl rfl rfl ?_
  refine go_getS C (pc' := 4) (host := "") (Or.inl (wd_56 hw)) Via.refl EnIF.1 dc_prog_21_method_12_code_1 rfl ?_
  refine go_acmpNo C (pc' := 7) dc_prog_21_method_12_code_4 rfl rfl (acmp_eqF (fun q => Fld.ne EnREGION.2.2 EnIF.2.2 (by decide) (Value.ref.inj q))) rfl ?_
  refine go_aloadN C (pc' := 8) dc_prog_21_method_12_code_7 rfl rfl rfl ?_
  refine go_getS C (pc' := 11) (host := "") (Or.inl (wd_57 hw)) Via.refl EnRETURN.1 dc_prog_21_method_12_code_8 rfl ?_
  refine go_acmpNo C (pc' := 14) dc_prog_21_method_12_code_11 rfl rfl (acmp_eqF (fun q => Fld.ne EnREGION.2.2 EnRETURN.2.2 (by decide) (Value.ref.inj q))) rfl ?_
  refine go_aloadN C (pc' := 15) dc_prog_21_method_12_code_14 rfl rfl rfl ?_
  refine go_getS C (pc' := 18) (host := "") (Or.inl (wd_58 hw)) Via.refl EnZERO_CHECK.1 dc_prog_21_method_12_code_15 rfl ?_
  refine go_acmpNo C (pc' := 21) dc_prog_21_method_12_code_18 rfl rfl (acmp_eqF (fun q => Fld.ne EnREGION.2.2 EnZERO_CHECK.2.2 (by decide) (Value.ref.inj q))) rfl ?_
  refine go_aloadN C (pc' := 22) dc_prog_21_method_12_code_21 rfl rfl rfl ?_
  refine go_getS C (pc' := 25) (host := "") (Or.inl (wd_59 hw)) Via.refl EnREGION.1 dc_prog_21_method_12_code_22 rfl ?_
  refine go_acmpYes C (pc' := 35) dc_prog_21_method_12_code_25 rfl rfl (acmp_eqT rfl) (by decide) (by decide) ?_
  refine go_iconst C (pc' := 36) dc_prog_21_method_12_code_35 (z := (1 : Int32)) (by decide) rfl ?_
  refine go_goto C (pc' := 40) dc_prog_21_method_12_code_36 (by decide) (by decide) ?_
  exact go_retN C (by simp) (z' := (1 : Int32)) (by decide) dc_prog_21_method_12_code_40 (by decide) (by decide) ⟨rfl, rfl⟩
set_option maxRecDepth 65536 in
set_option maxHeartbeats 4000000 in
theorem cons_LOOP (l : Launch) (Z : State) (a0 : Array Value) (hw : ∀ d ∈ tables_1, d.before a0 Z = true) (n0 : Nat) (h : Heap) (O : Old Z n0 h) {a_IF : Addr} (EnIF : En_IF Z h a_IF) {a_REGION : Addr} (EnREGION : En_REGION Z h a_REGION) {a_LOOP : Addr} (EnLOOP : En_LOOP Z h a_LOOP) {a_ZERO_CHECK : Addr} (EnZERO_CHECK : En_ZERO_CHECK Z h a_ZERO_CHECK) {a_RETURN : Addr} (EnRETURN : En_RETURN Z h a_RETURN) :
    Met l Z n0 (⟨"com/example/tidewater/tidewater/graph/NodeKind", "isControlConsumer", "()Z"⟩ : MethodName) prog_21_method_12_code 1 (some .boolean) [] ({ frames := 0, cells := 0, slots := 0, locals := 0 } : Room) #[(.ref a_LOOP)] h (fun v h' => v = some (.int (1 : Int32)) ∧ h = h') := by
  refine met_of (Ls := #[(.val (.ref a_LOOP))]) (by decide +kernel) (fun m => by first | rfl | (simp [entryFrame, mkF, argsToLocals, Value.category]; done)) O ?_
  intro p e s m below meth cd C
  refine go_aloadN C (pc' := 1) dc_prog_21_method_12_code_0 rfl rfl rfl ?_
  refine go_getS C (pc' := 4) (host := "") (Or.inl (wd_56 hw)) Via.refl EnIF.1 dc_prog_21_method_12_code_1 rfl ?_
  refine go_acmpNo C (pc' := 7) dc_prog_21_method_12_code_4 rfl rfl (acmp_eqF (fun q => Fld.ne EnLOOP.2.2 EnIF.2.2 (by decide) (Value.ref.inj q))) rfl ?_
  refine go_aloadN C (pc' := 8) dc_prog_21_method_12_code_7 rfl rfl rfl ?_
  refine go_getS C (pc' := 11) (host := "") (Or.inl (wd_57 hw)) Via.refl EnRETURN.1 dc_prog_21_method_12_code_8 rfl ?_
  refine go_acmpNo C (pc' := 14) dc_prog_21_method_12_code_11 rfl rfl (acmp_eqF (fun q => Fld.ne EnLOOP.2.2 EnRETURN.2.2 (by decide) (Value.ref.inj q))) rfl ?_
  refine go_aloadN C (pc' := 15) dc_prog_21_method_12_code_14 rfl rfl rfl ?_
  refine go_getS C (pc' := 18) (host := "") (Or.inl (wd_58 hw)) Via.refl EnZERO_CHECK.1 dc_prog_21_method_12_code_15 rfl ?_
  refine go_acmpNo C (pc' := 21) dc_prog_21_method_12_code_18 rfl rfl (acmp_eqF (fun q => Fld.ne EnLOOP.2.2 EnZERO_CHECK.2.2 (by decide) (Value.ref.inj q))) rfl ?_
  refine go_aloadN C (pc' := 22) dc_prog_21_method_12_code_21 rfl rfl rfl ?_
  refine go_getS C (pc' := 25) (host := "") (Or.inl (wd_59 hw)) Via.refl EnREGION.1 dc_prog_21_method_12_code_22 rfl ?_
  refine go_acmpNo C (pc' := 28) dc_prog_21_method_12_code_25 rfl rfl (acmp_eqF (fun q => Fld.ne EnLOOP.2.2 EnREGION.2.2 (by decide) (Value.ref.inj q))) rfl ?_
  refine go_aloadN C (pc' := 29) dc_prog_21_method_12_code_28 rfl rfl rfl ?_
  refine go_getS C (pc' := 32) (host := "") (Or.inl (wd_60 hw)) Via.refl EnLOOP.1 dc_prog_21_method_12_code_29 rfl ?_
  refine go_acmpNo C (pc' := 35) dc_prog_21_method_12_code_32 rfl rfl (acmp_neF rfl) rfl ?_
  refine go_iconst C (pc' := 36) dc_prog_21_method_12_code_35 (z := (1 : Int32)) (by decide) rfl ?_
  refine go_goto C (pc' := 40) dc_prog_21_method_12_code_36 (by decide) (by decide) ?_
  exact go_retN C (by simp) (z' := (1 : Int32)) (by decide) dc_prog_21_method_12_code_40 (by decide) (by decide) ⟨rfl, rfl⟩
set_option maxRecDepth 65536 in
set_option maxHeartbeats 4000000 in
theorem cons_PHI (l : Launch) (Z : State) (a0 : Array Value) (hw : ∀ d ∈ tables_1, d.before a0 Z = true) (n0 : Nat) (h : Heap) (O : Old Z n0 h) {a_IF : Addr} (EnIF : En_IF Z h a_IF) {a_REGION : Addr} (EnREGION : En_REGION Z h a_REGION) {a_LOOP : Addr} (EnLOOP : En_LOOP Z h a_LOOP) {a_PHI : Addr} (EnPHI : En_PHI Z h a_PHI) {a_ZERO_CHECK : Addr} (EnZERO_CHECK : En_ZERO_CHECK Z h a_ZERO_CHECK) {a_RETURN : Addr} (EnRETURN : En_RETURN Z h a_RETURN) :
    Met l Z n0 (⟨"com/example/tidewater/tidewater/graph/NodeKind", "isControlConsumer", "()Z"⟩ : MethodName) prog_21_method_12_code 1 (some .boolean) [] ({ frames := 0, cells := 0, slots := 0, locals := 0 } : Room) #[(.ref a_PHI)] h (fun v h' => v = some (.int (0 : Int32)) ∧ h = h') := by
  refine met_of (Ls := #[(.val (.ref a_PHI))]) (by decide +kernel) (fun m => by first | rfl | (simp [entryFrame, mkF, argsToLocals, Value.category]; done)) O ?_
  intro p e s m below meth cd C
  refine go_aloadN C (pc' := 1) dc_prog_21_method_12_code_0 rfl rfl rfl ?_
  refine go_getS C (pc' := 4) (host := "") (Or.inl (wd_56 hw)) Via.refl EnIF.1 dc_prog_21_method_12_code_1 rfl ?_
  refine go_acmpNo C (pc' := 7) dc_prog_21_method_12_code_4 rfl rfl (acmp_eqF (fun q => Fld.ne EnPHI.2.2 EnIF.2.2 (by decide) (Value.ref.inj q))) rfl ?_
  refine go_aloadN C (pc' := 8) dc_prog_21_method_12_code_7 rfl rfl rfl ?_
  refine go_getS C (pc' := 11) (host := "") (Or.inl (wd_57 hw)) Via.refl EnRETURN.1 dc_prog_21_method_12_code_8 rfl ?_
  refine go_acmpNo C (pc' := 14) dc_prog_21_method_12_code_11 rfl rfl (acmp_eqF (fun q => Fld.ne EnPHI.2.2 EnRETURN.2.2 (by decide) (Value.ref.inj q))) rfl ?_
  refine go_aloadN C (pc' := 15) dc_prog_21_method_12_code_14 rfl rfl rfl ?_
  refine go_getS C (pc' := 18) (host := "") (Or.inl (wd_58 hw)) Via.refl EnZERO_CHECK.1 dc_prog_21_method_12_code_15 rfl ?_
  refine go_acmpNo C (pc' := 21) dc_prog_21_method_12_code_18 rfl rfl (acmp_eqF (fun q => Fld.ne EnPHI.2.2 EnZERO_CHECK.2.2 (by decide) (Value.ref.inj q))) rfl ?_
  refine go_aloadN C (pc' := 22) dc_prog_21_method_12_code_21 rfl rfl rfl ?_
  refine go_getS C (pc' := 25) (host := "") (Or.inl (wd_59 hw)) Via.refl EnREGION.1 dc_prog_21_method_12_code_22 rfl ?_
  refine go_acmpNo C (pc' := 28) dc_prog_21_method_12_code_25 rfl rfl (acmp_eqF (fun q => Fld.ne EnPHI.2.2 EnREGION.2.2 (by decide) (Value.ref.inj q))) rfl ?_
  refine go_aloadN C (pc' := 29) dc_prog_21_method_12_code_28 rfl rfl rfl ?_
  refine go_getS C (pc' := 32) (host := "") (Or.inl (wd_60 hw)) Via.refl EnLOOP.1 dc_prog_21_method_12_code_29 rfl ?_
  refine go_acmpYes C (pc' := 39) dc_prog_21_method_12_code_32 rfl rfl (acmp_neT (fun q => Fld.ne EnPHI.2.2 EnLOOP.2.2 (by decide) (Value.ref.inj q))) (by decide) (by decide) ?_
  refine go_iconst C (pc' := 40) dc_prog_21_method_12_code_39 (z := (0 : Int32)) (by decide) rfl ?_
  exact go_retN C (by simp) (z' := (0 : Int32)) (by decide) dc_prog_21_method_12_code_40 (by decide) (by decide) ⟨rfl, rfl⟩
set_option maxRecDepth 65536 in
set_option maxHeartbeats 4000000 in
theorem cons_ZERO_CHECK (l : Launch) (Z : State) (a0 : Array Value) (hw : ∀ d ∈ tables_1, d.before a0 Z = true) (n0 : Nat) (h : Heap) (O : Old Z n0 h) {a_IF : Addr} (EnIF : En_IF Z h a_IF) {a_REGION : Addr} (EnREGION : En_REGION Z h a_REGION) {a_LOOP : Addr} (EnLOOP : En_LOOP Z h a_LOOP) {a_ZERO_CHECK : Addr} (EnZERO_CHECK : En_ZERO_CHECK Z h a_ZERO_CHECK) {a_RETURN : Addr} (EnRETURN : En_RETURN Z h a_RETURN) :
    Met l Z n0 (⟨"com/example/tidewater/tidewater/graph/NodeKind", "isControlConsumer", "()Z"⟩ : MethodName) prog_21_method_12_code 1 (some .boolean) [] ({ frames := 0, cells := 0, slots := 0, locals := 0 } : Room) #[(.ref a_ZERO_CHECK)] h (fun v h' => v = some (.int (1 : Int32)) ∧ h = h') := by
  refine met_of (Ls := #[(.val (.ref a_ZERO_CHECK))]) (by decide +kernel) (fun m => by first | rfl | (simp [entryFrame, mkF, argsToLocals, Value.category]; done)) O ?_
  intro p e s m below meth cd C
  refine go_aloadN C (pc' := 1) dc_prog_21_method_12_code_0 rfl rfl rfl ?_
  refine go_getS C (pc' := 4) (host := "") (Or.inl (wd_56 hw)) Via.refl EnIF.1 dc_prog_21_method_12_code_1 rfl ?_
  refine go_acmpNo C (pc' := 7) dc_prog_21_method_12_code_4 rfl rfl (acmp_eqF (fun q => Fld.ne EnZERO_CHECK.2.2 EnIF.2.2 (by decide) (Value.ref.inj q))) rfl ?_
  refine go_aloadN C (pc' := 8) dc_prog_21_method_12_code_7 rfl rfl rfl ?_
  refine go_getS C (pc' := 11) (host := "") (Or.inl (wd_57 hw)) Via.refl EnRETURN.1 dc_prog_21_method_12_code_8 rfl ?_
  refine go_acmpNo C (pc' := 14) dc_prog_21_method_12_code_11 rfl rfl (acmp_eqF (fun q => Fld.ne EnZERO_CHECK.2.2 EnRETURN.2.2 (by decide) (Value.ref.inj q))) rfl ?_
  refine go_aloadN C (pc' := 15) dc_prog_21_method_12_code_14 rfl rfl rfl ?_
  refine go_getS C (pc' := 18) (host := "") (Or.inl (wd_58 hw)) Via.refl EnZERO_CHECK.1 dc_prog_21_method_12_code_15 rfl ?_
  refine go_acmpYes C (pc' := 35) dc_prog_21_method_12_code_18 rfl rfl (acmp_eqT rfl) (by decide) (by decide) ?_
  refine go_iconst C (pc' := 36) dc_prog_21_method_12_code_35 (z := (1 : Int32)) (by decide) rfl ?_
  refine go_goto C (pc' := 40) dc_prog_21_method_12_code_36 (by decide) (by decide) ?_
  exact go_retN C (by simp) (z' := (1 : Int32)) (by decide) dc_prog_21_method_12_code_40 (by decide) (by decide) ⟨rfl, rfl⟩
set_option maxRecDepth 65536 in
set_option maxHeartbeats 4000000 in
theorem cons_RETURN (l : Launch) (Z : State) (a0 : Array Value) (hw : ∀ d ∈ tables_1, d.before a0 Z = true) (n0 : Nat) (h : Heap) (O : Old Z n0 h) {a_IF : Addr} (EnIF : En_IF Z h a_IF) {a_REGION : Addr} (EnREGION : En_REGION Z h a_REGION) {a_LOOP : Addr} (EnLOOP : En_LOOP Z h a_LOOP) {a_ZERO_CHECK : Addr} (EnZERO_CHECK : En_ZERO_CHECK Z h a_ZERO_CHECK) {a_RETURN : Addr} (EnRETURN : En_RETURN Z h a_RETURN) :
    Met l Z n0 (⟨"com/example/tidewater/tidewater/graph/NodeKind", "isControlConsumer", "()Z"⟩ : MethodName) prog_21_method_12_code 1 (some .boolean) [] ({ frames := 0, cells := 0, slots := 0, locals := 0 } : Room) #[(.ref a_RETURN)] h (fun v h' => v = some (.int (1 : Int32)) ∧ h = h') := by
  refine met_of (Ls := #[(.val (.ref a_RETURN))]) (by decide +kernel) (fun m => by first | rfl | (simp [entryFrame, mkF, argsToLocals, Value.category]; done)) O ?_
  intro p e s m below meth cd C
  refine go_aloadN C (pc' := 1) dc_prog_21_method_12_code_0 rfl rfl rfl ?_
  refine go_getS C (pc' := 4) (host := "") (Or.inl (wd_56 hw)) Via.refl EnIF.1 dc_prog_21_method_12_code_1 rfl ?_
  refine go_acmpNo C (pc' := 7) dc_prog_21_method_12_code_4 rfl rfl (acmp_eqF (fun q => Fld.ne EnRETURN.2.2 EnIF.2.2 (by decide) (Value.ref.inj q))) rfl ?_
  refine go_aloadN C (pc' := 8) dc_prog_21_method_12_code_7 rfl rfl rfl ?_
  refine go_getS C (pc' := 11) (host := "") (Or.inl (wd_57 hw)) Via.refl EnRETURN.1 dc_prog_21_method_12_code_8 rfl ?_
  refine go_acmpYes C (pc' := 35) dc_prog_21_method_12_code_11 rfl rfl (acmp_eqT rfl) (by decide) (by decide) ?_
  refine go_iconst C (pc' := 36) dc_prog_21_method_12_code_35 (z := (1 : Int32)) (by decide) rfl ?_
  refine go_goto C (pc' := 40) dc_prog_21_method_12_code_36 (by decide) (by decide) ?_
  exact go_retN C (by simp) (z' := (1 : Int32)) (by decide) dc_prog_21_method_12_code_40 (by decide) (by decide) ⟨rfl, rfl⟩
set_option maxRecDepth 65536 in
set_option maxHeartbeats 4000000 in
theorem cons_STOP (l : Launch) (Z : State) (a0 : Array Value) (hw : ∀ d ∈ tables_1, d.before a0 Z = true) (n0 : Nat) (h : Heap) (O : Old Z n0 h) {a_IF : Addr} (EnIF : En_IF Z h a_IF) {a_REGION : Addr} (EnREGION : En_REGION Z h a_REGION) {a_LOOP : Addr} (EnLOOP : En_LOOP Z h a_LOOP) {a_ZERO_CHECK : Addr} (EnZERO_CHECK : En_ZERO_CHECK Z h a_ZERO_CHECK) {a_RETURN : Addr} (EnRETURN : En_RETURN Z h a_RETURN) {a_STOP : Addr} (EnSTOP : En_STOP Z h a_STOP) :
    Met l Z n0 (⟨"com/example/tidewater/tidewater/graph/NodeKind", "isControlConsumer", "()Z"⟩ : MethodName) prog_21_method_12_code 1 (some .boolean) [] ({ frames := 0, cells := 0, slots := 0, locals := 0 } : Room) #[(.ref a_STOP)] h (fun v h' => v = some (.int (0 : Int32)) ∧ h = h') := by
  refine met_of (Ls := #[(.val (.ref a_STOP))]) (by decide +kernel) (fun m => by first | rfl | (simp [entryFrame, mkF, argsToLocals, Value.category]; done)) O ?_
  intro p e s m below meth cd C
  refine go_aloadN C (pc' := 1) dc_prog_21_method_12_code_0 rfl rfl rfl ?_
  refine go_getS C (pc' := 4) (host := "") (Or.inl (wd_56 hw)) Via.refl EnIF.1 dc_prog_21_method_12_code_1 rfl ?_
  refine go_acmpNo C (pc' := 7) dc_prog_21_method_12_code_4 rfl rfl (acmp_eqF (fun q => Fld.ne EnSTOP.2.2 EnIF.2.2 (by decide) (Value.ref.inj q))) rfl ?_
  refine go_aloadN C (pc' := 8) dc_prog_21_method_12_code_7 rfl rfl rfl ?_
  refine go_getS C (pc' := 11) (host := "") (Or.inl (wd_57 hw)) Via.refl EnRETURN.1 dc_prog_21_method_12_code_8 rfl ?_
  refine go_acmpNo C (pc' := 14) dc_prog_21_method_12_code_11 rfl rfl (acmp_eqF (fun q => Fld.ne EnSTOP.2.2 EnRETURN.2.2 (by decide) (Value.ref.inj q))) rfl ?_
  refine go_aloadN C (pc' := 15) dc_prog_21_method_12_code_14 rfl rfl rfl ?_
  refine go_getS C (pc' := 18) (host := "") (Or.inl (wd_58 hw)) Via.refl EnZERO_CHECK.1 dc_prog_21_method_12_code_15 rfl ?_
  refine go_acmpNo C (pc' := 21) dc_prog_21_method_12_code_18 rfl rfl (acmp_eqF (fun q => Fld.ne EnSTOP.2.2 EnZERO_CHECK.2.2 (by decide) (Value.ref.inj q))) rfl ?_
  refine go_aloadN C (pc' := 22) dc_prog_21_method_12_code_21 rfl rfl rfl ?_
  refine go_getS C (pc' := 25) (host := "") (Or.inl (wd_59 hw)) Via.refl EnREGION.1 dc_prog_21_method_12_code_22 rfl ?_
  refine go_acmpNo C (pc' := 28) dc_prog_21_method_12_code_25 rfl rfl (acmp_eqF (fun q => Fld.ne EnSTOP.2.2 EnREGION.2.2 (by decide) (Value.ref.inj q))) rfl ?_
  refine go_aloadN C (pc' := 29) dc_prog_21_method_12_code_28 rfl rfl rfl ?_
  refine go_getS C (pc' := 32) (host := "") (Or.inl (wd_60 hw)) Via.refl EnLOOP.1 dc_prog_21_method_12_code_29 rfl ?_
  refine go_acmpYes C (pc' := 39) dc_prog_21_method_12_code_32 rfl rfl (acmp_neT (fun q => Fld.ne EnSTOP.2.2 EnLOOP.2.2 (by decide) (Value.ref.inj q))) (by decide) (by decide) ?_
  refine go_iconst C (pc' := 40) dc_prog_21_method_12_code_39 (z := (0 : Int32)) (by decide) rfl ?_
  exact go_retN C (by simp) (z' := (0 : Int32)) (by decide) dc_prog_21_method_12_code_40 (by decide) (by decide) ⟨rfl, rfl⟩
set_option maxRecDepth 65536 in
set_option maxHeartbeats 40000000 in
theorem law_met (l : Launch) (Z : State) (a0 : Array Value) (hw : ∀ d ∈ tables_1, d.before a0 Z = true) (x0 : Int32) {a_START : Addr} (EnSTART : En_START Z Z.heap a_START) {a_PROJ : Addr} (EnPROJ : En_PROJ Z Z.heap a_PROJ) {a_CONSTANT : Addr} (EnCONSTANT : En_CONSTANT Z Z.heap a_CONSTANT) {a_ADD : Addr} (EnADD : En_ADD Z Z.heap a_ADD) {a_SUB : Addr} (EnSUB : En_SUB Z Z.heap a_SUB) {a_MUL : Addr} (EnMUL : En_MUL Z Z.heap a_MUL) {a_DIV : Addr} (EnDIV : En_DIV Z Z.heap a_DIV) {a_MOD : Addr} (EnMOD : En_MOD Z Z.heap a_MOD) {a_NEG : Addr} (EnNEG : En_NEG Z Z.heap a_NEG) {a_NOT : Addr} (EnNOT : En_NOT Z Z.heap a_NOT) {a_EQ : Addr} (EnEQ : En_EQ Z Z.heap a_EQ) {a_NE : Addr} (EnNE : En_NE Z Z.heap a_NE) {a_LT : Addr} (EnLT : En_LT Z Z.heap a_LT) {a_LE : Addr} (EnLE : En_LE Z Z.heap a_LE) {a_GT : Addr} (EnGT : En_GT Z Z.heap a_GT) {a_GE : Addr} (EnGE : En_GE Z Z.heap a_GE) {a_IF : Addr} (EnIF : En_IF Z Z.heap a_IF) {a_REGION : Addr} (EnREGION : En_REGION Z Z.heap a_REGION) {a_LOOP : Addr} (EnLOOP : En_LOOP Z Z.heap a_LOOP) {a_PHI : Addr} (EnPHI : En_PHI Z Z.heap a_PHI) {a_ZERO_CHECK : Addr} (EnZERO_CHECK : En_ZERO_CHECK Z Z.heap a_ZERO_CHECK) {a_RETURN : Addr} (EnRETURN : En_RETURN Z Z.heap a_RETURN) {a_STOP : Addr} (EnSTOP : En_STOP Z Z.heap a_STOP)  :
    Met l Z Z.heap.size x code maxLocals ret tables_1 room_1 #[(.int x0)] Z.heap (fun v _ => v = some (.int (1 : Int32))) := by
  have O := Old.start Z
  refine met_of (Ls := #[(.val (.int x0)), .unset, .unset, .unset, .unset]) (by decide +kernel) (fun m => by first | rfl | (simp [entryFrame, mkF, argsToLocals, Value.category, maxLocals]; done)) O ?_
  intro p e s m below meth cd C
  refine go_bipush C (pc' := 2) at_0 (z := (23 : Int32)) (by decide) rfl ?_
  refine go_newRA C (pc' := 5) (len := 23) (wd_0 hw) (wd_1 hw) at_2 rfl (by decide) (by decide) (by decide) (by decide) (by decide) ?_
  intro h1 b1 k1 g1 n1 E1 A1 V1
  have sz_b1 := Nat.le_trans (Nat.le_refl _) (Nat.le_of_eq g1.symm)
  have ne_a_START_b1 : a_START ≠ b1 := Nat.ne_of_lt (by rw [g1]; exact EnSTART.2.1.lt)
  have ne_a_PROJ_b1 : a_PROJ ≠ b1 := Nat.ne_of_lt (by rw [g1]; exact EnPROJ.2.1.lt)
  have ne_a_CONSTANT_b1 : a_CONSTANT ≠ b1 := Nat.ne_of_lt (by rw [g1]; exact EnCONSTANT.2.1.lt)
  have ne_a_ADD_b1 : a_ADD ≠ b1 := Nat.ne_of_lt (by rw [g1]; exact EnADD.2.1.lt)
  have ne_a_SUB_b1 : a_SUB ≠ b1 := Nat.ne_of_lt (by rw [g1]; exact EnSUB.2.1.lt)
  have ne_a_MUL_b1 : a_MUL ≠ b1 := Nat.ne_of_lt (by rw [g1]; exact EnMUL.2.1.lt)
  have ne_a_DIV_b1 : a_DIV ≠ b1 := Nat.ne_of_lt (by rw [g1]; exact EnDIV.2.1.lt)
  have ne_a_MOD_b1 : a_MOD ≠ b1 := Nat.ne_of_lt (by rw [g1]; exact EnMOD.2.1.lt)
  have ne_a_NEG_b1 : a_NEG ≠ b1 := Nat.ne_of_lt (by rw [g1]; exact EnNEG.2.1.lt)
  have ne_a_NOT_b1 : a_NOT ≠ b1 := Nat.ne_of_lt (by rw [g1]; exact EnNOT.2.1.lt)
  have ne_a_EQ_b1 : a_EQ ≠ b1 := Nat.ne_of_lt (by rw [g1]; exact EnEQ.2.1.lt)
  have ne_a_NE_b1 : a_NE ≠ b1 := Nat.ne_of_lt (by rw [g1]; exact EnNE.2.1.lt)
  have ne_a_LT_b1 : a_LT ≠ b1 := Nat.ne_of_lt (by rw [g1]; exact EnLT.2.1.lt)
  have ne_a_LE_b1 : a_LE ≠ b1 := Nat.ne_of_lt (by rw [g1]; exact EnLE.2.1.lt)
  have ne_a_GT_b1 : a_GT ≠ b1 := Nat.ne_of_lt (by rw [g1]; exact EnGT.2.1.lt)
  have ne_a_GE_b1 : a_GE ≠ b1 := Nat.ne_of_lt (by rw [g1]; exact EnGE.2.1.lt)
  have ne_a_IF_b1 : a_IF ≠ b1 := Nat.ne_of_lt (by rw [g1]; exact EnIF.2.1.lt)
  have ne_a_REGION_b1 : a_REGION ≠ b1 := Nat.ne_of_lt (by rw [g1]; exact EnREGION.2.1.lt)
  have ne_a_LOOP_b1 : a_LOOP ≠ b1 := Nat.ne_of_lt (by rw [g1]; exact EnLOOP.2.1.lt)
  have ne_a_PHI_b1 : a_PHI ≠ b1 := Nat.ne_of_lt (by rw [g1]; exact EnPHI.2.1.lt)
  have ne_a_ZERO_CHECK_b1 : a_ZERO_CHECK ≠ b1 := Nat.ne_of_lt (by rw [g1]; exact EnZERO_CHECK.2.1.lt)
  have ne_a_RETURN_b1 : a_RETURN ≠ b1 := Nat.ne_of_lt (by rw [g1]; exact EnRETURN.2.1.lt)
  have ne_a_STOP_b1 : a_STOP ≠ b1 := Nat.ne_of_lt (by rw [g1]; exact EnSTOP.2.1.lt)
  refine go_old fun O1 => ?_
  refine go_dup C (pc' := 6) at_5 rfl rfl ?_
  refine go_iconst C (pc' := 7) at_6 (z := (0 : Int32)) (by decide) rfl ?_
  refine go_getS C (pc' := 10) (host := "") (Or.inl (wd_2 hw)) Via.refl (EnSTART.1.ext O1.2) at_7 rfl ?_
  refine go_raset C (pc' := 11) A1 V1 (Ins.self (EnSTART.2.1.ext O1.2)) (by decide) (i := 0) (by decide) (by simp) (vs' := [(.ref a_START), .null, .null, .null, .null, .null, .null, .null, .null, .null, .null, .null, .null, .null, .null, .null, .null, .null, .null, .null, .null, .null, .null]) rfl at_10 rfl n1 ?_
  intro h2 W2 A2
  refine go_old fun O2 => ?_
  refine go_dup C (pc' := 12) at_11 rfl rfl ?_
  refine go_iconst C (pc' := 13) at_12 (z := (1 : Int32)) (by decide) rfl ?_
  refine go_getS C (pc' := 16) (host := "") (Or.inl (wd_6 hw)) Via.refl (EnPROJ.1.ext O2.2) at_13 rfl ?_
  refine go_raset C (pc' := 17) A2 V1 (Ins.self (EnPROJ.2.1.ext O2.2)) (by decide) (i := 1) (by decide) (by simp) (vs' := [(.ref a_START), (.ref a_PROJ), .null, .null, .null, .null, .null, .null, .null, .null, .null, .null, .null, .null, .null, .null, .null, .null, .null, .null, .null, .null, .null]) rfl at_16 rfl n1 ?_
  intro h3 W3 A3
  refine go_old fun O3 => ?_
  refine go_dup C (pc' := 18) at_17 rfl rfl ?_
  refine go_iconst C (pc' := 19) at_18 (z := (2 : Int32)) (by decide) rfl ?_
  refine go_getS C (pc' := 22) (host := "") (Or.inl (wd_8 hw)) Via.refl (EnCONSTANT.1.ext O3.2) at_19 rfl ?_
  refine go_raset C (pc' := 23) A3 V1 (Ins.self (EnCONSTANT.2.1.ext O3.2)) (by decide) (i := 2) (by decide) (by simp) (vs' := [(.ref a_START), (.ref a_PROJ), (.ref a_CONSTANT), .null, .null, .null, .null, .null, .null, .null, .null, .null, .null, .null, .null, .null, .null, .null, .null, .null, .null, .null, .null]) rfl at_22 rfl n1 ?_
  intro h4 W4 A4
  refine go_old fun O4 => ?_
  refine go_dup C (pc' := 24) at_23 rfl rfl ?_
  refine go_iconst C (pc' := 25) at_24 (z := (3 : Int32)) (by decide) rfl ?_
  refine go_getS C (pc' := 28) (host := "") (Or.inl (wd_10 hw)) Via.refl (EnADD.1.ext O4.2) at_25 rfl ?_
  refine go_raset C (pc' := 29) A4 V1 (Ins.self (EnADD.2.1.ext O4.2)) (by decide) (i := 3) (by decide) (by simp) (vs' := [(.ref a_START), (.ref a_PROJ), (.ref a_CONSTANT), (.ref a_ADD), .null, .null, .null, .null, .null, .null, .null, .null, .null, .null, .null, .null, .null, .null, .null, .null, .null, .null, .null]) rfl at_28 rfl n1 ?_
  intro h5 W5 A5
  refine go_old fun O5 => ?_
  refine go_dup C (pc' := 30) at_29 rfl rfl ?_
  refine go_iconst C (pc' := 31) at_30 (z := (4 : Int32)) (by decide) rfl ?_
  refine go_getS C (pc' := 34) (host := "") (Or.inl (wd_12 hw)) Via.refl (EnSUB.1.ext O5.2) at_31 rfl ?_
  refine go_raset C (pc' := 35) A5 V1 (Ins.self (EnSUB.2.1.ext O5.2)) (by decide) (i := 4) (by decide) (by simp) (vs' := [(.ref a_START), (.ref a_PROJ), (.ref a_CONSTANT), (.ref a_ADD), (.ref a_SUB), .null, .null, .null, .null, .null, .null, .null, .null, .null, .null, .null, .null, .null, .null, .null, .null, .null, .null]) rfl at_34 rfl n1 ?_
  intro h6 W6 A6
  refine go_old fun O6 => ?_
  refine go_dup C (pc' := 36) at_35 rfl rfl ?_
  refine go_iconst C (pc' := 37) at_36 (z := (5 : Int32)) (by decide) rfl ?_
  refine go_getS C (pc' := 40) (host := "") (Or.inl (wd_14 hw)) Via.refl (EnMUL.1.ext O6.2) at_37 rfl ?_
  refine go_raset C (pc' := 41) A6 V1 (Ins.self (EnMUL.2.1.ext O6.2)) (by decide) (i := 5) (by decide) (by simp) (vs' := [(.ref a_START), (.ref a_PROJ), (.ref a_CONSTANT), (.ref a_ADD), (.ref a_SUB), (.ref a_MUL), .null, .null, .null, .null, .null, .null, .null, .null, .null, .null, .null, .null, .null, .null, .null, .null, .null]) rfl at_40 rfl n1 ?_
  intro h7 W7 A7
  refine go_old fun O7 => ?_
  refine go_dup C (pc' := 42) at_41 rfl rfl ?_
  refine go_bipush C (pc' := 44) at_42 (z := (6 : Int32)) (by decide) rfl ?_
  refine go_getS C (pc' := 47) (host := "") (Or.inl (wd_16 hw)) Via.refl (EnDIV.1.ext O7.2) at_44 rfl ?_
  refine go_raset C (pc' := 48) A7 V1 (Ins.self (EnDIV.2.1.ext O7.2)) (by decide) (i := 6) (by decide) (by simp) (vs' := [(.ref a_START), (.ref a_PROJ), (.ref a_CONSTANT), (.ref a_ADD), (.ref a_SUB), (.ref a_MUL), (.ref a_DIV), .null, .null, .null, .null, .null, .null, .null, .null, .null, .null, .null, .null, .null, .null, .null, .null]) rfl at_47 rfl n1 ?_
  intro h8 W8 A8
  refine go_old fun O8 => ?_
  refine go_dup C (pc' := 49) at_48 rfl rfl ?_
  refine go_bipush C (pc' := 51) at_49 (z := (7 : Int32)) (by decide) rfl ?_
  refine go_getS C (pc' := 54) (host := "") (Or.inl (wd_18 hw)) Via.refl (EnMOD.1.ext O8.2) at_51 rfl ?_
  refine go_raset C (pc' := 55) A8 V1 (Ins.self (EnMOD.2.1.ext O8.2)) (by decide) (i := 7) (by decide) (by simp) (vs' := [(.ref a_START), (.ref a_PROJ), (.ref a_CONSTANT), (.ref a_ADD), (.ref a_SUB), (.ref a_MUL), (.ref a_DIV), (.ref a_MOD), .null, .null, .null, .null, .null, .null, .null, .null, .null, .null, .null, .null, .null, .null, .null]) rfl at_54 rfl n1 ?_
  intro h9 W9 A9
  refine go_old fun O9 => ?_
  refine go_dup C (pc' := 56) at_55 rfl rfl ?_
  refine go_bipush C (pc' := 58) at_56 (z := (8 : Int32)) (by decide) rfl ?_
  refine go_getS C (pc' := 61) (host := "") (Or.inl (wd_20 hw)) Via.refl (EnNEG.1.ext O9.2) at_58 rfl ?_
  refine go_raset C (pc' := 62) A9 V1 (Ins.self (EnNEG.2.1.ext O9.2)) (by decide) (i := 8) (by decide) (by simp) (vs' := [(.ref a_START), (.ref a_PROJ), (.ref a_CONSTANT), (.ref a_ADD), (.ref a_SUB), (.ref a_MUL), (.ref a_DIV), (.ref a_MOD), (.ref a_NEG), .null, .null, .null, .null, .null, .null, .null, .null, .null, .null, .null, .null, .null, .null]) rfl at_61 rfl n1 ?_
  intro h10 W10 A10
  refine go_old fun O10 => ?_
  refine go_dup C (pc' := 63) at_62 rfl rfl ?_
  refine go_bipush C (pc' := 65) at_63 (z := (9 : Int32)) (by decide) rfl ?_
  refine go_getS C (pc' := 68) (host := "") (Or.inl (wd_22 hw)) Via.refl (EnNOT.1.ext O10.2) at_65 rfl ?_
  refine go_raset C (pc' := 69) A10 V1 (Ins.self (EnNOT.2.1.ext O10.2)) (by decide) (i := 9) (by decide) (by simp) (vs' := [(.ref a_START), (.ref a_PROJ), (.ref a_CONSTANT), (.ref a_ADD), (.ref a_SUB), (.ref a_MUL), (.ref a_DIV), (.ref a_MOD), (.ref a_NEG), (.ref a_NOT), .null, .null, .null, .null, .null, .null, .null, .null, .null, .null, .null, .null, .null]) rfl at_68 rfl n1 ?_
  intro h11 W11 A11
  refine go_old fun O11 => ?_
  refine go_dup C (pc' := 70) at_69 rfl rfl ?_
  refine go_bipush C (pc' := 72) at_70 (z := (10 : Int32)) (by decide) rfl ?_
  refine go_getS C (pc' := 75) (host := "") (Or.inl (wd_24 hw)) Via.refl (EnEQ.1.ext O11.2) at_72 rfl ?_
  refine go_raset C (pc' := 76) A11 V1 (Ins.self (EnEQ.2.1.ext O11.2)) (by decide) (i := 10) (by decide) (by simp) (vs' := [(.ref a_START), (.ref a_PROJ), (.ref a_CONSTANT), (.ref a_ADD), (.ref a_SUB), (.ref a_MUL), (.ref a_DIV), (.ref a_MOD), (.ref a_NEG), (.ref a_NOT), (.ref a_EQ), .null, .null, .null, .null, .null, .null, .null, .null, .null, .null, .null, .null]) rfl at_75 rfl n1 ?_
  intro h12 W12 A12
  refine go_old fun O12 => ?_
  refine go_dup C (pc' := 77) at_76 rfl rfl ?_
  refine go_bipush C (pc' := 79) at_77 (z := (11 : Int32)) (by decide) rfl ?_
  refine go_getS C (pc' := 82) (host := "") (Or.inl (wd_26 hw)) Via.refl (EnNE.1.ext O12.2) at_79 rfl ?_
  refine go_raset C (pc' := 83) A12 V1 (Ins.self (EnNE.2.1.ext O12.2)) (by decide) (i := 11) (by decide) (by simp) (vs' := [(.ref a_START), (.ref a_PROJ), (.ref a_CONSTANT), (.ref a_ADD), (.ref a_SUB), (.ref a_MUL), (.ref a_DIV), (.ref a_MOD), (.ref a_NEG), (.ref a_NOT), (.ref a_EQ), (.ref a_NE), .null, .null, .null, .null, .null, .null, .null, .null, .null, .null, .null]) rfl at_82 rfl n1 ?_
  intro h13 W13 A13
  refine go_old fun O13 => ?_
  refine go_dup C (pc' := 84) at_83 rfl rfl ?_
  refine go_bipush C (pc' := 86) at_84 (z := (12 : Int32)) (by decide) rfl ?_
  refine go_getS C (pc' := 89) (host := "") (Or.inl (wd_28 hw)) Via.refl (EnLT.1.ext O13.2) at_86 rfl ?_
  refine go_raset C (pc' := 90) A13 V1 (Ins.self (EnLT.2.1.ext O13.2)) (by decide) (i := 12) (by decide) (by simp) (vs' := [(.ref a_START), (.ref a_PROJ), (.ref a_CONSTANT), (.ref a_ADD), (.ref a_SUB), (.ref a_MUL), (.ref a_DIV), (.ref a_MOD), (.ref a_NEG), (.ref a_NOT), (.ref a_EQ), (.ref a_NE), (.ref a_LT), .null, .null, .null, .null, .null, .null, .null, .null, .null, .null]) rfl at_89 rfl n1 ?_
  intro h14 W14 A14
  refine go_old fun O14 => ?_
  refine go_dup C (pc' := 91) at_90 rfl rfl ?_
  refine go_bipush C (pc' := 93) at_91 (z := (13 : Int32)) (by decide) rfl ?_
  refine go_getS C (pc' := 96) (host := "") (Or.inl (wd_30 hw)) Via.refl (EnLE.1.ext O14.2) at_93 rfl ?_
  refine go_raset C (pc' := 97) A14 V1 (Ins.self (EnLE.2.1.ext O14.2)) (by decide) (i := 13) (by decide) (by simp) (vs' := [(.ref a_START), (.ref a_PROJ), (.ref a_CONSTANT), (.ref a_ADD), (.ref a_SUB), (.ref a_MUL), (.ref a_DIV), (.ref a_MOD), (.ref a_NEG), (.ref a_NOT), (.ref a_EQ), (.ref a_NE), (.ref a_LT), (.ref a_LE), .null, .null, .null, .null, .null, .null, .null, .null, .null]) rfl at_96 rfl n1 ?_
  intro h15 W15 A15
  refine go_old fun O15 => ?_
  refine go_dup C (pc' := 98) at_97 rfl rfl ?_
  refine go_bipush C (pc' := 100) at_98 (z := (14 : Int32)) (by decide) rfl ?_
  refine go_getS C (pc' := 103) (host := "") (Or.inl (wd_32 hw)) Via.refl (EnGT.1.ext O15.2) at_100 rfl ?_
  refine go_raset C (pc' := 104) A15 V1 (Ins.self (EnGT.2.1.ext O15.2)) (by decide) (i := 14) (by decide) (by simp) (vs' := [(.ref a_START), (.ref a_PROJ), (.ref a_CONSTANT), (.ref a_ADD), (.ref a_SUB), (.ref a_MUL), (.ref a_DIV), (.ref a_MOD), (.ref a_NEG), (.ref a_NOT), (.ref a_EQ), (.ref a_NE), (.ref a_LT), (.ref a_LE), (.ref a_GT), .null, .null, .null, .null, .null, .null, .null, .null]) rfl at_103 rfl n1 ?_
  intro h16 W16 A16
  refine go_old fun O16 => ?_
  refine go_dup C (pc' := 105) at_104 rfl rfl ?_
  refine go_bipush C (pc' := 107) at_105 (z := (15 : Int32)) (by decide) rfl ?_
  refine go_getS C (pc' := 110) (host := "") (Or.inl (wd_34 hw)) Via.refl (EnGE.1.ext O16.2) at_107 rfl ?_
  refine go_raset C (pc' := 111) A16 V1 (Ins.self (EnGE.2.1.ext O16.2)) (by decide) (i := 15) (by decide) (by simp) (vs' := [(.ref a_START), (.ref a_PROJ), (.ref a_CONSTANT), (.ref a_ADD), (.ref a_SUB), (.ref a_MUL), (.ref a_DIV), (.ref a_MOD), (.ref a_NEG), (.ref a_NOT), (.ref a_EQ), (.ref a_NE), (.ref a_LT), (.ref a_LE), (.ref a_GT), (.ref a_GE), .null, .null, .null, .null, .null, .null, .null]) rfl at_110 rfl n1 ?_
  intro h17 W17 A17
  refine go_old fun O17 => ?_
  refine go_dup C (pc' := 112) at_111 rfl rfl ?_
  refine go_bipush C (pc' := 114) at_112 (z := (16 : Int32)) (by decide) rfl ?_
  refine go_getS C (pc' := 117) (host := "") (Or.inl (wd_36 hw)) Via.refl (EnIF.1.ext O17.2) at_114 rfl ?_
  refine go_raset C (pc' := 118) A17 V1 (Ins.self (EnIF.2.1.ext O17.2)) (by decide) (i := 16) (by decide) (by simp) (vs' := [(.ref a_START), (.ref a_PROJ), (.ref a_CONSTANT), (.ref a_ADD), (.ref a_SUB), (.ref a_MUL), (.ref a_DIV), (.ref a_MOD), (.ref a_NEG), (.ref a_NOT), (.ref a_EQ), (.ref a_NE), (.ref a_LT), (.ref a_LE), (.ref a_GT), (.ref a_GE), (.ref a_IF), .null, .null, .null, .null, .null, .null]) rfl at_117 rfl n1 ?_
  intro h18 W18 A18
  refine go_old fun O18 => ?_
  refine go_dup C (pc' := 119) at_118 rfl rfl ?_
  refine go_bipush C (pc' := 121) at_119 (z := (17 : Int32)) (by decide) rfl ?_
  refine go_getS C (pc' := 124) (host := "") (Or.inl (wd_38 hw)) Via.refl (EnREGION.1.ext O18.2) at_121 rfl ?_
  refine go_raset C (pc' := 125) A18 V1 (Ins.self (EnREGION.2.1.ext O18.2)) (by decide) (i := 17) (by decide) (by simp) (vs' := [(.ref a_START), (.ref a_PROJ), (.ref a_CONSTANT), (.ref a_ADD), (.ref a_SUB), (.ref a_MUL), (.ref a_DIV), (.ref a_MOD), (.ref a_NEG), (.ref a_NOT), (.ref a_EQ), (.ref a_NE), (.ref a_LT), (.ref a_LE), (.ref a_GT), (.ref a_GE), (.ref a_IF), (.ref a_REGION), .null, .null, .null, .null, .null]) rfl at_124 rfl n1 ?_
  intro h19 W19 A19
  refine go_old fun O19 => ?_
  refine go_dup C (pc' := 126) at_125 rfl rfl ?_
  refine go_bipush C (pc' := 128) at_126 (z := (18 : Int32)) (by decide) rfl ?_
  refine go_getS C (pc' := 131) (host := "") (Or.inl (wd_40 hw)) Via.refl (EnLOOP.1.ext O19.2) at_128 rfl ?_
  refine go_raset C (pc' := 132) A19 V1 (Ins.self (EnLOOP.2.1.ext O19.2)) (by decide) (i := 18) (by decide) (by simp) (vs' := [(.ref a_START), (.ref a_PROJ), (.ref a_CONSTANT), (.ref a_ADD), (.ref a_SUB), (.ref a_MUL), (.ref a_DIV), (.ref a_MOD), (.ref a_NEG), (.ref a_NOT), (.ref a_EQ), (.ref a_NE), (.ref a_LT), (.ref a_LE), (.ref a_GT), (.ref a_GE), (.ref a_IF), (.ref a_REGION), (.ref a_LOOP), .null, .null, .null, .null]) rfl at_131 rfl n1 ?_
  intro h20 W20 A20
  refine go_old fun O20 => ?_
  refine go_dup C (pc' := 133) at_132 rfl rfl ?_
  refine go_bipush C (pc' := 135) at_133 (z := (19 : Int32)) (by decide) rfl ?_
  refine go_getS C (pc' := 138) (host := "") (Or.inl (wd_42 hw)) Via.refl (EnPHI.1.ext O20.2) at_135 rfl ?_
  refine go_raset C (pc' := 139) A20 V1 (Ins.self (EnPHI.2.1.ext O20.2)) (by decide) (i := 19) (by decide) (by simp) (vs' := [(.ref a_START), (.ref a_PROJ), (.ref a_CONSTANT), (.ref a_ADD), (.ref a_SUB), (.ref a_MUL), (.ref a_DIV), (.ref a_MOD), (.ref a_NEG), (.ref a_NOT), (.ref a_EQ), (.ref a_NE), (.ref a_LT), (.ref a_LE), (.ref a_GT), (.ref a_GE), (.ref a_IF), (.ref a_REGION), (.ref a_LOOP), (.ref a_PHI), .null, .null, .null]) rfl at_138 rfl n1 ?_
  intro h21 W21 A21
  refine go_old fun O21 => ?_
  refine go_dup C (pc' := 140) at_139 rfl rfl ?_
  refine go_bipush C (pc' := 142) at_140 (z := (20 : Int32)) (by decide) rfl ?_
  refine go_getS C (pc' := 145) (host := "") (Or.inl (wd_44 hw)) Via.refl (EnZERO_CHECK.1.ext O21.2) at_142 rfl ?_
  refine go_raset C (pc' := 146) A21 V1 (Ins.self (EnZERO_CHECK.2.1.ext O21.2)) (by decide) (i := 20) (by decide) (by simp) (vs' := [(.ref a_START), (.ref a_PROJ), (.ref a_CONSTANT), (.ref a_ADD), (.ref a_SUB), (.ref a_MUL), (.ref a_DIV), (.ref a_MOD), (.ref a_NEG), (.ref a_NOT), (.ref a_EQ), (.ref a_NE), (.ref a_LT), (.ref a_LE), (.ref a_GT), (.ref a_GE), (.ref a_IF), (.ref a_REGION), (.ref a_LOOP), (.ref a_PHI), (.ref a_ZERO_CHECK), .null, .null]) rfl at_145 rfl n1 ?_
  intro h22 W22 A22
  refine go_old fun O22 => ?_
  refine go_dup C (pc' := 147) at_146 rfl rfl ?_
  refine go_bipush C (pc' := 149) at_147 (z := (21 : Int32)) (by decide) rfl ?_
  refine go_getS C (pc' := 152) (host := "") (Or.inl (wd_46 hw)) Via.refl (EnRETURN.1.ext O22.2) at_149 rfl ?_
  refine go_raset C (pc' := 153) A22 V1 (Ins.self (EnRETURN.2.1.ext O22.2)) (by decide) (i := 21) (by decide) (by simp) (vs' := [(.ref a_START), (.ref a_PROJ), (.ref a_CONSTANT), (.ref a_ADD), (.ref a_SUB), (.ref a_MUL), (.ref a_DIV), (.ref a_MOD), (.ref a_NEG), (.ref a_NOT), (.ref a_EQ), (.ref a_NE), (.ref a_LT), (.ref a_LE), (.ref a_GT), (.ref a_GE), (.ref a_IF), (.ref a_REGION), (.ref a_LOOP), (.ref a_PHI), (.ref a_ZERO_CHECK), (.ref a_RETURN), .null]) rfl at_152 rfl n1 ?_
  intro h23 W23 A23
  refine go_old fun O23 => ?_
  refine go_dup C (pc' := 154) at_153 rfl rfl ?_
  refine go_bipush C (pc' := 156) at_154 (z := (22 : Int32)) (by decide) rfl ?_
  refine go_getS C (pc' := 159) (host := "") (Or.inl (wd_48 hw)) Via.refl (EnSTOP.1.ext O23.2) at_156 rfl ?_
  refine go_raset C (pc' := 160) A23 V1 (Ins.self (EnSTOP.2.1.ext O23.2)) (by decide) (i := 22) (by decide) (by simp) (vs' := [(.ref a_START), (.ref a_PROJ), (.ref a_CONSTANT), (.ref a_ADD), (.ref a_SUB), (.ref a_MUL), (.ref a_DIV), (.ref a_MOD), (.ref a_NEG), (.ref a_NOT), (.ref a_EQ), (.ref a_NE), (.ref a_LT), (.ref a_LE), (.ref a_GT), (.ref a_GE), (.ref a_IF), (.ref a_REGION), (.ref a_LOOP), (.ref a_PHI), (.ref a_ZERO_CHECK), (.ref a_RETURN), (.ref a_STOP)]) rfl at_159 rfl n1 ?_
  intro h24 W24 A24
  refine go_old fun O24 => ?_
  refine go_astoreN C (pc' := 161) at_160 rfl (Ls' := #[(.val (.int x0)), (.val (.ref b1)), .unset, .unset, .unset]) rfl rfl ?_
  refine go_iloadN C (pc' := 162) at_161 rfl rfl ?_
  refine go_ldcInt C (pc' := 164) (wd_50 hw) at_162 rfl ?_
  refine go_iand C (pc' := 165) at_164 rfl ?_
  refine go_bipush C (pc' := 167) at_165 (z := (23 : Int32)) (by decide) rfl ?_
  refine go_irem C (pc' := 168) at_167 (by decide) rfl ?_
  have hi := own_rem x0 23 23 (by decide) (by decide)
  generalize ((x0 &&& (2147483647 : Int32)) % (23 : Int32)) = i at hi ⊢
  rcases own_cases23 hi with rfl | rfl | rfl | rfl | rfl | rfl | rfl | rfl | rfl | rfl | rfl | rfl | rfl | rfl | rfl | rfl | rfl | rfl | rfl | rfl | rfl | rfl | rfl
  · skip
    refine go_istoreN C (pc' := 169) at_168 (Ls' := #[(.val (.int x0)), (.val (.ref b1)), (.val (.int (0 : Int32))), .unset, .unset]) rfl rfl ?_
    refine go_aloadN C (pc' := 170) at_169 rfl rfl rfl ?_
    refine go_iloadN C (pc' := 171) at_170 rfl rfl ?_
    refine go_raget C (pc' := 172) A24 rfl (by decide) (i := 0) (by decide) rfl at_171 rfl ?_
    refine go_astoreN C (pc' := 173) at_172 rfl (Ls' := #[(.val (.int x0)), (.val (.ref b1)), (.val (.int (0 : Int32))), (.val (.ref a_START)), .unset]) rfl rfl ?_
    refine go_iloadN C (pc' := 174) at_173 rfl rfl ?_
    refine go_bipush C (pc' := 176) at_174 (z := (16 : Int32)) (by decide) rfl ?_
    refine go_icmpYes C (pc' := 185) at_176 (by decide) (by decide) (by decide) ?_
    refine go_iloadN C (pc' := 186) at_185 rfl rfl ?_
    refine go_bipush C (pc' := 188) at_186 (z := (20 : Int32)) (by decide) rfl ?_
    refine go_icmpNo C (pc' := 191) at_188 (by decide) rfl ?_
    refine go_iloadN C (pc' := 192) at_191 rfl rfl ?_
    refine go_bipush C (pc' := 194) at_192 (z := (21 : Int32)) (by decide) rfl ?_
    refine go_icmpYes C (pc' := 201) at_194 (by decide) (by decide) (by decide) ?_
    refine go_iconst C (pc' := 202) at_201 (z := (0 : Int32)) (by decide) rfl ?_
    refine go_istore C (pc' := 204) at_202 (Ls' := #[(.val (.int x0)), (.val (.ref b1)), (.val (.int (0 : Int32))), (.val (.ref a_START)), (.val (.int (0 : Int32)))]) rfl rfl ?_
    refine go_aloadN C (pc' := 205) at_204 rfl rfl rfl ?_
    refine go_callV C (pc' := 208) (y' := (⟨"com/example/tidewater/tidewater/graph/NodeKind", "isControlConsumer", "()Z"⟩ : MethodName)) (wd_51 hw) (wd_52 hw) (wd_54 hw) (wd_53 hw) (cons_START l Z a0 hw _ _ O24 (EnSTART.ext O24.2) (EnIF.ext O24.2) (EnREGION.ext O24.2) (EnLOOP.ext O24.2) (EnZERO_CHECK.ext O24.2) (EnRETURN.ext O24.2)) (wd_55 hw) (wd_3 hw) (by decide) (by decide) (W := 0) (Nat.le_of_ble_eq_true rfl) (by decide) (by decide) (by decide) rfl (EnSTART.2.1.ext O24.2) (argsL := []) (rest := []) pd_0 rfl rfl rfl at_205 rfl ?_
    rintro _ _ ⟨rfl, rfl⟩
    refine go_st (st' := [(.int (0 : Int32))]) rfl ?_
    refine go_iload C (pc' := 210) at_208 rfl rfl ?_
    refine go_icmpNo C (pc' := 213) at_210 (by decide) rfl ?_
    refine go_iconst C (pc' := 214) at_213 (z := (1 : Int32)) (by decide) rfl ?_
    refine go_goto C (pc' := 218) at_214 (by decide) (by decide) ?_
    exact go_retN C (by simp) (z' := (1 : Int32)) (by decide) at_218 (by decide) (by decide) rfl
  · skip
    refine go_istoreN C (pc' := 169) at_168 (Ls' := #[(.val (.int x0)), (.val (.ref b1)), (.val (.int (1 : Int32))), .unset, .unset]) rfl rfl ?_
    refine go_aloadN C (pc' := 170) at_169 rfl rfl rfl ?_
    refine go_iloadN C (pc' := 171) at_170 rfl rfl ?_
    refine go_raget C (pc' := 172) A24 rfl (by decide) (i := 1) (by decide) rfl at_171 rfl ?_
    refine go_astoreN C (pc' := 173) at_172 rfl (Ls' := #[(.val (.int x0)), (.val (.ref b1)), (.val (.int (1 : Int32))), (.val (.ref a_PROJ)), .unset]) rfl rfl ?_
    refine go_iloadN C (pc' := 174) at_173 rfl rfl ?_
    refine go_bipush C (pc' := 176) at_174 (z := (16 : Int32)) (by decide) rfl ?_
    refine go_icmpYes C (pc' := 185) at_176 (by decide) (by decide) (by decide) ?_
    refine go_iloadN C (pc' := 186) at_185 rfl rfl ?_
    refine go_bipush C (pc' := 188) at_186 (z := (20 : Int32)) (by decide) rfl ?_
    refine go_icmpNo C (pc' := 191) at_188 (by decide) rfl ?_
    refine go_iloadN C (pc' := 192) at_191 rfl rfl ?_
    refine go_bipush C (pc' := 194) at_192 (z := (21 : Int32)) (by decide) rfl ?_
    refine go_icmpYes C (pc' := 201) at_194 (by decide) (by decide) (by decide) ?_
    refine go_iconst C (pc' := 202) at_201 (z := (0 : Int32)) (by decide) rfl ?_
    refine go_istore C (pc' := 204) at_202 (Ls' := #[(.val (.int x0)), (.val (.ref b1)), (.val (.int (1 : Int32))), (.val (.ref a_PROJ)), (.val (.int (0 : Int32)))]) rfl rfl ?_
    refine go_aloadN C (pc' := 205) at_204 rfl rfl rfl ?_
    refine go_callV C (pc' := 208) (y' := (⟨"com/example/tidewater/tidewater/graph/NodeKind", "isControlConsumer", "()Z"⟩ : MethodName)) (wd_51 hw) (wd_52 hw) (wd_54 hw) (wd_53 hw) (cons_PROJ l Z a0 hw _ _ O24 (EnPROJ.ext O24.2) (EnIF.ext O24.2) (EnREGION.ext O24.2) (EnLOOP.ext O24.2) (EnZERO_CHECK.ext O24.2) (EnRETURN.ext O24.2)) (wd_55 hw) (wd_3 hw) (by decide) (by decide) (W := 0) (Nat.le_of_ble_eq_true rfl) (by decide) (by decide) (by decide) rfl (EnPROJ.2.1.ext O24.2) (argsL := []) (rest := []) pd_0 rfl rfl rfl at_205 rfl ?_
    rintro _ _ ⟨rfl, rfl⟩
    refine go_st (st' := [(.int (0 : Int32))]) rfl ?_
    refine go_iload C (pc' := 210) at_208 rfl rfl ?_
    refine go_icmpNo C (pc' := 213) at_210 (by decide) rfl ?_
    refine go_iconst C (pc' := 214) at_213 (z := (1 : Int32)) (by decide) rfl ?_
    refine go_goto C (pc' := 218) at_214 (by decide) (by decide) ?_
    exact go_retN C (by simp) (z' := (1 : Int32)) (by decide) at_218 (by decide) (by decide) rfl
  · skip
    refine go_istoreN C (pc' := 169) at_168 (Ls' := #[(.val (.int x0)), (.val (.ref b1)), (.val (.int (2 : Int32))), .unset, .unset]) rfl rfl ?_
    refine go_aloadN C (pc' := 170) at_169 rfl rfl rfl ?_
    refine go_iloadN C (pc' := 171) at_170 rfl rfl ?_
    refine go_raget C (pc' := 172) A24 rfl (by decide) (i := 2) (by decide) rfl at_171 rfl ?_
    refine go_astoreN C (pc' := 173) at_172 rfl (Ls' := #[(.val (.int x0)), (.val (.ref b1)), (.val (.int (2 : Int32))), (.val (.ref a_CONSTANT)), .unset]) rfl rfl ?_
    refine go_iloadN C (pc' := 174) at_173 rfl rfl ?_
    refine go_bipush C (pc' := 176) at_174 (z := (16 : Int32)) (by decide) rfl ?_
    refine go_icmpYes C (pc' := 185) at_176 (by decide) (by decide) (by decide) ?_
    refine go_iloadN C (pc' := 186) at_185 rfl rfl ?_
    refine go_bipush C (pc' := 188) at_186 (z := (20 : Int32)) (by decide) rfl ?_
    refine go_icmpNo C (pc' := 191) at_188 (by decide) rfl ?_
    refine go_iloadN C (pc' := 192) at_191 rfl rfl ?_
    refine go_bipush C (pc' := 194) at_192 (z := (21 : Int32)) (by decide) rfl ?_
    refine go_icmpYes C (pc' := 201) at_194 (by decide) (by decide) (by decide) ?_
    refine go_iconst C (pc' := 202) at_201 (z := (0 : Int32)) (by decide) rfl ?_
    refine go_istore C (pc' := 204) at_202 (Ls' := #[(.val (.int x0)), (.val (.ref b1)), (.val (.int (2 : Int32))), (.val (.ref a_CONSTANT)), (.val (.int (0 : Int32)))]) rfl rfl ?_
    refine go_aloadN C (pc' := 205) at_204 rfl rfl rfl ?_
    refine go_callV C (pc' := 208) (y' := (⟨"com/example/tidewater/tidewater/graph/NodeKind", "isControlConsumer", "()Z"⟩ : MethodName)) (wd_51 hw) (wd_52 hw) (wd_54 hw) (wd_53 hw) (cons_CONSTANT l Z a0 hw _ _ O24 (EnCONSTANT.ext O24.2) (EnIF.ext O24.2) (EnREGION.ext O24.2) (EnLOOP.ext O24.2) (EnZERO_CHECK.ext O24.2) (EnRETURN.ext O24.2)) (wd_55 hw) (wd_3 hw) (by decide) (by decide) (W := 0) (Nat.le_of_ble_eq_true rfl) (by decide) (by decide) (by decide) rfl (EnCONSTANT.2.1.ext O24.2) (argsL := []) (rest := []) pd_0 rfl rfl rfl at_205 rfl ?_
    rintro _ _ ⟨rfl, rfl⟩
    refine go_st (st' := [(.int (0 : Int32))]) rfl ?_
    refine go_iload C (pc' := 210) at_208 rfl rfl ?_
    refine go_icmpNo C (pc' := 213) at_210 (by decide) rfl ?_
    refine go_iconst C (pc' := 214) at_213 (z := (1 : Int32)) (by decide) rfl ?_
    refine go_goto C (pc' := 218) at_214 (by decide) (by decide) ?_
    exact go_retN C (by simp) (z' := (1 : Int32)) (by decide) at_218 (by decide) (by decide) rfl
  · skip
    refine go_istoreN C (pc' := 169) at_168 (Ls' := #[(.val (.int x0)), (.val (.ref b1)), (.val (.int (3 : Int32))), .unset, .unset]) rfl rfl ?_
    refine go_aloadN C (pc' := 170) at_169 rfl rfl rfl ?_
    refine go_iloadN C (pc' := 171) at_170 rfl rfl ?_
    refine go_raget C (pc' := 172) A24 rfl (by decide) (i := 3) (by decide) rfl at_171 rfl ?_
    refine go_astoreN C (pc' := 173) at_172 rfl (Ls' := #[(.val (.int x0)), (.val (.ref b1)), (.val (.int (3 : Int32))), (.val (.ref a_ADD)), .unset]) rfl rfl ?_
    refine go_iloadN C (pc' := 174) at_173 rfl rfl ?_
    refine go_bipush C (pc' := 176) at_174 (z := (16 : Int32)) (by decide) rfl ?_
    refine go_icmpYes C (pc' := 185) at_176 (by decide) (by decide) (by decide) ?_
    refine go_iloadN C (pc' := 186) at_185 rfl rfl ?_
    refine go_bipush C (pc' := 188) at_186 (z := (20 : Int32)) (by decide) rfl ?_
    refine go_icmpNo C (pc' := 191) at_188 (by decide) rfl ?_
    refine go_iloadN C (pc' := 192) at_191 rfl rfl ?_
    refine go_bipush C (pc' := 194) at_192 (z := (21 : Int32)) (by decide) rfl ?_
    refine go_icmpYes C (pc' := 201) at_194 (by decide) (by decide) (by decide) ?_
    refine go_iconst C (pc' := 202) at_201 (z := (0 : Int32)) (by decide) rfl ?_
    refine go_istore C (pc' := 204) at_202 (Ls' := #[(.val (.int x0)), (.val (.ref b1)), (.val (.int (3 : Int32))), (.val (.ref a_ADD)), (.val (.int (0 : Int32)))]) rfl rfl ?_
    refine go_aloadN C (pc' := 205) at_204 rfl rfl rfl ?_
    refine go_callV C (pc' := 208) (y' := (⟨"com/example/tidewater/tidewater/graph/NodeKind", "isControlConsumer", "()Z"⟩ : MethodName)) (wd_51 hw) (wd_52 hw) (wd_54 hw) (wd_53 hw) (cons_ADD l Z a0 hw _ _ O24 (EnADD.ext O24.2) (EnIF.ext O24.2) (EnREGION.ext O24.2) (EnLOOP.ext O24.2) (EnZERO_CHECK.ext O24.2) (EnRETURN.ext O24.2)) (wd_55 hw) (wd_3 hw) (by decide) (by decide) (W := 0) (Nat.le_of_ble_eq_true rfl) (by decide) (by decide) (by decide) rfl (EnADD.2.1.ext O24.2) (argsL := []) (rest := []) pd_0 rfl rfl rfl at_205 rfl ?_
    rintro _ _ ⟨rfl, rfl⟩
    refine go_st (st' := [(.int (0 : Int32))]) rfl ?_
    refine go_iload C (pc' := 210) at_208 rfl rfl ?_
    refine go_icmpNo C (pc' := 213) at_210 (by decide) rfl ?_
    refine go_iconst C (pc' := 214) at_213 (z := (1 : Int32)) (by decide) rfl ?_
    refine go_goto C (pc' := 218) at_214 (by decide) (by decide) ?_
    exact go_retN C (by simp) (z' := (1 : Int32)) (by decide) at_218 (by decide) (by decide) rfl
  · skip
    refine go_istoreN C (pc' := 169) at_168 (Ls' := #[(.val (.int x0)), (.val (.ref b1)), (.val (.int (4 : Int32))), .unset, .unset]) rfl rfl ?_
    refine go_aloadN C (pc' := 170) at_169 rfl rfl rfl ?_
    refine go_iloadN C (pc' := 171) at_170 rfl rfl ?_
    refine go_raget C (pc' := 172) A24 rfl (by decide) (i := 4) (by decide) rfl at_171 rfl ?_
    refine go_astoreN C (pc' := 173) at_172 rfl (Ls' := #[(.val (.int x0)), (.val (.ref b1)), (.val (.int (4 : Int32))), (.val (.ref a_SUB)), .unset]) rfl rfl ?_
    refine go_iloadN C (pc' := 174) at_173 rfl rfl ?_
    refine go_bipush C (pc' := 176) at_174 (z := (16 : Int32)) (by decide) rfl ?_
    refine go_icmpYes C (pc' := 185) at_176 (by decide) (by decide) (by decide) ?_
    refine go_iloadN C (pc' := 186) at_185 rfl rfl ?_
    refine go_bipush C (pc' := 188) at_186 (z := (20 : Int32)) (by decide) rfl ?_
    refine go_icmpNo C (pc' := 191) at_188 (by decide) rfl ?_
    refine go_iloadN C (pc' := 192) at_191 rfl rfl ?_
    refine go_bipush C (pc' := 194) at_192 (z := (21 : Int32)) (by decide) rfl ?_
    refine go_icmpYes C (pc' := 201) at_194 (by decide) (by decide) (by decide) ?_
    refine go_iconst C (pc' := 202) at_201 (z := (0 : Int32)) (by decide) rfl ?_
    refine go_istore C (pc' := 204) at_202 (Ls' := #[(.val (.int x0)), (.val (.ref b1)), (.val (.int (4 : Int32))), (.val (.ref a_SUB)), (.val (.int (0 : Int32)))]) rfl rfl ?_
    refine go_aloadN C (pc' := 205) at_204 rfl rfl rfl ?_
    refine go_callV C (pc' := 208) (y' := (⟨"com/example/tidewater/tidewater/graph/NodeKind", "isControlConsumer", "()Z"⟩ : MethodName)) (wd_51 hw) (wd_52 hw) (wd_54 hw) (wd_53 hw) (cons_SUB l Z a0 hw _ _ O24 (EnSUB.ext O24.2) (EnIF.ext O24.2) (EnREGION.ext O24.2) (EnLOOP.ext O24.2) (EnZERO_CHECK.ext O24.2) (EnRETURN.ext O24.2)) (wd_55 hw) (wd_3 hw) (by decide) (by decide) (W := 0) (Nat.le_of_ble_eq_true rfl) (by decide) (by decide) (by decide) rfl (EnSUB.2.1.ext O24.2) (argsL := []) (rest := []) pd_0 rfl rfl rfl at_205 rfl ?_
    rintro _ _ ⟨rfl, rfl⟩
    refine go_st (st' := [(.int (0 : Int32))]) rfl ?_
    refine go_iload C (pc' := 210) at_208 rfl rfl ?_
    refine go_icmpNo C (pc' := 213) at_210 (by decide) rfl ?_
    refine go_iconst C (pc' := 214) at_213 (z := (1 : Int32)) (by decide) rfl ?_
    refine go_goto C (pc' := 218) at_214 (by decide) (by decide) ?_
    exact go_retN C (by simp) (z' := (1 : Int32)) (by decide) at_218 (by decide) (by decide) rfl
  · skip
    refine go_istoreN C (pc' := 169) at_168 (Ls' := #[(.val (.int x0)), (.val (.ref b1)), (.val (.int (5 : Int32))), .unset, .unset]) rfl rfl ?_
    refine go_aloadN C (pc' := 170) at_169 rfl rfl rfl ?_
    refine go_iloadN C (pc' := 171) at_170 rfl rfl ?_
    refine go_raget C (pc' := 172) A24 rfl (by decide) (i := 5) (by decide) rfl at_171 rfl ?_
    refine go_astoreN C (pc' := 173) at_172 rfl (Ls' := #[(.val (.int x0)), (.val (.ref b1)), (.val (.int (5 : Int32))), (.val (.ref a_MUL)), .unset]) rfl rfl ?_
    refine go_iloadN C (pc' := 174) at_173 rfl rfl ?_
    refine go_bipush C (pc' := 176) at_174 (z := (16 : Int32)) (by decide) rfl ?_
    refine go_icmpYes C (pc' := 185) at_176 (by decide) (by decide) (by decide) ?_
    refine go_iloadN C (pc' := 186) at_185 rfl rfl ?_
    refine go_bipush C (pc' := 188) at_186 (z := (20 : Int32)) (by decide) rfl ?_
    refine go_icmpNo C (pc' := 191) at_188 (by decide) rfl ?_
    refine go_iloadN C (pc' := 192) at_191 rfl rfl ?_
    refine go_bipush C (pc' := 194) at_192 (z := (21 : Int32)) (by decide) rfl ?_
    refine go_icmpYes C (pc' := 201) at_194 (by decide) (by decide) (by decide) ?_
    refine go_iconst C (pc' := 202) at_201 (z := (0 : Int32)) (by decide) rfl ?_
    refine go_istore C (pc' := 204) at_202 (Ls' := #[(.val (.int x0)), (.val (.ref b1)), (.val (.int (5 : Int32))), (.val (.ref a_MUL)), (.val (.int (0 : Int32)))]) rfl rfl ?_
    refine go_aloadN C (pc' := 205) at_204 rfl rfl rfl ?_
    refine go_callV C (pc' := 208) (y' := (⟨"com/example/tidewater/tidewater/graph/NodeKind", "isControlConsumer", "()Z"⟩ : MethodName)) (wd_51 hw) (wd_52 hw) (wd_54 hw) (wd_53 hw) (cons_MUL l Z a0 hw _ _ O24 (EnMUL.ext O24.2) (EnIF.ext O24.2) (EnREGION.ext O24.2) (EnLOOP.ext O24.2) (EnZERO_CHECK.ext O24.2) (EnRETURN.ext O24.2)) (wd_55 hw) (wd_3 hw) (by decide) (by decide) (W := 0) (Nat.le_of_ble_eq_true rfl) (by decide) (by decide) (by decide) rfl (EnMUL.2.1.ext O24.2) (argsL := []) (rest := []) pd_0 rfl rfl rfl at_205 rfl ?_
    rintro _ _ ⟨rfl, rfl⟩
    refine go_st (st' := [(.int (0 : Int32))]) rfl ?_
    refine go_iload C (pc' := 210) at_208 rfl rfl ?_
    refine go_icmpNo C (pc' := 213) at_210 (by decide) rfl ?_
    refine go_iconst C (pc' := 214) at_213 (z := (1 : Int32)) (by decide) rfl ?_
    refine go_goto C (pc' := 218) at_214 (by decide) (by decide) ?_
    exact go_retN C (by simp) (z' := (1 : Int32)) (by decide) at_218 (by decide) (by decide) rfl
  · skip
    refine go_istoreN C (pc' := 169) at_168 (Ls' := #[(.val (.int x0)), (.val (.ref b1)), (.val (.int (6 : Int32))), .unset, .unset]) rfl rfl ?_
    refine go_aloadN C (pc' := 170) at_169 rfl rfl rfl ?_
    refine go_iloadN C (pc' := 171) at_170 rfl rfl ?_
    refine go_raget C (pc' := 172) A24 rfl (by decide) (i := 6) (by decide) rfl at_171 rfl ?_
    refine go_astoreN C (pc' := 173) at_172 rfl (Ls' := #[(.val (.int x0)), (.val (.ref b1)), (.val (.int (6 : Int32))), (.val (.ref a_DIV)), .unset]) rfl rfl ?_
    refine go_iloadN C (pc' := 174) at_173 rfl rfl ?_
    refine go_bipush C (pc' := 176) at_174 (z := (16 : Int32)) (by decide) rfl ?_
    refine go_icmpYes C (pc' := 185) at_176 (by decide) (by decide) (by decide) ?_
    refine go_iloadN C (pc' := 186) at_185 rfl rfl ?_
    refine go_bipush C (pc' := 188) at_186 (z := (20 : Int32)) (by decide) rfl ?_
    refine go_icmpNo C (pc' := 191) at_188 (by decide) rfl ?_
    refine go_iloadN C (pc' := 192) at_191 rfl rfl ?_
    refine go_bipush C (pc' := 194) at_192 (z := (21 : Int32)) (by decide) rfl ?_
    refine go_icmpYes C (pc' := 201) at_194 (by decide) (by decide) (by decide) ?_
    refine go_iconst C (pc' := 202) at_201 (z := (0 : Int32)) (by decide) rfl ?_
    refine go_istore C (pc' := 204) at_202 (Ls' := #[(.val (.int x0)), (.val (.ref b1)), (.val (.int (6 : Int32))), (.val (.ref a_DIV)), (.val (.int (0 : Int32)))]) rfl rfl ?_
    refine go_aloadN C (pc' := 205) at_204 rfl rfl rfl ?_
    refine go_callV C (pc' := 208) (y' := (⟨"com/example/tidewater/tidewater/graph/NodeKind", "isControlConsumer", "()Z"⟩ : MethodName)) (wd_51 hw) (wd_52 hw) (wd_54 hw) (wd_53 hw) (cons_DIV l Z a0 hw _ _ O24 (EnDIV.ext O24.2) (EnIF.ext O24.2) (EnREGION.ext O24.2) (EnLOOP.ext O24.2) (EnZERO_CHECK.ext O24.2) (EnRETURN.ext O24.2)) (wd_55 hw) (wd_3 hw) (by decide) (by decide) (W := 0) (Nat.le_of_ble_eq_true rfl) (by decide) (by decide) (by decide) rfl (EnDIV.2.1.ext O24.2) (argsL := []) (rest := []) pd_0 rfl rfl rfl at_205 rfl ?_
    rintro _ _ ⟨rfl, rfl⟩
    refine go_st (st' := [(.int (0 : Int32))]) rfl ?_
    refine go_iload C (pc' := 210) at_208 rfl rfl ?_
    refine go_icmpNo C (pc' := 213) at_210 (by decide) rfl ?_
    refine go_iconst C (pc' := 214) at_213 (z := (1 : Int32)) (by decide) rfl ?_
    refine go_goto C (pc' := 218) at_214 (by decide) (by decide) ?_
    exact go_retN C (by simp) (z' := (1 : Int32)) (by decide) at_218 (by decide) (by decide) rfl
  · skip
    refine go_istoreN C (pc' := 169) at_168 (Ls' := #[(.val (.int x0)), (.val (.ref b1)), (.val (.int (7 : Int32))), .unset, .unset]) rfl rfl ?_
    refine go_aloadN C (pc' := 170) at_169 rfl rfl rfl ?_
    refine go_iloadN C (pc' := 171) at_170 rfl rfl ?_
    refine go_raget C (pc' := 172) A24 rfl (by decide) (i := 7) (by decide) rfl at_171 rfl ?_
    refine go_astoreN C (pc' := 173) at_172 rfl (Ls' := #[(.val (.int x0)), (.val (.ref b1)), (.val (.int (7 : Int32))), (.val (.ref a_MOD)), .unset]) rfl rfl ?_
    refine go_iloadN C (pc' := 174) at_173 rfl rfl ?_
    refine go_bipush C (pc' := 176) at_174 (z := (16 : Int32)) (by decide) rfl ?_
    refine go_icmpYes C (pc' := 185) at_176 (by decide) (by decide) (by decide) ?_
    refine go_iloadN C (pc' := 186) at_185 rfl rfl ?_
    refine go_bipush C (pc' := 188) at_186 (z := (20 : Int32)) (by decide) rfl ?_
    refine go_icmpNo C (pc' := 191) at_188 (by decide) rfl ?_
    refine go_iloadN C (pc' := 192) at_191 rfl rfl ?_
    refine go_bipush C (pc' := 194) at_192 (z := (21 : Int32)) (by decide) rfl ?_
    refine go_icmpYes C (pc' := 201) at_194 (by decide) (by decide) (by decide) ?_
    refine go_iconst C (pc' := 202) at_201 (z := (0 : Int32)) (by decide) rfl ?_
    refine go_istore C (pc' := 204) at_202 (Ls' := #[(.val (.int x0)), (.val (.ref b1)), (.val (.int (7 : Int32))), (.val (.ref a_MOD)), (.val (.int (0 : Int32)))]) rfl rfl ?_
    refine go_aloadN C (pc' := 205) at_204 rfl rfl rfl ?_
    refine go_callV C (pc' := 208) (y' := (⟨"com/example/tidewater/tidewater/graph/NodeKind", "isControlConsumer", "()Z"⟩ : MethodName)) (wd_51 hw) (wd_52 hw) (wd_54 hw) (wd_53 hw) (cons_MOD l Z a0 hw _ _ O24 (EnMOD.ext O24.2) (EnIF.ext O24.2) (EnREGION.ext O24.2) (EnLOOP.ext O24.2) (EnZERO_CHECK.ext O24.2) (EnRETURN.ext O24.2)) (wd_55 hw) (wd_3 hw) (by decide) (by decide) (W := 0) (Nat.le_of_ble_eq_true rfl) (by decide) (by decide) (by decide) rfl (EnMOD.2.1.ext O24.2) (argsL := []) (rest := []) pd_0 rfl rfl rfl at_205 rfl ?_
    rintro _ _ ⟨rfl, rfl⟩
    refine go_st (st' := [(.int (0 : Int32))]) rfl ?_
    refine go_iload C (pc' := 210) at_208 rfl rfl ?_
    refine go_icmpNo C (pc' := 213) at_210 (by decide) rfl ?_
    refine go_iconst C (pc' := 214) at_213 (z := (1 : Int32)) (by decide) rfl ?_
    refine go_goto C (pc' := 218) at_214 (by decide) (by decide) ?_
    exact go_retN C (by simp) (z' := (1 : Int32)) (by decide) at_218 (by decide) (by decide) rfl
  · skip
    refine go_istoreN C (pc' := 169) at_168 (Ls' := #[(.val (.int x0)), (.val (.ref b1)), (.val (.int (8 : Int32))), .unset, .unset]) rfl rfl ?_
    refine go_aloadN C (pc' := 170) at_169 rfl rfl rfl ?_
    refine go_iloadN C (pc' := 171) at_170 rfl rfl ?_
    refine go_raget C (pc' := 172) A24 rfl (by decide) (i := 8) (by decide) rfl at_171 rfl ?_
    refine go_astoreN C (pc' := 173) at_172 rfl (Ls' := #[(.val (.int x0)), (.val (.ref b1)), (.val (.int (8 : Int32))), (.val (.ref a_NEG)), .unset]) rfl rfl ?_
    refine go_iloadN C (pc' := 174) at_173 rfl rfl ?_
    refine go_bipush C (pc' := 176) at_174 (z := (16 : Int32)) (by decide) rfl ?_
    refine go_icmpYes C (pc' := 185) at_176 (by decide) (by decide) (by decide) ?_
    refine go_iloadN C (pc' := 186) at_185 rfl rfl ?_
    refine go_bipush C (pc' := 188) at_186 (z := (20 : Int32)) (by decide) rfl ?_
    refine go_icmpNo C (pc' := 191) at_188 (by decide) rfl ?_
    refine go_iloadN C (pc' := 192) at_191 rfl rfl ?_
    refine go_bipush C (pc' := 194) at_192 (z := (21 : Int32)) (by decide) rfl ?_
    refine go_icmpYes C (pc' := 201) at_194 (by decide) (by decide) (by decide) ?_
    refine go_iconst C (pc' := 202) at_201 (z := (0 : Int32)) (by decide) rfl ?_
    refine go_istore C (pc' := 204) at_202 (Ls' := #[(.val (.int x0)), (.val (.ref b1)), (.val (.int (8 : Int32))), (.val (.ref a_NEG)), (.val (.int (0 : Int32)))]) rfl rfl ?_
    refine go_aloadN C (pc' := 205) at_204 rfl rfl rfl ?_
    refine go_callV C (pc' := 208) (y' := (⟨"com/example/tidewater/tidewater/graph/NodeKind", "isControlConsumer", "()Z"⟩ : MethodName)) (wd_51 hw) (wd_52 hw) (wd_54 hw) (wd_53 hw) (cons_NEG l Z a0 hw _ _ O24 (EnNEG.ext O24.2) (EnIF.ext O24.2) (EnREGION.ext O24.2) (EnLOOP.ext O24.2) (EnZERO_CHECK.ext O24.2) (EnRETURN.ext O24.2)) (wd_55 hw) (wd_3 hw) (by decide) (by decide) (W := 0) (Nat.le_of_ble_eq_true rfl) (by decide) (by decide) (by decide) rfl (EnNEG.2.1.ext O24.2) (argsL := []) (rest := []) pd_0 rfl rfl rfl at_205 rfl ?_
    rintro _ _ ⟨rfl, rfl⟩
    refine go_st (st' := [(.int (0 : Int32))]) rfl ?_
    refine go_iload C (pc' := 210) at_208 rfl rfl ?_
    refine go_icmpNo C (pc' := 213) at_210 (by decide) rfl ?_
    refine go_iconst C (pc' := 214) at_213 (z := (1 : Int32)) (by decide) rfl ?_
    refine go_goto C (pc' := 218) at_214 (by decide) (by decide) ?_
    exact go_retN C (by simp) (z' := (1 : Int32)) (by decide) at_218 (by decide) (by decide) rfl
  · skip
    refine go_istoreN C (pc' := 169) at_168 (Ls' := #[(.val (.int x0)), (.val (.ref b1)), (.val (.int (9 : Int32))), .unset, .unset]) rfl rfl ?_
    refine go_aloadN C (pc' := 170) at_169 rfl rfl rfl ?_
    refine go_iloadN C (pc' := 171) at_170 rfl rfl ?_
    refine go_raget C (pc' := 172) A24 rfl (by decide) (i := 9) (by decide) rfl at_171 rfl ?_
    refine go_astoreN C (pc' := 173) at_172 rfl (Ls' := #[(.val (.int x0)), (.val (.ref b1)), (.val (.int (9 : Int32))), (.val (.ref a_NOT)), .unset]) rfl rfl ?_
    refine go_iloadN C (pc' := 174) at_173 rfl rfl ?_
    refine go_bipush C (pc' := 176) at_174 (z := (16 : Int32)) (by decide) rfl ?_
    refine go_icmpYes C (pc' := 185) at_176 (by decide) (by decide) (by decide) ?_
    refine go_iloadN C (pc' := 186) at_185 rfl rfl ?_
    refine go_bipush C (pc' := 188) at_186 (z := (20 : Int32)) (by decide) rfl ?_
    refine go_icmpNo C (pc' := 191) at_188 (by decide) rfl ?_
    refine go_iloadN C (pc' := 192) at_191 rfl rfl ?_
    refine go_bipush C (pc' := 194) at_192 (z := (21 : Int32)) (by decide) rfl ?_
    refine go_icmpYes C (pc' := 201) at_194 (by decide) (by decide) (by decide) ?_
    refine go_iconst C (pc' := 202) at_201 (z := (0 : Int32)) (by decide) rfl ?_
    refine go_istore C (pc' := 204) at_202 (Ls' := #[(.val (.int x0)), (.val (.ref b1)), (.val (.int (9 : Int32))), (.val (.ref a_NOT)), (.val (.int (0 : Int32)))]) rfl rfl ?_
    refine go_aloadN C (pc' := 205) at_204 rfl rfl rfl ?_
    refine go_callV C (pc' := 208) (y' := (⟨"com/example/tidewater/tidewater/graph/NodeKind", "isControlConsumer", "()Z"⟩ : MethodName)) (wd_51 hw) (wd_52 hw) (wd_54 hw) (wd_53 hw) (cons_NOT l Z a0 hw _ _ O24 (EnNOT.ext O24.2) (EnIF.ext O24.2) (EnREGION.ext O24.2) (EnLOOP.ext O24.2) (EnZERO_CHECK.ext O24.2) (EnRETURN.ext O24.2)) (wd_55 hw) (wd_3 hw) (by decide) (by decide) (W := 0) (Nat.le_of_ble_eq_true rfl) (by decide) (by decide) (by decide) rfl (EnNOT.2.1.ext O24.2) (argsL := []) (rest := []) pd_0 rfl rfl rfl at_205 rfl ?_
    rintro _ _ ⟨rfl, rfl⟩
    refine go_st (st' := [(.int (0 : Int32))]) rfl ?_
    refine go_iload C (pc' := 210) at_208 rfl rfl ?_
    refine go_icmpNo C (pc' := 213) at_210 (by decide) rfl ?_
    refine go_iconst C (pc' := 214) at_213 (z := (1 : Int32)) (by decide) rfl ?_
    refine go_goto C (pc' := 218) at_214 (by decide) (by decide) ?_
    exact go_retN C (by simp) (z' := (1 : Int32)) (by decide) at_218 (by decide) (by decide) rfl
  · skip
    refine go_istoreN C (pc' := 169) at_168 (Ls' := #[(.val (.int x0)), (.val (.ref b1)), (.val (.int (10 : Int32))), .unset, .unset]) rfl rfl ?_
    refine go_aloadN C (pc' := 170) at_169 rfl rfl rfl ?_
    refine go_iloadN C (pc' := 171) at_170 rfl rfl ?_
    refine go_raget C (pc' := 172) A24 rfl (by decide) (i := 10) (by decide) rfl at_171 rfl ?_
    refine go_astoreN C (pc' := 173) at_172 rfl (Ls' := #[(.val (.int x0)), (.val (.ref b1)), (.val (.int (10 : Int32))), (.val (.ref a_EQ)), .unset]) rfl rfl ?_
    refine go_iloadN C (pc' := 174) at_173 rfl rfl ?_
    refine go_bipush C (pc' := 176) at_174 (z := (16 : Int32)) (by decide) rfl ?_
    refine go_icmpYes C (pc' := 185) at_176 (by decide) (by decide) (by decide) ?_
    refine go_iloadN C (pc' := 186) at_185 rfl rfl ?_
    refine go_bipush C (pc' := 188) at_186 (z := (20 : Int32)) (by decide) rfl ?_
    refine go_icmpNo C (pc' := 191) at_188 (by decide) rfl ?_
    refine go_iloadN C (pc' := 192) at_191 rfl rfl ?_
    refine go_bipush C (pc' := 194) at_192 (z := (21 : Int32)) (by decide) rfl ?_
    refine go_icmpYes C (pc' := 201) at_194 (by decide) (by decide) (by decide) ?_
    refine go_iconst C (pc' := 202) at_201 (z := (0 : Int32)) (by decide) rfl ?_
    refine go_istore C (pc' := 204) at_202 (Ls' := #[(.val (.int x0)), (.val (.ref b1)), (.val (.int (10 : Int32))), (.val (.ref a_EQ)), (.val (.int (0 : Int32)))]) rfl rfl ?_
    refine go_aloadN C (pc' := 205) at_204 rfl rfl rfl ?_
    refine go_callV C (pc' := 208) (y' := (⟨"com/example/tidewater/tidewater/graph/NodeKind", "isControlConsumer", "()Z"⟩ : MethodName)) (wd_51 hw) (wd_52 hw) (wd_54 hw) (wd_53 hw) (cons_EQ l Z a0 hw _ _ O24 (EnEQ.ext O24.2) (EnIF.ext O24.2) (EnREGION.ext O24.2) (EnLOOP.ext O24.2) (EnZERO_CHECK.ext O24.2) (EnRETURN.ext O24.2)) (wd_55 hw) (wd_3 hw) (by decide) (by decide) (W := 0) (Nat.le_of_ble_eq_true rfl) (by decide) (by decide) (by decide) rfl (EnEQ.2.1.ext O24.2) (argsL := []) (rest := []) pd_0 rfl rfl rfl at_205 rfl ?_
    rintro _ _ ⟨rfl, rfl⟩
    refine go_st (st' := [(.int (0 : Int32))]) rfl ?_
    refine go_iload C (pc' := 210) at_208 rfl rfl ?_
    refine go_icmpNo C (pc' := 213) at_210 (by decide) rfl ?_
    refine go_iconst C (pc' := 214) at_213 (z := (1 : Int32)) (by decide) rfl ?_
    refine go_goto C (pc' := 218) at_214 (by decide) (by decide) ?_
    exact go_retN C (by simp) (z' := (1 : Int32)) (by decide) at_218 (by decide) (by decide) rfl
  · skip
    refine go_istoreN C (pc' := 169) at_168 (Ls' := #[(.val (.int x0)), (.val (.ref b1)), (.val (.int (11 : Int32))), .unset, .unset]) rfl rfl ?_
    refine go_aloadN C (pc' := 170) at_169 rfl rfl rfl ?_
    refine go_iloadN C (pc' := 171) at_170 rfl rfl ?_
    refine go_raget C (pc' := 172) A24 rfl (by decide) (i := 11) (by decide) rfl at_171 rfl ?_
    refine go_astoreN C (pc' := 173) at_172 rfl (Ls' := #[(.val (.int x0)), (.val (.ref b1)), (.val (.int (11 : Int32))), (.val (.ref a_NE)), .unset]) rfl rfl ?_
    refine go_iloadN C (pc' := 174) at_173 rfl rfl ?_
    refine go_bipush C (pc' := 176) at_174 (z := (16 : Int32)) (by decide) rfl ?_
    refine go_icmpYes C (pc' := 185) at_176 (by decide) (by decide) (by decide) ?_
    refine go_iloadN C (pc' := 186) at_185 rfl rfl ?_
    refine go_bipush C (pc' := 188) at_186 (z := (20 : Int32)) (by decide) rfl ?_
    refine go_icmpNo C (pc' := 191) at_188 (by decide) rfl ?_
    refine go_iloadN C (pc' := 192) at_191 rfl rfl ?_
    refine go_bipush C (pc' := 194) at_192 (z := (21 : Int32)) (by decide) rfl ?_
    refine go_icmpYes C (pc' := 201) at_194 (by decide) (by decide) (by decide) ?_
    refine go_iconst C (pc' := 202) at_201 (z := (0 : Int32)) (by decide) rfl ?_
    refine go_istore C (pc' := 204) at_202 (Ls' := #[(.val (.int x0)), (.val (.ref b1)), (.val (.int (11 : Int32))), (.val (.ref a_NE)), (.val (.int (0 : Int32)))]) rfl rfl ?_
    refine go_aloadN C (pc' := 205) at_204 rfl rfl rfl ?_
    refine go_callV C (pc' := 208) (y' := (⟨"com/example/tidewater/tidewater/graph/NodeKind", "isControlConsumer", "()Z"⟩ : MethodName)) (wd_51 hw) (wd_52 hw) (wd_54 hw) (wd_53 hw) (cons_NE l Z a0 hw _ _ O24 (EnNE.ext O24.2) (EnIF.ext O24.2) (EnREGION.ext O24.2) (EnLOOP.ext O24.2) (EnZERO_CHECK.ext O24.2) (EnRETURN.ext O24.2)) (wd_55 hw) (wd_3 hw) (by decide) (by decide) (W := 0) (Nat.le_of_ble_eq_true rfl) (by decide) (by decide) (by decide) rfl (EnNE.2.1.ext O24.2) (argsL := []) (rest := []) pd_0 rfl rfl rfl at_205 rfl ?_
    rintro _ _ ⟨rfl, rfl⟩
    refine go_st (st' := [(.int (0 : Int32))]) rfl ?_
    refine go_iload C (pc' := 210) at_208 rfl rfl ?_
    refine go_icmpNo C (pc' := 213) at_210 (by decide) rfl ?_
    refine go_iconst C (pc' := 214) at_213 (z := (1 : Int32)) (by decide) rfl ?_
    refine go_goto C (pc' := 218) at_214 (by decide) (by decide) ?_
    exact go_retN C (by simp) (z' := (1 : Int32)) (by decide) at_218 (by decide) (by decide) rfl
  · skip
    refine go_istoreN C (pc' := 169) at_168 (Ls' := #[(.val (.int x0)), (.val (.ref b1)), (.val (.int (12 : Int32))), .unset, .unset]) rfl rfl ?_
    refine go_aloadN C (pc' := 170) at_169 rfl rfl rfl ?_
    refine go_iloadN C (pc' := 171) at_170 rfl rfl ?_
    refine go_raget C (pc' := 172) A24 rfl (by decide) (i := 12) (by decide) rfl at_171 rfl ?_
    refine go_astoreN C (pc' := 173) at_172 rfl (Ls' := #[(.val (.int x0)), (.val (.ref b1)), (.val (.int (12 : Int32))), (.val (.ref a_LT)), .unset]) rfl rfl ?_
    refine go_iloadN C (pc' := 174) at_173 rfl rfl ?_
    refine go_bipush C (pc' := 176) at_174 (z := (16 : Int32)) (by decide) rfl ?_
    refine go_icmpYes C (pc' := 185) at_176 (by decide) (by decide) (by decide) ?_
    refine go_iloadN C (pc' := 186) at_185 rfl rfl ?_
    refine go_bipush C (pc' := 188) at_186 (z := (20 : Int32)) (by decide) rfl ?_
    refine go_icmpNo C (pc' := 191) at_188 (by decide) rfl ?_
    refine go_iloadN C (pc' := 192) at_191 rfl rfl ?_
    refine go_bipush C (pc' := 194) at_192 (z := (21 : Int32)) (by decide) rfl ?_
    refine go_icmpYes C (pc' := 201) at_194 (by decide) (by decide) (by decide) ?_
    refine go_iconst C (pc' := 202) at_201 (z := (0 : Int32)) (by decide) rfl ?_
    refine go_istore C (pc' := 204) at_202 (Ls' := #[(.val (.int x0)), (.val (.ref b1)), (.val (.int (12 : Int32))), (.val (.ref a_LT)), (.val (.int (0 : Int32)))]) rfl rfl ?_
    refine go_aloadN C (pc' := 205) at_204 rfl rfl rfl ?_
    refine go_callV C (pc' := 208) (y' := (⟨"com/example/tidewater/tidewater/graph/NodeKind", "isControlConsumer", "()Z"⟩ : MethodName)) (wd_51 hw) (wd_52 hw) (wd_54 hw) (wd_53 hw) (cons_LT l Z a0 hw _ _ O24 (EnLT.ext O24.2) (EnIF.ext O24.2) (EnREGION.ext O24.2) (EnLOOP.ext O24.2) (EnZERO_CHECK.ext O24.2) (EnRETURN.ext O24.2)) (wd_55 hw) (wd_3 hw) (by decide) (by decide) (W := 0) (Nat.le_of_ble_eq_true rfl) (by decide) (by decide) (by decide) rfl (EnLT.2.1.ext O24.2) (argsL := []) (rest := []) pd_0 rfl rfl rfl at_205 rfl ?_
    rintro _ _ ⟨rfl, rfl⟩
    refine go_st (st' := [(.int (0 : Int32))]) rfl ?_
    refine go_iload C (pc' := 210) at_208 rfl rfl ?_
    refine go_icmpNo C (pc' := 213) at_210 (by decide) rfl ?_
    refine go_iconst C (pc' := 214) at_213 (z := (1 : Int32)) (by decide) rfl ?_
    refine go_goto C (pc' := 218) at_214 (by decide) (by decide) ?_
    exact go_retN C (by simp) (z' := (1 : Int32)) (by decide) at_218 (by decide) (by decide) rfl
  · skip
    refine go_istoreN C (pc' := 169) at_168 (Ls' := #[(.val (.int x0)), (.val (.ref b1)), (.val (.int (13 : Int32))), .unset, .unset]) rfl rfl ?_
    refine go_aloadN C (pc' := 170) at_169 rfl rfl rfl ?_
    refine go_iloadN C (pc' := 171) at_170 rfl rfl ?_
    refine go_raget C (pc' := 172) A24 rfl (by decide) (i := 13) (by decide) rfl at_171 rfl ?_
    refine go_astoreN C (pc' := 173) at_172 rfl (Ls' := #[(.val (.int x0)), (.val (.ref b1)), (.val (.int (13 : Int32))), (.val (.ref a_LE)), .unset]) rfl rfl ?_
    refine go_iloadN C (pc' := 174) at_173 rfl rfl ?_
    refine go_bipush C (pc' := 176) at_174 (z := (16 : Int32)) (by decide) rfl ?_
    refine go_icmpYes C (pc' := 185) at_176 (by decide) (by decide) (by decide) ?_
    refine go_iloadN C (pc' := 186) at_185 rfl rfl ?_
    refine go_bipush C (pc' := 188) at_186 (z := (20 : Int32)) (by decide) rfl ?_
    refine go_icmpNo C (pc' := 191) at_188 (by decide) rfl ?_
    refine go_iloadN C (pc' := 192) at_191 rfl rfl ?_
    refine go_bipush C (pc' := 194) at_192 (z := (21 : Int32)) (by decide) rfl ?_
    refine go_icmpYes C (pc' := 201) at_194 (by decide) (by decide) (by decide) ?_
    refine go_iconst C (pc' := 202) at_201 (z := (0 : Int32)) (by decide) rfl ?_
    refine go_istore C (pc' := 204) at_202 (Ls' := #[(.val (.int x0)), (.val (.ref b1)), (.val (.int (13 : Int32))), (.val (.ref a_LE)), (.val (.int (0 : Int32)))]) rfl rfl ?_
    refine go_aloadN C (pc' := 205) at_204 rfl rfl rfl ?_
    refine go_callV C (pc' := 208) (y' := (⟨"com/example/tidewater/tidewater/graph/NodeKind", "isControlConsumer", "()Z"⟩ : MethodName)) (wd_51 hw) (wd_52 hw) (wd_54 hw) (wd_53 hw) (cons_LE l Z a0 hw _ _ O24 (EnLE.ext O24.2) (EnIF.ext O24.2) (EnREGION.ext O24.2) (EnLOOP.ext O24.2) (EnZERO_CHECK.ext O24.2) (EnRETURN.ext O24.2)) (wd_55 hw) (wd_3 hw) (by decide) (by decide) (W := 0) (Nat.le_of_ble_eq_true rfl) (by decide) (by decide) (by decide) rfl (EnLE.2.1.ext O24.2) (argsL := []) (rest := []) pd_0 rfl rfl rfl at_205 rfl ?_
    rintro _ _ ⟨rfl, rfl⟩
    refine go_st (st' := [(.int (0 : Int32))]) rfl ?_
    refine go_iload C (pc' := 210) at_208 rfl rfl ?_
    refine go_icmpNo C (pc' := 213) at_210 (by decide) rfl ?_
    refine go_iconst C (pc' := 214) at_213 (z := (1 : Int32)) (by decide) rfl ?_
    refine go_goto C (pc' := 218) at_214 (by decide) (by decide) ?_
    exact go_retN C (by simp) (z' := (1 : Int32)) (by decide) at_218 (by decide) (by decide) rfl
  · skip
    refine go_istoreN C (pc' := 169) at_168 (Ls' := #[(.val (.int x0)), (.val (.ref b1)), (.val (.int (14 : Int32))), .unset, .unset]) rfl rfl ?_
    refine go_aloadN C (pc' := 170) at_169 rfl rfl rfl ?_
    refine go_iloadN C (pc' := 171) at_170 rfl rfl ?_
    refine go_raget C (pc' := 172) A24 rfl (by decide) (i := 14) (by decide) rfl at_171 rfl ?_
    refine go_astoreN C (pc' := 173) at_172 rfl (Ls' := #[(.val (.int x0)), (.val (.ref b1)), (.val (.int (14 : Int32))), (.val (.ref a_GT)), .unset]) rfl rfl ?_
    refine go_iloadN C (pc' := 174) at_173 rfl rfl ?_
    refine go_bipush C (pc' := 176) at_174 (z := (16 : Int32)) (by decide) rfl ?_
    refine go_icmpYes C (pc' := 185) at_176 (by decide) (by decide) (by decide) ?_
    refine go_iloadN C (pc' := 186) at_185 rfl rfl ?_
    refine go_bipush C (pc' := 188) at_186 (z := (20 : Int32)) (by decide) rfl ?_
    refine go_icmpNo C (pc' := 191) at_188 (by decide) rfl ?_
    refine go_iloadN C (pc' := 192) at_191 rfl rfl ?_
    refine go_bipush C (pc' := 194) at_192 (z := (21 : Int32)) (by decide) rfl ?_
    refine go_icmpYes C (pc' := 201) at_194 (by decide) (by decide) (by decide) ?_
    refine go_iconst C (pc' := 202) at_201 (z := (0 : Int32)) (by decide) rfl ?_
    refine go_istore C (pc' := 204) at_202 (Ls' := #[(.val (.int x0)), (.val (.ref b1)), (.val (.int (14 : Int32))), (.val (.ref a_GT)), (.val (.int (0 : Int32)))]) rfl rfl ?_
    refine go_aloadN C (pc' := 205) at_204 rfl rfl rfl ?_
    refine go_callV C (pc' := 208) (y' := (⟨"com/example/tidewater/tidewater/graph/NodeKind", "isControlConsumer", "()Z"⟩ : MethodName)) (wd_51 hw) (wd_52 hw) (wd_54 hw) (wd_53 hw) (cons_GT l Z a0 hw _ _ O24 (EnGT.ext O24.2) (EnIF.ext O24.2) (EnREGION.ext O24.2) (EnLOOP.ext O24.2) (EnZERO_CHECK.ext O24.2) (EnRETURN.ext O24.2)) (wd_55 hw) (wd_3 hw) (by decide) (by decide) (W := 0) (Nat.le_of_ble_eq_true rfl) (by decide) (by decide) (by decide) rfl (EnGT.2.1.ext O24.2) (argsL := []) (rest := []) pd_0 rfl rfl rfl at_205 rfl ?_
    rintro _ _ ⟨rfl, rfl⟩
    refine go_st (st' := [(.int (0 : Int32))]) rfl ?_
    refine go_iload C (pc' := 210) at_208 rfl rfl ?_
    refine go_icmpNo C (pc' := 213) at_210 (by decide) rfl ?_
    refine go_iconst C (pc' := 214) at_213 (z := (1 : Int32)) (by decide) rfl ?_
    refine go_goto C (pc' := 218) at_214 (by decide) (by decide) ?_
    exact go_retN C (by simp) (z' := (1 : Int32)) (by decide) at_218 (by decide) (by decide) rfl
  · skip
    refine go_istoreN C (pc' := 169) at_168 (Ls' := #[(.val (.int x0)), (.val (.ref b1)), (.val (.int (15 : Int32))), .unset, .unset]) rfl rfl ?_
    refine go_aloadN C (pc' := 170) at_169 rfl rfl rfl ?_
    refine go_iloadN C (pc' := 171) at_170 rfl rfl ?_
    refine go_raget C (pc' := 172) A24 rfl (by decide) (i := 15) (by decide) rfl at_171 rfl ?_
    refine go_astoreN C (pc' := 173) at_172 rfl (Ls' := #[(.val (.int x0)), (.val (.ref b1)), (.val (.int (15 : Int32))), (.val (.ref a_GE)), .unset]) rfl rfl ?_
    refine go_iloadN C (pc' := 174) at_173 rfl rfl ?_
    refine go_bipush C (pc' := 176) at_174 (z := (16 : Int32)) (by decide) rfl ?_
    refine go_icmpYes C (pc' := 185) at_176 (by decide) (by decide) (by decide) ?_
    refine go_iloadN C (pc' := 186) at_185 rfl rfl ?_
    refine go_bipush C (pc' := 188) at_186 (z := (20 : Int32)) (by decide) rfl ?_
    refine go_icmpNo C (pc' := 191) at_188 (by decide) rfl ?_
    refine go_iloadN C (pc' := 192) at_191 rfl rfl ?_
    refine go_bipush C (pc' := 194) at_192 (z := (21 : Int32)) (by decide) rfl ?_
    refine go_icmpYes C (pc' := 201) at_194 (by decide) (by decide) (by decide) ?_
    refine go_iconst C (pc' := 202) at_201 (z := (0 : Int32)) (by decide) rfl ?_
    refine go_istore C (pc' := 204) at_202 (Ls' := #[(.val (.int x0)), (.val (.ref b1)), (.val (.int (15 : Int32))), (.val (.ref a_GE)), (.val (.int (0 : Int32)))]) rfl rfl ?_
    refine go_aloadN C (pc' := 205) at_204 rfl rfl rfl ?_
    refine go_callV C (pc' := 208) (y' := (⟨"com/example/tidewater/tidewater/graph/NodeKind", "isControlConsumer", "()Z"⟩ : MethodName)) (wd_51 hw) (wd_52 hw) (wd_54 hw) (wd_53 hw) (cons_GE l Z a0 hw _ _ O24 (EnGE.ext O24.2) (EnIF.ext O24.2) (EnREGION.ext O24.2) (EnLOOP.ext O24.2) (EnZERO_CHECK.ext O24.2) (EnRETURN.ext O24.2)) (wd_55 hw) (wd_3 hw) (by decide) (by decide) (W := 0) (Nat.le_of_ble_eq_true rfl) (by decide) (by decide) (by decide) rfl (EnGE.2.1.ext O24.2) (argsL := []) (rest := []) pd_0 rfl rfl rfl at_205 rfl ?_
    rintro _ _ ⟨rfl, rfl⟩
    refine go_st (st' := [(.int (0 : Int32))]) rfl ?_
    refine go_iload C (pc' := 210) at_208 rfl rfl ?_
    refine go_icmpNo C (pc' := 213) at_210 (by decide) rfl ?_
    refine go_iconst C (pc' := 214) at_213 (z := (1 : Int32)) (by decide) rfl ?_
    refine go_goto C (pc' := 218) at_214 (by decide) (by decide) ?_
    exact go_retN C (by simp) (z' := (1 : Int32)) (by decide) at_218 (by decide) (by decide) rfl
  · skip
    refine go_istoreN C (pc' := 169) at_168 (Ls' := #[(.val (.int x0)), (.val (.ref b1)), (.val (.int (16 : Int32))), .unset, .unset]) rfl rfl ?_
    refine go_aloadN C (pc' := 170) at_169 rfl rfl rfl ?_
    refine go_iloadN C (pc' := 171) at_170 rfl rfl ?_
    refine go_raget C (pc' := 172) A24 rfl (by decide) (i := 16) (by decide) rfl at_171 rfl ?_
    refine go_astoreN C (pc' := 173) at_172 rfl (Ls' := #[(.val (.int x0)), (.val (.ref b1)), (.val (.int (16 : Int32))), (.val (.ref a_IF)), .unset]) rfl rfl ?_
    refine go_iloadN C (pc' := 174) at_173 rfl rfl ?_
    refine go_bipush C (pc' := 176) at_174 (z := (16 : Int32)) (by decide) rfl ?_
    refine go_icmpNo C (pc' := 179) at_176 (by decide) rfl ?_
    refine go_iloadN C (pc' := 180) at_179 rfl rfl ?_
    refine go_bipush C (pc' := 182) at_180 (z := (18 : Int32)) (by decide) rfl ?_
    refine go_icmpYes C (pc' := 197) at_182 (by decide) (by decide) (by decide) ?_
    refine go_iconst C (pc' := 198) at_197 (z := (1 : Int32)) (by decide) rfl ?_
    refine go_goto C (pc' := 202) at_198 (by decide) (by decide) ?_
    refine go_istore C (pc' := 204) at_202 (Ls' := #[(.val (.int x0)), (.val (.ref b1)), (.val (.int (16 : Int32))), (.val (.ref a_IF)), (.val (.int (1 : Int32)))]) rfl rfl ?_
    refine go_aloadN C (pc' := 205) at_204 rfl rfl rfl ?_
    refine go_callV C (pc' := 208) (y' := (⟨"com/example/tidewater/tidewater/graph/NodeKind", "isControlConsumer", "()Z"⟩ : MethodName)) (wd_51 hw) (wd_52 hw) (wd_54 hw) (wd_53 hw) (cons_IF l Z a0 hw _ _ O24 (EnIF.ext O24.2) (EnREGION.ext O24.2) (EnLOOP.ext O24.2) (EnZERO_CHECK.ext O24.2) (EnRETURN.ext O24.2)) (wd_55 hw) (wd_3 hw) (by decide) (by decide) (W := 0) (Nat.le_of_ble_eq_true rfl) (by decide) (by decide) (by decide) rfl (EnIF.2.1.ext O24.2) (argsL := []) (rest := []) pd_0 rfl rfl rfl at_205 rfl ?_
    rintro _ _ ⟨rfl, rfl⟩
    refine go_st (st' := [(.int (1 : Int32))]) rfl ?_
    refine go_iload C (pc' := 210) at_208 rfl rfl ?_
    refine go_icmpNo C (pc' := 213) at_210 (by decide) rfl ?_
    refine go_iconst C (pc' := 214) at_213 (z := (1 : Int32)) (by decide) rfl ?_
    refine go_goto C (pc' := 218) at_214 (by decide) (by decide) ?_
    exact go_retN C (by simp) (z' := (1 : Int32)) (by decide) at_218 (by decide) (by decide) rfl
  · skip
    refine go_istoreN C (pc' := 169) at_168 (Ls' := #[(.val (.int x0)), (.val (.ref b1)), (.val (.int (17 : Int32))), .unset, .unset]) rfl rfl ?_
    refine go_aloadN C (pc' := 170) at_169 rfl rfl rfl ?_
    refine go_iloadN C (pc' := 171) at_170 rfl rfl ?_
    refine go_raget C (pc' := 172) A24 rfl (by decide) (i := 17) (by decide) rfl at_171 rfl ?_
    refine go_astoreN C (pc' := 173) at_172 rfl (Ls' := #[(.val (.int x0)), (.val (.ref b1)), (.val (.int (17 : Int32))), (.val (.ref a_REGION)), .unset]) rfl rfl ?_
    refine go_iloadN C (pc' := 174) at_173 rfl rfl ?_
    refine go_bipush C (pc' := 176) at_174 (z := (16 : Int32)) (by decide) rfl ?_
    refine go_icmpNo C (pc' := 179) at_176 (by decide) rfl ?_
    refine go_iloadN C (pc' := 180) at_179 rfl rfl ?_
    refine go_bipush C (pc' := 182) at_180 (z := (18 : Int32)) (by decide) rfl ?_
    refine go_icmpYes C (pc' := 197) at_182 (by decide) (by decide) (by decide) ?_
    refine go_iconst C (pc' := 198) at_197 (z := (1 : Int32)) (by decide) rfl ?_
    refine go_goto C (pc' := 202) at_198 (by decide) (by decide) ?_
    refine go_istore C (pc' := 204) at_202 (Ls' := #[(.val (.int x0)), (.val (.ref b1)), (.val (.int (17 : Int32))), (.val (.ref a_REGION)), (.val (.int (1 : Int32)))]) rfl rfl ?_
    refine go_aloadN C (pc' := 205) at_204 rfl rfl rfl ?_
    refine go_callV C (pc' := 208) (y' := (⟨"com/example/tidewater/tidewater/graph/NodeKind", "isControlConsumer", "()Z"⟩ : MethodName)) (wd_51 hw) (wd_52 hw) (wd_54 hw) (wd_53 hw) (cons_REGION l Z a0 hw _ _ O24 (EnIF.ext O24.2) (EnREGION.ext O24.2) (EnLOOP.ext O24.2) (EnZERO_CHECK.ext O24.2) (EnRETURN.ext O24.2)) (wd_55 hw) (wd_3 hw) (by decide) (by decide) (W := 0) (Nat.le_of_ble_eq_true rfl) (by decide) (by decide) (by decide) rfl (EnREGION.2.1.ext O24.2) (argsL := []) (rest := []) pd_0 rfl rfl rfl at_205 rfl ?_
    rintro _ _ ⟨rfl, rfl⟩
    refine go_st (st' := [(.int (1 : Int32))]) rfl ?_
    refine go_iload C (pc' := 210) at_208 rfl rfl ?_
    refine go_icmpNo C (pc' := 213) at_210 (by decide) rfl ?_
    refine go_iconst C (pc' := 214) at_213 (z := (1 : Int32)) (by decide) rfl ?_
    refine go_goto C (pc' := 218) at_214 (by decide) (by decide) ?_
    exact go_retN C (by simp) (z' := (1 : Int32)) (by decide) at_218 (by decide) (by decide) rfl
  · skip
    refine go_istoreN C (pc' := 169) at_168 (Ls' := #[(.val (.int x0)), (.val (.ref b1)), (.val (.int (18 : Int32))), .unset, .unset]) rfl rfl ?_
    refine go_aloadN C (pc' := 170) at_169 rfl rfl rfl ?_
    refine go_iloadN C (pc' := 171) at_170 rfl rfl ?_
    refine go_raget C (pc' := 172) A24 rfl (by decide) (i := 18) (by decide) rfl at_171 rfl ?_
    refine go_astoreN C (pc' := 173) at_172 rfl (Ls' := #[(.val (.int x0)), (.val (.ref b1)), (.val (.int (18 : Int32))), (.val (.ref a_LOOP)), .unset]) rfl rfl ?_
    refine go_iloadN C (pc' := 174) at_173 rfl rfl ?_
    refine go_bipush C (pc' := 176) at_174 (z := (16 : Int32)) (by decide) rfl ?_
    refine go_icmpNo C (pc' := 179) at_176 (by decide) rfl ?_
    refine go_iloadN C (pc' := 180) at_179 rfl rfl ?_
    refine go_bipush C (pc' := 182) at_180 (z := (18 : Int32)) (by decide) rfl ?_
    refine go_icmpYes C (pc' := 197) at_182 (by decide) (by decide) (by decide) ?_
    refine go_iconst C (pc' := 198) at_197 (z := (1 : Int32)) (by decide) rfl ?_
    refine go_goto C (pc' := 202) at_198 (by decide) (by decide) ?_
    refine go_istore C (pc' := 204) at_202 (Ls' := #[(.val (.int x0)), (.val (.ref b1)), (.val (.int (18 : Int32))), (.val (.ref a_LOOP)), (.val (.int (1 : Int32)))]) rfl rfl ?_
    refine go_aloadN C (pc' := 205) at_204 rfl rfl rfl ?_
    refine go_callV C (pc' := 208) (y' := (⟨"com/example/tidewater/tidewater/graph/NodeKind", "isControlConsumer", "()Z"⟩ : MethodName)) (wd_51 hw) (wd_52 hw) (wd_54 hw) (wd_53 hw) (cons_LOOP l Z a0 hw _ _ O24 (EnIF.ext O24.2) (EnREGION.ext O24.2) (EnLOOP.ext O24.2) (EnZERO_CHECK.ext O24.2) (EnRETURN.ext O24.2)) (wd_55 hw) (wd_3 hw) (by decide) (by decide) (W := 0) (Nat.le_of_ble_eq_true rfl) (by decide) (by decide) (by decide) rfl (EnLOOP.2.1.ext O24.2) (argsL := []) (rest := []) pd_0 rfl rfl rfl at_205 rfl ?_
    rintro _ _ ⟨rfl, rfl⟩
    refine go_st (st' := [(.int (1 : Int32))]) rfl ?_
    refine go_iload C (pc' := 210) at_208 rfl rfl ?_
    refine go_icmpNo C (pc' := 213) at_210 (by decide) rfl ?_
    refine go_iconst C (pc' := 214) at_213 (z := (1 : Int32)) (by decide) rfl ?_
    refine go_goto C (pc' := 218) at_214 (by decide) (by decide) ?_
    exact go_retN C (by simp) (z' := (1 : Int32)) (by decide) at_218 (by decide) (by decide) rfl
  · skip
    refine go_istoreN C (pc' := 169) at_168 (Ls' := #[(.val (.int x0)), (.val (.ref b1)), (.val (.int (19 : Int32))), .unset, .unset]) rfl rfl ?_
    refine go_aloadN C (pc' := 170) at_169 rfl rfl rfl ?_
    refine go_iloadN C (pc' := 171) at_170 rfl rfl ?_
    refine go_raget C (pc' := 172) A24 rfl (by decide) (i := 19) (by decide) rfl at_171 rfl ?_
    refine go_astoreN C (pc' := 173) at_172 rfl (Ls' := #[(.val (.int x0)), (.val (.ref b1)), (.val (.int (19 : Int32))), (.val (.ref a_PHI)), .unset]) rfl rfl ?_
    refine go_iloadN C (pc' := 174) at_173 rfl rfl ?_
    refine go_bipush C (pc' := 176) at_174 (z := (16 : Int32)) (by decide) rfl ?_
    refine go_icmpNo C (pc' := 179) at_176 (by decide) rfl ?_
    refine go_iloadN C (pc' := 180) at_179 rfl rfl ?_
    refine go_bipush C (pc' := 182) at_180 (z := (18 : Int32)) (by decide) rfl ?_
    refine go_icmpNo C (pc' := 185) at_182 (by decide) rfl ?_
    refine go_iloadN C (pc' := 186) at_185 rfl rfl ?_
    refine go_bipush C (pc' := 188) at_186 (z := (20 : Int32)) (by decide) rfl ?_
    refine go_icmpNo C (pc' := 191) at_188 (by decide) rfl ?_
    refine go_iloadN C (pc' := 192) at_191 rfl rfl ?_
    refine go_bipush C (pc' := 194) at_192 (z := (21 : Int32)) (by decide) rfl ?_
    refine go_icmpYes C (pc' := 201) at_194 (by decide) (by decide) (by decide) ?_
    refine go_iconst C (pc' := 202) at_201 (z := (0 : Int32)) (by decide) rfl ?_
    refine go_istore C (pc' := 204) at_202 (Ls' := #[(.val (.int x0)), (.val (.ref b1)), (.val (.int (19 : Int32))), (.val (.ref a_PHI)), (.val (.int (0 : Int32)))]) rfl rfl ?_
    refine go_aloadN C (pc' := 205) at_204 rfl rfl rfl ?_
    refine go_callV C (pc' := 208) (y' := (⟨"com/example/tidewater/tidewater/graph/NodeKind", "isControlConsumer", "()Z"⟩ : MethodName)) (wd_51 hw) (wd_52 hw) (wd_54 hw) (wd_53 hw) (cons_PHI l Z a0 hw _ _ O24 (EnIF.ext O24.2) (EnREGION.ext O24.2) (EnLOOP.ext O24.2) (EnPHI.ext O24.2) (EnZERO_CHECK.ext O24.2) (EnRETURN.ext O24.2)) (wd_55 hw) (wd_3 hw) (by decide) (by decide) (W := 0) (Nat.le_of_ble_eq_true rfl) (by decide) (by decide) (by decide) rfl (EnPHI.2.1.ext O24.2) (argsL := []) (rest := []) pd_0 rfl rfl rfl at_205 rfl ?_
    rintro _ _ ⟨rfl, rfl⟩
    refine go_st (st' := [(.int (0 : Int32))]) rfl ?_
    refine go_iload C (pc' := 210) at_208 rfl rfl ?_
    refine go_icmpNo C (pc' := 213) at_210 (by decide) rfl ?_
    refine go_iconst C (pc' := 214) at_213 (z := (1 : Int32)) (by decide) rfl ?_
    refine go_goto C (pc' := 218) at_214 (by decide) (by decide) ?_
    exact go_retN C (by simp) (z' := (1 : Int32)) (by decide) at_218 (by decide) (by decide) rfl
  · skip
    refine go_istoreN C (pc' := 169) at_168 (Ls' := #[(.val (.int x0)), (.val (.ref b1)), (.val (.int (20 : Int32))), .unset, .unset]) rfl rfl ?_
    refine go_aloadN C (pc' := 170) at_169 rfl rfl rfl ?_
    refine go_iloadN C (pc' := 171) at_170 rfl rfl ?_
    refine go_raget C (pc' := 172) A24 rfl (by decide) (i := 20) (by decide) rfl at_171 rfl ?_
    refine go_astoreN C (pc' := 173) at_172 rfl (Ls' := #[(.val (.int x0)), (.val (.ref b1)), (.val (.int (20 : Int32))), (.val (.ref a_ZERO_CHECK)), .unset]) rfl rfl ?_
    refine go_iloadN C (pc' := 174) at_173 rfl rfl ?_
    refine go_bipush C (pc' := 176) at_174 (z := (16 : Int32)) (by decide) rfl ?_
    refine go_icmpNo C (pc' := 179) at_176 (by decide) rfl ?_
    refine go_iloadN C (pc' := 180) at_179 rfl rfl ?_
    refine go_bipush C (pc' := 182) at_180 (z := (18 : Int32)) (by decide) rfl ?_
    refine go_icmpNo C (pc' := 185) at_182 (by decide) rfl ?_
    refine go_iloadN C (pc' := 186) at_185 rfl rfl ?_
    refine go_bipush C (pc' := 188) at_186 (z := (20 : Int32)) (by decide) rfl ?_
    refine go_icmpYes C (pc' := 197) at_188 (by decide) (by decide) (by decide) ?_
    refine go_iconst C (pc' := 198) at_197 (z := (1 : Int32)) (by decide) rfl ?_
    refine go_goto C (pc' := 202) at_198 (by decide) (by decide) ?_
    refine go_istore C (pc' := 204) at_202 (Ls' := #[(.val (.int x0)), (.val (.ref b1)), (.val (.int (20 : Int32))), (.val (.ref a_ZERO_CHECK)), (.val (.int (1 : Int32)))]) rfl rfl ?_
    refine go_aloadN C (pc' := 205) at_204 rfl rfl rfl ?_
    refine go_callV C (pc' := 208) (y' := (⟨"com/example/tidewater/tidewater/graph/NodeKind", "isControlConsumer", "()Z"⟩ : MethodName)) (wd_51 hw) (wd_52 hw) (wd_54 hw) (wd_53 hw) (cons_ZERO_CHECK l Z a0 hw _ _ O24 (EnIF.ext O24.2) (EnREGION.ext O24.2) (EnLOOP.ext O24.2) (EnZERO_CHECK.ext O24.2) (EnRETURN.ext O24.2)) (wd_55 hw) (wd_3 hw) (by decide) (by decide) (W := 0) (Nat.le_of_ble_eq_true rfl) (by decide) (by decide) (by decide) rfl (EnZERO_CHECK.2.1.ext O24.2) (argsL := []) (rest := []) pd_0 rfl rfl rfl at_205 rfl ?_
    rintro _ _ ⟨rfl, rfl⟩
    refine go_st (st' := [(.int (1 : Int32))]) rfl ?_
    refine go_iload C (pc' := 210) at_208 rfl rfl ?_
    refine go_icmpNo C (pc' := 213) at_210 (by decide) rfl ?_
    refine go_iconst C (pc' := 214) at_213 (z := (1 : Int32)) (by decide) rfl ?_
    refine go_goto C (pc' := 218) at_214 (by decide) (by decide) ?_
    exact go_retN C (by simp) (z' := (1 : Int32)) (by decide) at_218 (by decide) (by decide) rfl
  · skip
    refine go_istoreN C (pc' := 169) at_168 (Ls' := #[(.val (.int x0)), (.val (.ref b1)), (.val (.int (21 : Int32))), .unset, .unset]) rfl rfl ?_
    refine go_aloadN C (pc' := 170) at_169 rfl rfl rfl ?_
    refine go_iloadN C (pc' := 171) at_170 rfl rfl ?_
    refine go_raget C (pc' := 172) A24 rfl (by decide) (i := 21) (by decide) rfl at_171 rfl ?_
    refine go_astoreN C (pc' := 173) at_172 rfl (Ls' := #[(.val (.int x0)), (.val (.ref b1)), (.val (.int (21 : Int32))), (.val (.ref a_RETURN)), .unset]) rfl rfl ?_
    refine go_iloadN C (pc' := 174) at_173 rfl rfl ?_
    refine go_bipush C (pc' := 176) at_174 (z := (16 : Int32)) (by decide) rfl ?_
    refine go_icmpNo C (pc' := 179) at_176 (by decide) rfl ?_
    refine go_iloadN C (pc' := 180) at_179 rfl rfl ?_
    refine go_bipush C (pc' := 182) at_180 (z := (18 : Int32)) (by decide) rfl ?_
    refine go_icmpNo C (pc' := 185) at_182 (by decide) rfl ?_
    refine go_iloadN C (pc' := 186) at_185 rfl rfl ?_
    refine go_bipush C (pc' := 188) at_186 (z := (20 : Int32)) (by decide) rfl ?_
    refine go_icmpNo C (pc' := 191) at_188 (by decide) rfl ?_
    refine go_iloadN C (pc' := 192) at_191 rfl rfl ?_
    refine go_bipush C (pc' := 194) at_192 (z := (21 : Int32)) (by decide) rfl ?_
    refine go_icmpNo C (pc' := 197) at_194 (by decide) rfl ?_
    refine go_iconst C (pc' := 198) at_197 (z := (1 : Int32)) (by decide) rfl ?_
    refine go_goto C (pc' := 202) at_198 (by decide) (by decide) ?_
    refine go_istore C (pc' := 204) at_202 (Ls' := #[(.val (.int x0)), (.val (.ref b1)), (.val (.int (21 : Int32))), (.val (.ref a_RETURN)), (.val (.int (1 : Int32)))]) rfl rfl ?_
    refine go_aloadN C (pc' := 205) at_204 rfl rfl rfl ?_
    refine go_callV C (pc' := 208) (y' := (⟨"com/example/tidewater/tidewater/graph/NodeKind", "isControlConsumer", "()Z"⟩ : MethodName)) (wd_51 hw) (wd_52 hw) (wd_54 hw) (wd_53 hw) (cons_RETURN l Z a0 hw _ _ O24 (EnIF.ext O24.2) (EnREGION.ext O24.2) (EnLOOP.ext O24.2) (EnZERO_CHECK.ext O24.2) (EnRETURN.ext O24.2)) (wd_55 hw) (wd_3 hw) (by decide) (by decide) (W := 0) (Nat.le_of_ble_eq_true rfl) (by decide) (by decide) (by decide) rfl (EnRETURN.2.1.ext O24.2) (argsL := []) (rest := []) pd_0 rfl rfl rfl at_205 rfl ?_
    rintro _ _ ⟨rfl, rfl⟩
    refine go_st (st' := [(.int (1 : Int32))]) rfl ?_
    refine go_iload C (pc' := 210) at_208 rfl rfl ?_
    refine go_icmpNo C (pc' := 213) at_210 (by decide) rfl ?_
    refine go_iconst C (pc' := 214) at_213 (z := (1 : Int32)) (by decide) rfl ?_
    refine go_goto C (pc' := 218) at_214 (by decide) (by decide) ?_
    exact go_retN C (by simp) (z' := (1 : Int32)) (by decide) at_218 (by decide) (by decide) rfl
  · skip
    refine go_istoreN C (pc' := 169) at_168 (Ls' := #[(.val (.int x0)), (.val (.ref b1)), (.val (.int (22 : Int32))), .unset, .unset]) rfl rfl ?_
    refine go_aloadN C (pc' := 170) at_169 rfl rfl rfl ?_
    refine go_iloadN C (pc' := 171) at_170 rfl rfl ?_
    refine go_raget C (pc' := 172) A24 rfl (by decide) (i := 22) (by decide) rfl at_171 rfl ?_
    refine go_astoreN C (pc' := 173) at_172 rfl (Ls' := #[(.val (.int x0)), (.val (.ref b1)), (.val (.int (22 : Int32))), (.val (.ref a_STOP)), .unset]) rfl rfl ?_
    refine go_iloadN C (pc' := 174) at_173 rfl rfl ?_
    refine go_bipush C (pc' := 176) at_174 (z := (16 : Int32)) (by decide) rfl ?_
    refine go_icmpNo C (pc' := 179) at_176 (by decide) rfl ?_
    refine go_iloadN C (pc' := 180) at_179 rfl rfl ?_
    refine go_bipush C (pc' := 182) at_180 (z := (18 : Int32)) (by decide) rfl ?_
    refine go_icmpNo C (pc' := 185) at_182 (by decide) rfl ?_
    refine go_iloadN C (pc' := 186) at_185 rfl rfl ?_
    refine go_bipush C (pc' := 188) at_186 (z := (20 : Int32)) (by decide) rfl ?_
    refine go_icmpNo C (pc' := 191) at_188 (by decide) rfl ?_
    refine go_iloadN C (pc' := 192) at_191 rfl rfl ?_
    refine go_bipush C (pc' := 194) at_192 (z := (21 : Int32)) (by decide) rfl ?_
    refine go_icmpYes C (pc' := 201) at_194 (by decide) (by decide) (by decide) ?_
    refine go_iconst C (pc' := 202) at_201 (z := (0 : Int32)) (by decide) rfl ?_
    refine go_istore C (pc' := 204) at_202 (Ls' := #[(.val (.int x0)), (.val (.ref b1)), (.val (.int (22 : Int32))), (.val (.ref a_STOP)), (.val (.int (0 : Int32)))]) rfl rfl ?_
    refine go_aloadN C (pc' := 205) at_204 rfl rfl rfl ?_
    refine go_callV C (pc' := 208) (y' := (⟨"com/example/tidewater/tidewater/graph/NodeKind", "isControlConsumer", "()Z"⟩ : MethodName)) (wd_51 hw) (wd_52 hw) (wd_54 hw) (wd_53 hw) (cons_STOP l Z a0 hw _ _ O24 (EnIF.ext O24.2) (EnREGION.ext O24.2) (EnLOOP.ext O24.2) (EnZERO_CHECK.ext O24.2) (EnRETURN.ext O24.2) (EnSTOP.ext O24.2)) (wd_55 hw) (wd_3 hw) (by decide) (by decide) (W := 0) (Nat.le_of_ble_eq_true rfl) (by decide) (by decide) (by decide) rfl (EnSTOP.2.1.ext O24.2) (argsL := []) (rest := []) pd_0 rfl rfl rfl at_205 rfl ?_
    rintro _ _ ⟨rfl, rfl⟩
    refine go_st (st' := [(.int (0 : Int32))]) rfl ?_
    refine go_iload C (pc' := 210) at_208 rfl rfl ?_
    refine go_icmpNo C (pc' := 213) at_210 (by decide) rfl ?_
    refine go_iconst C (pc' := 214) at_213 (z := (1 : Int32)) (by decide) rfl ?_
    refine go_goto C (pc' := 218) at_214 (by decide) (by decide) ?_
    exact go_retN C (by simp) (z' := (1 : Int32)) (by decide) at_218 (by decide) (by decide) rfl
set_option maxRecDepth 65536 in
set_option maxHeartbeats 40000000 in
theorem comes_1 {Post : Tables → Env → Array Value → State → Outcome → State → Prop} (hpost : ∀ tb e args s v u, (limb_1_1.after args s (.returned v) u = true ∧ limb_1_2.after args s (.returned v) u = true ∧ True) → FrameEnd s (.returned v) u (Jvm.fieldLocs frame_1_writes args s ++ Jvm.arrayLocs frame_1_arrays args s ++ Jvm.staticLocs frame_1_statics s) 16 128 → Post tb e args s (.returned v) u) :
    ArmFor flags0 classFile x code maxLocals ret World_1 tables_1 room_1 Calls_1 rest_1 Pre_1 Post := by
  intro l hfl _ _ p e ha hc hk s m args below hf hA hF happ hP
  obtain ⟨hcalls, hrest, hpre⟩ := hP
  obtain ⟨-, -, -, hnamed, -, -, -, hat⟩ := (Spec.applies_iff hf).mp happ
  obtain ⟨hg, hn⟩ := and_e (Cond.before_iff.mp (show (Jvm.Cond.and given_1 narrow_1).before args s = true from hpre))
  obtain ⟨hcount, g0⟩ := and_e hg
  obtain ⟨w0, rfl⟩ : ∃ w0 : Value, args = #[w0] := by
    have hs : args.size = 1 := by simpa [Cond.value, given_1] using hcount
    obtain ⟨L⟩ := args
    match L, hs with
    | [w0], _ => exact ⟨w0, rfl⟩
  have hw := fun d (hd : d ∈ tables_1) => atoms_spec (ws := Jvm.Cond.code x code maxLocals ret :: tables_1) hat d (List.mem_cons_of_mem _ hd)
  have hfit : Fit s := fun {y c} hc i hi => by
    obtain ⟨ha, rfl⟩ := Array.getElem?_eq_some_iff.mp hc
    have q := List.all_eq_true.mp ((Array.all_eq_true_iff_forall_mem.mp hF) _ (Array.getElem_mem ha)) i (List.mem_range.mpr hi)
    simpa [Array.getElem?_eq_getElem hi] using q
  obtain ⟨i0, e0⟩ := is_v g0
  obtain rfl : w0 = (.int i0) := Option.some.inj e0
  obtain ⟨q0, r0⟩ := and_e hn
  obtain ⟨q1, r1⟩ := and_e r0
  obtain ⟨q2, r2⟩ := and_e r1
  obtain ⟨q3, r3⟩ := and_e r2
  obtain ⟨q4, r4⟩ := and_e r3
  obtain ⟨q5, r5⟩ := and_e r4
  obtain ⟨q6, r6⟩ := and_e r5
  obtain ⟨q7, r7⟩ := and_e r6
  obtain ⟨q8, r8⟩ := and_e r7
  obtain ⟨q9, r9⟩ := and_e r8
  obtain ⟨q10, r10⟩ := and_e r9
  obtain ⟨q11, r11⟩ := and_e r10
  obtain ⟨q12, r12⟩ := and_e r11
  obtain ⟨q13, r13⟩ := and_e r12
  obtain ⟨q14, r14⟩ := and_e r13
  obtain ⟨q15, r15⟩ := and_e r14
  obtain ⟨q16, r16⟩ := and_e r15
  obtain ⟨q17, r17⟩ := and_e r16
  obtain ⟨q18, r18⟩ := and_e r17
  obtain ⟨q19, r19⟩ := and_e r18
  obtain ⟨q20, r20⟩ := and_e r19
  obtain ⟨q21, r21⟩ := and_e r20
  obtain ⟨q22, r22⟩ := and_e r21
  obtain ⟨q23, r23⟩ := and_e r22
  obtain ⟨q24, r24⟩ := and_e r23
  obtain ⟨q25, r25⟩ := and_e r24
  obtain ⟨q26, r26⟩ := and_e r25
  obtain ⟨q27, r27⟩ := and_e r26
  obtain ⟨q28, r28⟩ := and_e r27
  obtain ⟨q29, r29⟩ := and_e r28
  obtain ⟨q30, r30⟩ := and_e r29
  obtain ⟨q31, r31⟩ := and_e r30
  obtain ⟨q32, r32⟩ := and_e r31
  obtain ⟨q33, r33⟩ := and_e r32
  obtain ⟨q34, r34⟩ := and_e r33
  obtain ⟨q35, r35⟩ := and_e r34
  obtain ⟨q36, r36⟩ := and_e r35
  obtain ⟨q37, r37⟩ := and_e r36
  obtain ⟨q38, r38⟩ := and_e r37
  obtain ⟨q39, r39⟩ := and_e r38
  obtain ⟨q40, r40⟩ := and_e r39
  obtain ⟨q41, r41⟩ := and_e r40
  obtain ⟨q42, r42⟩ := and_e r41
  obtain ⟨q43, r43⟩ := and_e r42
  obtain ⟨q44, r44⟩ := and_e r43
  have q45 := r44
  obtain ⟨a_START, v_START⟩ := exa_v q0
  have EnSTART : En_START s s.heap a_START := ⟨Sta.start v_START (Or.inr ⟨(wd_3 hw), (wd_4 hw)⟩), Exa.start v_START q0, Fld.start ((fld_at v_START).symm.trans (own_eqI q23))⟩
  obtain ⟨a_PROJ, v_PROJ⟩ := exa_v q1
  have EnPROJ : En_PROJ s s.heap a_PROJ := ⟨Sta.start v_PROJ (Or.inr ⟨(wd_3 hw), (wd_7 hw)⟩), Exa.start v_PROJ q1, Fld.start ((fld_at v_PROJ).symm.trans (own_eqI q37))⟩
  obtain ⟨a_CONSTANT, v_CONSTANT⟩ := exa_v q2
  have EnCONSTANT : En_CONSTANT s s.heap a_CONSTANT := ⟨Sta.start v_CONSTANT (Or.inr ⟨(wd_3 hw), (wd_9 hw)⟩), Exa.start v_CONSTANT q2, Fld.start ((fld_at v_CONSTANT).symm.trans (own_eqI q34))⟩
  obtain ⟨a_ADD, v_ADD⟩ := exa_v q3
  have EnADD : En_ADD s s.heap a_ADD := ⟨Sta.start v_ADD (Or.inr ⟨(wd_3 hw), (wd_11 hw)⟩), Exa.start v_ADD q3, Fld.start ((fld_at v_ADD).symm.trans (own_eqI q29))⟩
  obtain ⟨a_SUB, v_SUB⟩ := exa_v q4
  have EnSUB : En_SUB s s.heap a_SUB := ⟨Sta.start v_SUB (Or.inr ⟨(wd_3 hw), (wd_13 hw)⟩), Exa.start v_SUB q4, Fld.start ((fld_at v_SUB).symm.trans (own_eqI q35))⟩
  obtain ⟨a_MUL, v_MUL⟩ := exa_v q5
  have EnMUL : En_MUL s s.heap a_MUL := ⟨Sta.start v_MUL (Or.inr ⟨(wd_3 hw), (wd_15 hw)⟩), Exa.start v_MUL q5, Fld.start ((fld_at v_MUL).symm.trans (own_eqI q32))⟩
  obtain ⟨a_DIV, v_DIV⟩ := exa_v q6
  have EnDIV : En_DIV s s.heap a_DIV := ⟨Sta.start v_DIV (Or.inr ⟨(wd_3 hw), (wd_17 hw)⟩), Exa.start v_DIV q6, Fld.start ((fld_at v_DIV).symm.trans (own_eqI q44))⟩
  obtain ⟨a_MOD, v_MOD⟩ := exa_v q7
  have EnMOD : En_MOD s s.heap a_MOD := ⟨Sta.start v_MOD (Or.inr ⟨(wd_3 hw), (wd_19 hw)⟩), Exa.start v_MOD q7, Fld.start ((fld_at v_MOD).symm.trans (own_eqI q33))⟩
  obtain ⟨a_NEG, v_NEG⟩ := exa_v q8
  have EnNEG : En_NEG s s.heap a_NEG := ⟨Sta.start v_NEG (Or.inr ⟨(wd_3 hw), (wd_21 hw)⟩), Exa.start v_NEG q8, Fld.start ((fld_at v_NEG).symm.trans (own_eqI q36))⟩
  obtain ⟨a_NOT, v_NOT⟩ := exa_v q9
  have EnNOT : En_NOT s s.heap a_NOT := ⟨Sta.start v_NOT (Or.inr ⟨(wd_3 hw), (wd_23 hw)⟩), Exa.start v_NOT q9, Fld.start ((fld_at v_NOT).symm.trans (own_eqI q39))⟩
  obtain ⟨a_EQ, v_EQ⟩ := exa_v q10
  have EnEQ : En_EQ s s.heap a_EQ := ⟨Sta.start v_EQ (Or.inr ⟨(wd_3 hw), (wd_25 hw)⟩), Exa.start v_EQ q10, Fld.start ((fld_at v_EQ).symm.trans (own_eqI q38))⟩
  obtain ⟨a_NE, v_NE⟩ := exa_v q11
  have EnNE : En_NE s s.heap a_NE := ⟨Sta.start v_NE (Or.inr ⟨(wd_3 hw), (wd_27 hw)⟩), Exa.start v_NE q11, Fld.start ((fld_at v_NE).symm.trans (own_eqI q30))⟩
  obtain ⟨a_LT, v_LT⟩ := exa_v q12
  have EnLT : En_LT s s.heap a_LT := ⟨Sta.start v_LT (Or.inr ⟨(wd_3 hw), (wd_29 hw)⟩), Exa.start v_LT q12, Fld.start ((fld_at v_LT).symm.trans (own_eqI q31))⟩
  obtain ⟨a_LE, v_LE⟩ := exa_v q13
  have EnLE : En_LE s s.heap a_LE := ⟨Sta.start v_LE (Or.inr ⟨(wd_3 hw), (wd_31 hw)⟩), Exa.start v_LE q13, Fld.start ((fld_at v_LE).symm.trans (own_eqI q45))⟩
  obtain ⟨a_GT, v_GT⟩ := exa_v q14
  have EnGT : En_GT s s.heap a_GT := ⟨Sta.start v_GT (Or.inr ⟨(wd_3 hw), (wd_33 hw)⟩), Exa.start v_GT q14, Fld.start ((fld_at v_GT).symm.trans (own_eqI q43))⟩
  obtain ⟨a_GE, v_GE⟩ := exa_v q15
  have EnGE : En_GE s s.heap a_GE := ⟨Sta.start v_GE (Or.inr ⟨(wd_3 hw), (wd_35 hw)⟩), Exa.start v_GE q15, Fld.start ((fld_at v_GE).symm.trans (own_eqI q42))⟩
  obtain ⟨a_IF, v_IF⟩ := exa_v q16
  have EnIF : En_IF s s.heap a_IF := ⟨Sta.start v_IF (Or.inr ⟨(wd_3 hw), (wd_37 hw)⟩), Exa.start v_IF q16, Fld.start ((fld_at v_IF).symm.trans (own_eqI q24))⟩
  obtain ⟨a_REGION, v_REGION⟩ := exa_v q17
  have EnREGION : En_REGION s s.heap a_REGION := ⟨Sta.start v_REGION (Or.inr ⟨(wd_3 hw), (wd_39 hw)⟩), Exa.start v_REGION q17, Fld.start ((fld_at v_REGION).symm.trans (own_eqI q27))⟩
  obtain ⟨a_LOOP, v_LOOP⟩ := exa_v q18
  have EnLOOP : En_LOOP s s.heap a_LOOP := ⟨Sta.start v_LOOP (Or.inr ⟨(wd_3 hw), (wd_41 hw)⟩), Exa.start v_LOOP q18, Fld.start ((fld_at v_LOOP).symm.trans (own_eqI q28))⟩
  obtain ⟨a_PHI, v_PHI⟩ := exa_v q19
  have EnPHI : En_PHI s s.heap a_PHI := ⟨Sta.start v_PHI (Or.inr ⟨(wd_3 hw), (wd_43 hw)⟩), Exa.start v_PHI q19, Fld.start ((fld_at v_PHI).symm.trans (own_eqI q41))⟩
  obtain ⟨a_ZERO_CHECK, v_ZERO_CHECK⟩ := exa_v q20
  have EnZERO_CHECK : En_ZERO_CHECK s s.heap a_ZERO_CHECK := ⟨Sta.start v_ZERO_CHECK (Or.inr ⟨(wd_3 hw), (wd_45 hw)⟩), Exa.start v_ZERO_CHECK q20, Fld.start ((fld_at v_ZERO_CHECK).symm.trans (own_eqI q26))⟩
  obtain ⟨a_RETURN, v_RETURN⟩ := exa_v q21
  have EnRETURN : En_RETURN s s.heap a_RETURN := ⟨Sta.start v_RETURN (Or.inr ⟨(wd_3 hw), (wd_47 hw)⟩), Exa.start v_RETURN q21, Fld.start ((fld_at v_RETURN).symm.trans (own_eqI q25))⟩
  obtain ⟨a_STOP, v_STOP⟩ := exa_v q22
  have EnSTOP : En_STOP s s.heap a_STOP := ⟨Sta.start v_STOP (Or.inr ⟨(wd_3 hw), (wd_49 hw)⟩), Exa.start v_STOP q22, Fld.start ((fld_at v_STOP).symm.trans (own_eqI q40))⟩
  obtain ⟨n, o, h1, h2, h3, _, L, rfl, ⟨N, -, rfl⟩, hq⟩ := law_met l s _ hw i0 EnSTART EnPROJ EnCONSTANT EnADD EnSUB EnMUL EnDIV EnMOD EnNEG EnNOT EnEQ EnNE EnLT EnLE EnGT EnGE EnIF EnREGION EnLOOP EnPHI EnZERO_CHECK EnRETURN EnSTOP  p e ha hc hk s m _ below hf ((Spec.applies_iff_loose hf).mp happ).1 ⟨rfl, State.Warmed39.refl s, rfl⟩ trivial
  exact ⟨n, _, h1, h2, h3, hpost _ _ _ _ _ _ ⟨Cond.after_iff.mpr rfl, Cond.after_iff.mpr (eq_i res_at (Term.int_eval (1)) rfl), trivial⟩ ⟨hq.1, hq.2.1, (hq.2.2.sift fun y hy => Or.inr (N y hy)).mono (by decide) (by decide)⟩⟩
theorem main_1_1 : Claimed_1_1 := comes_1 fun _ _ _ _ _ _ h hF => ⟨h.1, hF⟩
theorem main_1_2 : Claimed_1_2 := comes_1 fun _ _ _ _ _ _ h hF => ⟨h.2.1, hF⟩
end Jvm.Pilot.@@N@@
namespace Jvm.Pilot.@@N@@
open Jvm Jvm.ClassFile Sem Op Lib Jvm.Free Jvm.Stand Jvm.Pilot.@@N@@.Jvm.D
/-! MADE BY PROGRAM (witnessworld.py) out of the Statement's table words and the real class files: 13 classes; the members and pool entries that the words name. The judged class is class 1, her method 1. -/
namespace start1
open Jvm.ClassFile
def u (s : String) : CpInfo := .utf8 (stringToUtf16 s)
/-- a pool by its gaps: so many unusable entries, then the entry; so many at the end -/
def gap : Nat → List CpInfo → List CpInfo
  | 0, r => r
  | n + 1, r => .unusable :: gap n r
def poolList (es : List (Nat × CpInfo)) (last : Nat) : List CpInfo := es.foldr (fun e r => gap e.1 (e.2 :: r)) (gap last [])
def pool (es : List (Nat × CpInfo)) (last : Nat) : Array CpInfo := ⟨poolList es last⟩
def fileOf (pool : Array CpInfo) (this : Nat) (attrs : Array Attribute := #[]) (ms : Array MethodInfo := #[]) (fl : Nat := 33) (sup : Nat := 0) (ifs : Array Nat := #[]) (fds : Array FieldInfo := #[]) : ClassFile where
  minorVersion := 0
  majorVersion := 65
  constantPool := pool
  accessFlags := fl
  thisClass := this
  superClass := sup
  interfaces := ifs
  fields := fds
  methods := ms
  attributes := attrs
def plain (name : String) (sup : Option ClassId) : Class where
  name := name
  kind := .ordinary
  loader := none
  accessFlags := 33
  super := sup
  interfaces := #[]
  cf := none
  fields := #[]
  methods := #[]
  instanceTypes := #[]
  staticTypes := #[]
  resolved := #[]
  callSites := []
  init := .initialized
  statics := none
  mirror := none

def pool0 : Array CpInfo := pool [(5, u "<init>"), (0, u "()V"), (1, .class_ 10), (1, u "java/lang/Object")] 113

def k0m0 : Method := { name := "<init>", desc := "()V", sig := { parameters := [], returnType := none }, accessFlags := 1, code := none }
/-- java/lang/Object -/
def k0 : Class := { plain "java/lang/Object" none with
  accessFlags := 33
  interfaces := #[]
  cf := some (fileOf pool0 8 #[] #[{ accessFlags := 1, nameIndex := 5, descriptorIndex := 6, attributes := #[] }] 33 0 #[] #[])
  fields := #[]
  methods := #[k0m0]
  instanceTypes := #[]
  staticTypes := #[]
  resolved := Array.replicate 124 none
  statics := none }

def pool1 : Array CpInfo := pool [(2, .class_ 4), (1, u "java/lang/Object"), (0, u "<init>"), (0, u "()V"), (0, .class_ 8), (0, u "com/example/tidewater/tidewater/graph/NodeKind"), (0, .fieldref 7 10), (0, .nameAndType 11 12), (0, u "START"), (0, u "Lcom/example/tidewater/tidewater/graph/NodeKind;"), (0, .fieldref 7 14), (0, .nameAndType 15 12), (0, u "PROJ"), (0, .fieldref 7 17), (0, .nameAndType 18 12), (0, u "CONSTANT"), (0, .fieldref 7 20), (0, .nameAndType 21 12), (0, u "ADD"), (0, .fieldref 7 23), (0, .nameAndType 24 12), (0, u "SUB"), (0, .fieldref 7 26), (0, .nameAndType 27 12), (0, u "MUL"), (0, .fieldref 7 29), (0, .nameAndType 30 12), (0, u "DIV"), (0, .fieldref 7 32), (0, .nameAndType 33 12), (0, u "MOD"), (0, .fieldref 7 35), (0, .nameAndType 36 12), (0, u "NEG"), (0, .fieldref 7 38), (0, .nameAndType 39 12), (0, u "NOT"), (0, .fieldref 7 41), (0, .nameAndType 42 12), (0, u "EQ"), (0, .fieldref 7 44), (0, .nameAndType 45 12), (0, u "NE"), (0, .fieldref 7 47), (0, .nameAndType 48 12), (0, u "LT"), (0, .fieldref 7 50), (0, .nameAndType 51 12), (0, u "LE"), (0, .fieldref 7 53), (0, .nameAndType 54 12), (0, u "GT"), (0, .fieldref 7 56), (0, .nameAndType 57 12), (0, u "GE"), (0, .fieldref 7 59), (0, .nameAndType 60 12), (0, u "IF"), (0, .fieldref 7 62), (0, .nameAndType 63 12), (0, u "REGION"), (0, .fieldref 7 65), (0, .nameAndType 66 12), (0, u "LOOP"), (0, .fieldref 7 68), (0, .nameAndType 69 12), (0, u "PHI"), (0, .fieldref 7 71), (0, .nameAndType 72 12), (0, u "ZERO_CHECK"), (0, .fieldref 7 74), (0, .nameAndType 75 12), (0, u "RETURN"), (0, .fieldref 7 77), (0, .nameAndType 78 12), (0, u "STOP"), (0, .integer 2147483647), (0, .methodref 7 81), (0, .nameAndType 82 83), (0, u "isControlConsumer"), (0, u "()Z"), (0, .class_ 85), (0, u "com/example/tidewater/tidewater/graph/NodeKindIsControlConsumerPinLaw"), (2, u "law"), (0, u "(I)Z")] 5

def k1m0 : Method := { name := "<init>", desc := "()V", sig := { parameters := [], returnType := none }, accessFlags := 2, code := none }
def k1c1 : Code := { maxStack := 4, maxLocals := 5, code := code, exceptionTable := #[], attributes := #[] }
def k1m1 : Method := { name := "law", desc := "(I)Z", sig := { parameters := [.int], returnType := some .boolean }, accessFlags := 9, code := some k1c1 }
/-- com/example/tidewater/tidewater/graph/NodeKindIsControlConsumerPinLaw -/
def k1 : Class := { plain "com/example/tidewater/tidewater/graph/NodeKindIsControlConsumerPinLaw" (some 0) with
  accessFlags := 49
  interfaces := #[]
  cf := some (fileOf pool1 84 #[] #[{ accessFlags := 2, nameIndex := 5, descriptorIndex := 6, attributes := #[] }, { accessFlags := 9, nameIndex := 88, descriptorIndex := 89, attributes := #[] }] 49 2 #[] #[])
  fields := #[]
  methods := #[k1m0, k1m1]
  instanceTypes := #[]
  staticTypes := #[]
  resolved := Array.replicate 95 none
  statics := none }

def pool2 : Array CpInfo := pool [(1, .class_ 2), (0, u "java/lang/constant/Constable"), (0, .class_ 4), (0, u "java/lang/Object")] 6

/-- java/lang/constant/Constable -/
def k2 : Class := { plain "java/lang/constant/Constable" (some 0) with
  accessFlags := 1537
  interfaces := #[]
  cf := some (fileOf pool2 1 #[] #[] 1537 3 #[] #[])
  fields := #[]
  methods := #[]
  instanceTypes := #[]
  staticTypes := #[]
  resolved := Array.replicate 11 none
  statics := none }

def pool3 : Array CpInfo := pool [(1, .class_ 2), (0, u "java/lang/Comparable"), (0, .class_ 4), (0, u "java/lang/Object")] 7

/-- java/lang/Comparable -/
def k3 : Class := { plain "java/lang/Comparable" (some 0) with
  accessFlags := 1537
  interfaces := #[]
  cf := some (fileOf pool3 1 #[] #[] 1537 3 #[] #[])
  fields := #[]
  methods := #[]
  instanceTypes := #[]
  staticTypes := #[]
  resolved := Array.replicate 12 none
  statics := none }

def pool4 : Array CpInfo := pool [(1, .class_ 2), (0, u "java/io/Serializable"), (0, .class_ 4), (0, u "java/lang/Object")] 2

/-- java/io/Serializable -/
def k4 : Class := { plain "java/io/Serializable" (some 0) with
  accessFlags := 1537
  interfaces := #[]
  cf := some (fileOf pool4 1 #[] #[] 1537 3 #[] #[])
  fields := #[]
  methods := #[]
  instanceTypes := #[]
  staticTypes := #[]
  resolved := Array.replicate 7 none
  statics := none }

def pool5 : Array CpInfo := pool [(2, .class_ 4), (1, u "java/lang/Enum"), (0, u "name"), (0, u "Ljava/lang/String;"), (2, u "ordinal"), (0, u "I"), (1, .class_ 14), (1, u "java/lang/Object"), (4, u "hash"), (86, .class_ 108), (1, u "java/lang/Enum$EnumDesc"), (2, .class_ 112), (0, u "java/lang/constant/Constable"), (0, .class_ 114), (0, u "java/lang/Comparable"), (0, .class_ 116), (0, u "java/io/Serializable")] 87

/-- java/lang/Enum -/
def k5 : Class := { plain "java/lang/Enum" (some 0) with
  accessFlags := 1057
  interfaces := #[2, 3, 4]
  cf := some (fileOf pool5 2 #[.nestMembers #[106]] #[] 1057 12 #[111, 113, 115] #[{ accessFlags := 18, nameIndex := 5, descriptorIndex := 6, attributes := #[] }, { accessFlags := 18, nameIndex := 9, descriptorIndex := 10, attributes := #[] }, { accessFlags := 2, nameIndex := 19, descriptorIndex := 10, attributes := #[] }])
  fields := #[{ name := "name", type := (.object "java/lang/String"), accessFlags := 18, slot := 0, constantValue := 0 }, { name := "ordinal", type := .int, accessFlags := 18, slot := 1, constantValue := 0 }, { name := "hash", type := .int, accessFlags := 2, slot := 2, constantValue := 0 }]
  methods := #[]
  instanceTypes := #[(.object "java/lang/String"), .int, .int]
  staticTypes := #[]
  resolved := Array.replicate 204 none
  statics := none }

def pool6 : Array CpInfo := pool [(1, .class_ 2), (0, u "com/example/tidewater/tidewater/graph/NodeKind"), (2, u "START"), (0, u "Lcom/example/tidewater/tidewater/graph/NodeKind;"), (2, u "PROJ"), (2, u "CONSTANT"), (2, u "ADD"), (2, u "SUB"), (2, u "MUL"), (2, u "DIV"), (2, u "MOD"), (2, u "NEG"), (2, u "NOT"), (2, u "EQ"), (2, u "NE"), (2, u "LT"), (2, u "LE"), (2, u "GT"), (2, u "GE"), (0, .fieldref 1 53), (0, .nameAndType 54 6), (0, u "IF"), (0, .fieldref 1 56), (0, .nameAndType 57 6), (0, u "REGION"), (0, .fieldref 1 59), (0, .nameAndType 60 6), (0, u "LOOP"), (2, u "PHI"), (0, .fieldref 1 65), (0, .nameAndType 66 6), (0, u "ZERO_CHECK"), (0, .fieldref 1 68), (0, .nameAndType 69 6), (0, u "RETURN"), (2, u "STOP"), (2, u "$VALUES"), (0, u "[Lcom/example/tidewater/tidewater/graph/NodeKind;"), (6, .class_ 85), (1, u "java/lang/Enum"), (8, u "name"), (0, u "Ljava/lang/String;"), (2, u "symbol"), (2, u "controlInputs"), (0, u "I"), (2, u "operands"), (118, u "ANY"), (15, u "()Z"), (4, u "isControlConsumer")] 26

def k6c0 : Code := { maxStack := 2, maxLocals := 1, code := prog_21_method_12_code, exceptionTable := #[], attributes := #[] }
def k6m0 : Method := { name := "isControlConsumer", desc := "()Z", sig := { parameters := [], returnType := some .boolean }, accessFlags := 1, code := some k6c0 }
/-- com/example/tidewater/tidewater/graph/NodeKind -/
def k6 : Class := { plain "com/example/tidewater/tidewater/graph/NodeKind" (some 5) with
  accessFlags := 16433
  interfaces := #[]
  cf := some (fileOf pool6 1 #[] #[{ accessFlags := 1, nameIndex := 245, descriptorIndex := 240, attributes := #[] }] 16433 83 #[] #[{ accessFlags := 16409, nameIndex := 5, descriptorIndex := 6, attributes := #[] }, { accessFlags := 16409, nameIndex := 9, descriptorIndex := 6, attributes := #[] }, { accessFlags := 16409, nameIndex := 12, descriptorIndex := 6, attributes := #[] }, { accessFlags := 16409, nameIndex := 15, descriptorIndex := 6, attributes := #[] }, { accessFlags := 16409, nameIndex := 18, descriptorIndex := 6, attributes := #[] }, { accessFlags := 16409, nameIndex := 21, descriptorIndex := 6, attributes := #[] }, { accessFlags := 16409, nameIndex := 24, descriptorIndex := 6, attributes := #[] }, { accessFlags := 16409, nameIndex := 27, descriptorIndex := 6, attributes := #[] }, { accessFlags := 16409, nameIndex := 30, descriptorIndex := 6, attributes := #[] }, { accessFlags := 16409, nameIndex := 33, descriptorIndex := 6, attributes := #[] }, { accessFlags := 16409, nameIndex := 36, descriptorIndex := 6, attributes := #[] }, { accessFlags := 16409, nameIndex := 39, descriptorIndex := 6, attributes := #[] }, { accessFlags := 16409, nameIndex := 42, descriptorIndex := 6, attributes := #[] }, { accessFlags := 16409, nameIndex := 45, descriptorIndex := 6, attributes := #[] }, { accessFlags := 16409, nameIndex := 48, descriptorIndex := 6, attributes := #[] }, { accessFlags := 16409, nameIndex := 51, descriptorIndex := 6, attributes := #[] }, { accessFlags := 16409, nameIndex := 54, descriptorIndex := 6, attributes := #[] }, { accessFlags := 16409, nameIndex := 57, descriptorIndex := 6, attributes := #[] }, { accessFlags := 16409, nameIndex := 60, descriptorIndex := 6, attributes := #[] }, { accessFlags := 16409, nameIndex := 63, descriptorIndex := 6, attributes := #[] }, { accessFlags := 16409, nameIndex := 66, descriptorIndex := 6, attributes := #[] }, { accessFlags := 16409, nameIndex := 69, descriptorIndex := 6, attributes := #[] }, { accessFlags := 16409, nameIndex := 72, descriptorIndex := 6, attributes := #[] }, { accessFlags := 25, nameIndex := 224, descriptorIndex := 102, attributes := #[] }, { accessFlags := 18, nameIndex := 94, descriptorIndex := 95, attributes := #[] }, { accessFlags := 18, nameIndex := 98, descriptorIndex := 95, attributes := #[] }, { accessFlags := 18, nameIndex := 101, descriptorIndex := 102, attributes := #[] }, { accessFlags := 18, nameIndex := 105, descriptorIndex := 102, attributes := #[] }, { accessFlags := 4122, nameIndex := 75, descriptorIndex := 76, attributes := #[] }])
  fields := #[{ name := "START", type := (.object "com/example/tidewater/tidewater/graph/NodeKind"), accessFlags := 16409, slot := 0, constantValue := 0 }, { name := "PROJ", type := (.object "com/example/tidewater/tidewater/graph/NodeKind"), accessFlags := 16409, slot := 1, constantValue := 0 }, { name := "CONSTANT", type := (.object "com/example/tidewater/tidewater/graph/NodeKind"), accessFlags := 16409, slot := 2, constantValue := 0 }, { name := "ADD", type := (.object "com/example/tidewater/tidewater/graph/NodeKind"), accessFlags := 16409, slot := 3, constantValue := 0 }, { name := "SUB", type := (.object "com/example/tidewater/tidewater/graph/NodeKind"), accessFlags := 16409, slot := 4, constantValue := 0 }, { name := "MUL", type := (.object "com/example/tidewater/tidewater/graph/NodeKind"), accessFlags := 16409, slot := 5, constantValue := 0 }, { name := "DIV", type := (.object "com/example/tidewater/tidewater/graph/NodeKind"), accessFlags := 16409, slot := 6, constantValue := 0 }, { name := "MOD", type := (.object "com/example/tidewater/tidewater/graph/NodeKind"), accessFlags := 16409, slot := 7, constantValue := 0 }, { name := "NEG", type := (.object "com/example/tidewater/tidewater/graph/NodeKind"), accessFlags := 16409, slot := 8, constantValue := 0 }, { name := "NOT", type := (.object "com/example/tidewater/tidewater/graph/NodeKind"), accessFlags := 16409, slot := 9, constantValue := 0 }, { name := "EQ", type := (.object "com/example/tidewater/tidewater/graph/NodeKind"), accessFlags := 16409, slot := 10, constantValue := 0 }, { name := "NE", type := (.object "com/example/tidewater/tidewater/graph/NodeKind"), accessFlags := 16409, slot := 11, constantValue := 0 }, { name := "LT", type := (.object "com/example/tidewater/tidewater/graph/NodeKind"), accessFlags := 16409, slot := 12, constantValue := 0 }, { name := "LE", type := (.object "com/example/tidewater/tidewater/graph/NodeKind"), accessFlags := 16409, slot := 13, constantValue := 0 }, { name := "GT", type := (.object "com/example/tidewater/tidewater/graph/NodeKind"), accessFlags := 16409, slot := 14, constantValue := 0 }, { name := "GE", type := (.object "com/example/tidewater/tidewater/graph/NodeKind"), accessFlags := 16409, slot := 15, constantValue := 0 }, { name := "IF", type := (.object "com/example/tidewater/tidewater/graph/NodeKind"), accessFlags := 16409, slot := 16, constantValue := 0 }, { name := "REGION", type := (.object "com/example/tidewater/tidewater/graph/NodeKind"), accessFlags := 16409, slot := 17, constantValue := 0 }, { name := "LOOP", type := (.object "com/example/tidewater/tidewater/graph/NodeKind"), accessFlags := 16409, slot := 18, constantValue := 0 }, { name := "PHI", type := (.object "com/example/tidewater/tidewater/graph/NodeKind"), accessFlags := 16409, slot := 19, constantValue := 0 }, { name := "ZERO_CHECK", type := (.object "com/example/tidewater/tidewater/graph/NodeKind"), accessFlags := 16409, slot := 20, constantValue := 0 }, { name := "RETURN", type := (.object "com/example/tidewater/tidewater/graph/NodeKind"), accessFlags := 16409, slot := 21, constantValue := 0 }, { name := "STOP", type := (.object "com/example/tidewater/tidewater/graph/NodeKind"), accessFlags := 16409, slot := 22, constantValue := 0 }, { name := "ANY", type := .int, accessFlags := 25, slot := 23, constantValue := 0 }, { name := "name", type := (.object "java/lang/String"), accessFlags := 18, slot := 3, constantValue := 0 }, { name := "symbol", type := (.object "java/lang/String"), accessFlags := 18, slot := 4, constantValue := 0 }, { name := "controlInputs", type := .int, accessFlags := 18, slot := 5, constantValue := 0 }, { name := "operands", type := .int, accessFlags := 18, slot := 6, constantValue := 0 }, { name := "$VALUES", type := (.array (.object "com/example/tidewater/tidewater/graph/NodeKind")), accessFlags := 4122, slot := 24, constantValue := 0 }]
  methods := #[k6m0]
  instanceTypes := #[(.object "java/lang/String"), .int, .int, (.object "java/lang/String"), (.object "java/lang/String"), .int, .int]
  staticTypes := #[(.object "com/example/tidewater/tidewater/graph/NodeKind"), (.object "com/example/tidewater/tidewater/graph/NodeKind"), (.object "com/example/tidewater/tidewater/graph/NodeKind"), (.object "com/example/tidewater/tidewater/graph/NodeKind"), (.object "com/example/tidewater/tidewater/graph/NodeKind"), (.object "com/example/tidewater/tidewater/graph/NodeKind"), (.object "com/example/tidewater/tidewater/graph/NodeKind"), (.object "com/example/tidewater/tidewater/graph/NodeKind"), (.object "com/example/tidewater/tidewater/graph/NodeKind"), (.object "com/example/tidewater/tidewater/graph/NodeKind"), (.object "com/example/tidewater/tidewater/graph/NodeKind"), (.object "com/example/tidewater/tidewater/graph/NodeKind"), (.object "com/example/tidewater/tidewater/graph/NodeKind"), (.object "com/example/tidewater/tidewater/graph/NodeKind"), (.object "com/example/tidewater/tidewater/graph/NodeKind"), (.object "com/example/tidewater/tidewater/graph/NodeKind"), (.object "com/example/tidewater/tidewater/graph/NodeKind"), (.object "com/example/tidewater/tidewater/graph/NodeKind"), (.object "com/example/tidewater/tidewater/graph/NodeKind"), (.object "com/example/tidewater/tidewater/graph/NodeKind"), (.object "com/example/tidewater/tidewater/graph/NodeKind"), (.object "com/example/tidewater/tidewater/graph/NodeKind"), (.object "com/example/tidewater/tidewater/graph/NodeKind"), .int, (.array (.object "com/example/tidewater/tidewater/graph/NodeKind"))]
  resolved := Array.replicate 272 none
  statics := some 0 }

def pool7 : Array CpInfo := pool [(1, u "java/lang/Cloneable"), (0, .class_ 1), (0, u "java/lang/Object"), (0, .class_ 3)] 3

/-- java/lang/Cloneable -/
def k7 : Class := { plain "java/lang/Cloneable" (some 0) with
  accessFlags := 1537
  interfaces := #[]
  cf := some (fileOf pool7 2 #[] #[] 1537 4 #[] #[])
  fields := #[]
  methods := #[]
  instanceTypes := #[]
  staticTypes := #[]
  resolved := Array.replicate 8 none
  statics := none }

/-- the primitive byte -/
def k8 : Class := { plain "byte" none with kind := .primitive 'B', accessFlags := 0x411 }
/-- [B -/
def k9 : Class := { plain "[B" (some 0) with kind := .array 8 .byte, interfaces := #[7, 4], accessFlags := 1041 }

/-- the primitive int -/
def k10 : Class := { plain "int" none with kind := .primitive 'I', accessFlags := 0x411 }
/-- [I -/
def k11 : Class := { plain "[I" (some 0) with kind := .array 10 .int, interfaces := #[7, 4], accessFlags := 1041 }

/-- [Lcom/example/tidewater/tidewater/graph/NodeKind; -/
def k12 : Class := { plain "[Lcom/example/tidewater/tidewater/graph/NodeKind;" (some 0) with kind := .array 6 (.object "com/example/tidewater/tidewater/graph/NodeKind"), interfaces := #[7, 4], accessFlags := 1041 }

def heap : Heap := #[{ cls := 6, slots := #[.ref 1, .ref 2, .ref 3, .ref 4, .ref 5, .ref 6, .ref 7, .ref 8, .ref 9, .ref 10, .ref 11, .ref 12, .ref 13, .ref 14, .ref 15, .ref 16, .ref 17, .ref 18, .ref 19, .ref 20, .ref 21, .ref 22, .ref 23, .int 0, .null], vm := .statics 6 },
  { cls := 6, slots := #[.null, .int 0, .int 0, .null, .null, .int 0, .int 0], vm := .none },
  { cls := 6, slots := #[.null, .int 1, .int 0, .null, .null, .int 0, .int 0], vm := .none },
  { cls := 6, slots := #[.null, .int 2, .int 0, .null, .null, .int 0, .int 0], vm := .none },
  { cls := 6, slots := #[.null, .int 3, .int 0, .null, .null, .int 0, .int 0], vm := .none },
  { cls := 6, slots := #[.null, .int 4, .int 0, .null, .null, .int 0, .int 0], vm := .none },
  { cls := 6, slots := #[.null, .int 5, .int 0, .null, .null, .int 0, .int 0], vm := .none },
  { cls := 6, slots := #[.null, .int 6, .int 0, .null, .null, .int 0, .int 0], vm := .none },
  { cls := 6, slots := #[.null, .int 7, .int 0, .null, .null, .int 0, .int 0], vm := .none },
  { cls := 6, slots := #[.null, .int 8, .int 0, .null, .null, .int 0, .int 0], vm := .none },
  { cls := 6, slots := #[.null, .int 9, .int 0, .null, .null, .int 0, .int 0], vm := .none },
  { cls := 6, slots := #[.null, .int 10, .int 0, .null, .null, .int 0, .int 0], vm := .none },
  { cls := 6, slots := #[.null, .int 11, .int 0, .null, .null, .int 0, .int 0], vm := .none },
  { cls := 6, slots := #[.null, .int 12, .int 0, .null, .null, .int 0, .int 0], vm := .none },
  { cls := 6, slots := #[.null, .int 13, .int 0, .null, .null, .int 0, .int 0], vm := .none },
  { cls := 6, slots := #[.null, .int 14, .int 0, .null, .null, .int 0, .int 0], vm := .none },
  { cls := 6, slots := #[.null, .int 15, .int 0, .null, .null, .int 0, .int 0], vm := .none },
  { cls := 6, slots := #[.null, .int 16, .int 0, .null, .null, .int 0, .int 0], vm := .none },
  { cls := 6, slots := #[.null, .int 17, .int 0, .null, .null, .int 0, .int 0], vm := .none },
  { cls := 6, slots := #[.null, .int 18, .int 0, .null, .null, .int 0, .int 0], vm := .none },
  { cls := 6, slots := #[.null, .int 19, .int 0, .null, .null, .int 0, .int 0], vm := .none },
  { cls := 6, slots := #[.null, .int 20, .int 0, .null, .null, .int 0, .int 0], vm := .none },
  { cls := 6, slots := #[.null, .int 21, .int 0, .null, .null, .int 0, .int 0], vm := .none },
  { cls := 6, slots := #[.null, .int 22, .int 0, .null, .null, .int 0, .int 0], vm := .none }]
def classes : Array Class := #[k0, k1, k2, k3, k4, k5, k6, k7, k8, k9, k10, k11, k12]
def interned : List (Array UInt16 × Addr) := []
def slotsUsed : Nat := 186
def theMethod : MethodId := ⟨1, 1⟩
def args0 : Array Value := #[.int 3]
def aboutOver (below : List Frame) : State where
  vm := { classes := classes, interned := interned.toArray }
  heap := heap
  slotsUsed := slotsUsed
  threads := #[{ frames := .invoking theMethod args0 :: below }]
def below0 : List Frame := [.native { method := ⟨0, 0⟩, args := #[] }]
def about1 : State := aboutOver below0
def p0 : Program := .bare "" "" ""
def e0 : Env := launch0.env 0 0 0
theorem w_frames : about1.frames = Frame.invoking theMethod args0 :: below0 := rfl
set_option maxRecDepth 65536 in
theorem w_args : argsFit about1.vm theMethod args0 = true := by decide +kernel
set_option maxRecDepth 65536 in
theorem w_heap : heapFits about1 = true := by decide +kernel
set_option maxRecDepth 65536 in
theorem w_runnable : about1.curStatus? = some .runnable := by decide +kernel
set_option maxRecDepth 65536 in
theorem w_alone : about1.alone = true := by decide +kernel
set_option maxRecDepth 65536 in
theorem w_named : about1.methodNamed? x = some theMethod := by decide +kernel
set_option maxRecDepth 65536 in
theorem w_hears : about1.hears theMethod below0 = true := by decide +kernel
set_option maxRecDepth 65536 in
theorem w_ripe : about1.ripe theMethod args0 below0 = true := by decide +kernel
theorem w_running : about1.status = .running := rfl
set_option maxRecDepth 65536 in
theorem w_room : about1.hasRoom e0.platform room_1 = true :=
  launch0.hasRoom_least _ room_1 (by decide +kernel) (by decide +kernel) (by decide +kernel) (by decide +kernel) (by decide +kernel) (by decide +kernel)
theorem allAtoms_all (ts : List Jvm.Cond) (a : Array Jvm.Value) (st : Jvm.State) : (allAtoms ts).before a st = ts.all (fun c => c.before a st) := by
  induction ts with
  | nil => rfl
  | cons c t ih =>
    show (Jvm.Cond.and c (allAtoms t)).before a st = _
    rw [Jvm.Cond.before_and, ih, List.all_cons]
def words1 : List Jvm.Cond := Jvm.Cond.code x code maxLocals ret :: tables_1
/-- a 'code' word, met by the world's own term for the bytes: nothing is compared byte by byte -/
theorem code_word {y : MethodName} {bytes : ByteArray} {mx : Nat} {rt : Option FieldType} {a : Array Value} {s : State} {m : MethodId} {meth : Method} {c : Code} (h1 : s.methodNamed? y = some m) (h2 : s.vm.method? m = some meth) (h3 : meth.code = some c) (h4 : c.code = bytes)
    (h5 : (c.maxLocals == mx && c.exceptionTable.isEmpty && decide (c.maxStack ≤ mostOperands) && decide (meth.sig.returnType = rt) && !meth.locks && decide (parseMethodDescriptor y.desc = some meth.sig)) = true) : (Jvm.Cond.code y bytes mx rt).before a s = true := by
  simp only [Bool.and_eq_true, beq_iff_eq, Bool.not_eq_true', decide_eq_true_eq] at h5
  obtain ⟨⟨⟨⟨⟨g1, g2⟩, g3⟩, g4⟩, g5⟩, g6⟩ := h5
  simp [Cond.before, Cond.holds, Cond.value, h1, h2, h3, h4, g1, g2, g3, g4, g5, g6]
def isCode : Jvm.Cond → Bool
  | .code _ _ _ _ => true
  | _ => false
theorem all_split {L : List Jvm.Cond} {P : Jvm.Cond → Bool} (h1 : L.all (fun c => isCode c || P c) = true) (h2 : ∀ c ∈ L.filter isCode, P c = true) : L.all P = true := by
  refine List.all_eq_true.mpr fun c hc => ?_
  have h := List.all_eq_true.mp h1 c hc
  rcases Bool.eq_false_or_eq_true (isCode c) with hi | hi
  · exact h2 c (List.mem_filter.mpr ⟨hc, hi⟩)
  · simpa [hi] using h
set_option maxRecDepth 65536 in
theorem w_c0 : (Jvm.Cond.code x code maxLocals ret).before args0 about1 = true := code_word (m := ⟨1, 1⟩) (meth := k1m1) (c := k1c1) (by decide +kernel) rfl rfl rfl (by decide +kernel)
set_option maxRecDepth 65536 in
theorem w_c1 : (Jvm.Cond.code ({ cls := "com/example/tidewater/tidewater/graph/NodeKind", name := "isControlConsumer", desc := "()Z" } : Jvm.MethodName) prog_21_method_12_code (1 : Nat) (Option.some Jvm.ClassFile.FieldType.boolean)).before args0 about1 = true := code_word (m := ⟨6, 0⟩) (meth := k6m0) (c := k6c0) (by decide +kernel) rfl rfl rfl (by decide +kernel)
def codes1 : List Jvm.Cond := [Jvm.Cond.code x code maxLocals ret, Jvm.Cond.code ({ cls := "com/example/tidewater/tidewater/graph/NodeKind", name := "isControlConsumer", desc := "()Z" } : Jvm.MethodName) prog_21_method_12_code (1 : Nat) (Option.some Jvm.ClassFile.FieldType.boolean)]
set_option maxRecDepth 65536 in
theorem codes_eq : words1.filter isCode = codes1 := rfl
theorem w_codes : ∀ c ∈ words1.filter isCode, c.before args0 about1 = true := by
  rw [codes_eq]
  intro c hc
  simp only [codes1, List.mem_cons, List.not_mem_nil, or_false] at hc
  rcases hc with rfl | rfl
  · exact w_c0
  · exact w_c1
set_option maxRecDepth 65536 in
theorem w_t1 : (words1.take 24).all (fun c => isCode c || c.before args0 about1) = true := by decide +kernel
set_option maxRecDepth 65536 in
theorem w_t2 : ((words1.drop 24).take 24).all (fun c => isCode c || c.before args0 about1) = true := by decide +kernel
set_option maxRecDepth 65536 in
theorem w_t3 : ((words1.drop 24).drop 24).all (fun c => isCode c || c.before args0 about1) = true := by decide +kernel
theorem w_tables : (allAtoms (Jvm.Cond.code x code maxLocals ret :: tables_1)).before args0 about1 = true := by
  rw [allAtoms_all]
  show words1.all (fun c => c.before args0 about1) = true
  refine all_split ?_ w_codes
  rw [← List.take_append_drop 24 words1, List.all_append, w_t1, ← List.take_append_drop 24 (words1.drop 24), List.all_append, w_t2, w_t3]
  rfl
set_option maxRecDepth 65536 in
theorem w_case : (Jvm.Cond.and given_1 narrow_1).before args0 about1 = true := by decide +kernel
theorem w_applies : (headSpec (Jvm.Cond.code x code maxLocals ret :: tables_1) room_1).applies x e0.platform about1 = true :=
  (Spec.applies_iff w_frames).mpr ⟨w_running, w_runnable, w_alone, w_named, w_hears, w_ripe, w_room, w_tables⟩
theorem atStart : AtStart classFile x code maxLocals ret World_1 tables_1 room_1 Calls_1 rest_1 Pre_1 launch0 p0 e0 about1 theMethod args0 below0 :=
  ⟨lists_1, trivial, launch0.admits_env _ _ _, launch0.least_env, fairChoices_fair.cas, fairChoices_fair.clock, w_frames, w_args, w_heap, w_applies, trivial, trivial, w_case⟩
end start1
theorem witness_1 : WitnessClaimed_1 := ⟨start1.p0, start1.e0, start1.about1, start1.theMethod, start1.args0, start1.below0, start1.atStart⟩
end Jvm.Pilot.@@N@@
