import JvmDerived
import JvmDerived.Pilot.@@N@@Statement
import JvmDerived.Pilot.@@N@@Code
set_option linter.unusedVariables false
set_option linter.unusedSimpArgs false
namespace Jvm.Pilot.@@N@@
open Jvm Jvm.ClassFile Sem Op Lib Jvm.Free Jvm.Stand Jvm.LawKit Jvm.RoadKit Bundle Jvm.Pilot.@@N@@.Jvm.D
section OwnGo
variable {p : Program} {l : Launch} {e : Env} {R : Room} {s : State} {m : MethodId} {args : Array Value} {below : List Frame} {meth : Method} {c : Code} {Z : State} {n0 kc ks : Nat} {Q : Option Value → Heap → Prop} {y : MethodName} {bytes : ByteArray} {maxL : Nat} {ret : Option FieldType} {h h' : Heap} {cs sl : Nat} {pc pc' : Nat} {Ls Ls' : Array Slot} {st : List Value} {a0 : Array Value}
def Ctx (p : Program) (s : State) (m : MethodId) (meth : Method) (c : Code) (Z : State) (y : MethodName) (bytes : ByteArray) (maxL : Nat) (ret : Option FieldType) : Prop :=
  p.tables.exec = Jvm.exec ∧ c.code = bytes ∧ c.maxLocals = maxL ∧ meth.sig.returnType = ret ∧ meth.locks = false ∧ Z.Warmed39 s.vm ∧ s.vm.findClass y.cls = some m.cls ∧ meth.name = y.name
def Go (p : Program) (l : Launch) (e : Env) (R : Room) (s : State) (m : MethodId) (args : Array Value) (below : List Frame) (meth : Method) (c : Code) (Z : State) (n0 : Nat) (Q : Option Value → Heap → Prop) (kc ks : Nat) (h : Heap) (cs sl : Nat) (g : JFrame) : Prop :=
  ∀ (T : State) (L : List Loc), Fr n0 L → Old Z n0 h → Stand p l e R s m args below meth c T L cs sl → T.heap = h →
    ∃ (U : State) (v : Option Value) (L' : List Loc), Steps p.tables e below (T.setTop g) U ∧ U.status = .running ∧ Ended U below (.returned v) ∧ Fr n0 L' ∧ Old Z n0 U.heap ∧ s.WarmedH U.vm ∧ s.sameButNew ({ U with vm := s.vm } : State) L' kc ks ∧ Q v U.heap
def Met (l : Launch) (Z : State) (n0 : Nat) (y : MethodName) (bytes : ByteArray) (maxL : Nat) (ret : Option FieldType) (ws : List Jvm.Cond) (rm : Room) (as : Array Value) (h : Heap) (Q : Option Value → Heap → Prop) : Prop :=
  MetFree l y (head1 (Jvm.Cond.code y bytes maxL ret :: ws) rm) (fun a U => a = as ∧ Z.Warmed39 U.vm ∧ U.heap = h) (fun _ _ _ _ _ => True) (fun _ U o U' => ∃ v L, o = .returned v ∧ (Fr n0 L ∧ Old Z n0 U'.heap ∧ Q v U'.heap) ∧ FrameEnd U o U' L rm.cells rm.slots)
theorem met_of {ws : List Jvm.Cond} {rm : Room} {as : Array Value} (hpl : plainFor y = true) (hef : ∀ m, entryFrame m as maxL = mkF m 0 Ls []) (O : Old Z n0 h)
    (body : ∀ p e s m below meth c, Ctx p s m meth c Z y bytes maxL ret → Go p l e rm s m as below meth c Z n0 Q rm.cells rm.slots h 0 0 (mkF m 0 Ls [])) : Met l Z n0 y bytes maxL ret ws rm as h Q := by
  refine MetFree.of_bodySF hpl hisR ?_
  intro p e s m args below meth c s₁ Bd hml hP hK
  obtain ⟨rfl, hZ, hh⟩ := hP
  have X0 := Stand.of_body Bd
  obtain ⟨U, v, L', h1, h2, h3, h4, h5, h6, h7, h8⟩ := body p e s m below meth c ⟨Bd.exec, Bd.bytes, hml, Bd.returns, Bd.notSynchronized, hZ, findClass_of_methodNamed Bd.named, (name_of_methodNamed Bd.named Bd.method).1⟩ s₁ [] (Fr.nil n0) O X0 (by rw [← hh, Bd.state]; rfl)
  exact ⟨U, _, castTop (hef m) h1, h2, h3, v, L', rfl, ⟨h4, h5, h8⟩, ⟨_, rfl⟩, h6, h7⟩
theorem Met.mono {ws : List Jvm.Cond} {rm : Room} {as : Array Value} {Q' : Option Value → Heap → Prop} (M : Met l Z n0 y bytes maxL ret ws rm as h Q) (q : ∀ v h', Q v h' → Q' v h') : Met l Z n0 y bytes maxL ret ws rm as h Q' := by
  unfold Met at M ⊢
  refine MetFree.mono M (fun _ _ h => h) (fun _ _ _ _ _ h => h) ?_
  rintro _ _ _ _ _ ⟨v, L, h1, ⟨h2, h3, h4⟩, h5⟩
  exact ⟨v, L, h1, ⟨h2, h3, q _ _ h4⟩, h5⟩
theorem go_step {g g' : JFrame} (K : Go p l e R s m args below meth c Z n0 Q kc ks h cs sl g') (hs : ∀ T t, At T m c below → Steps p.tables e below (T.setTop g') t → Steps p.tables e below (T.setTop g) t) : Go p l e R s m args below meth c Z n0 Q kc ks h cs sl g := fun T L hL O X eT => by
  obtain ⟨U, v, L', h1, r⟩ := K T L hL O X eT
  exact ⟨U, v, L', hs T U X.here h1, r⟩
theorem go_stepX {g g' : JFrame} (K : Go p l e R s m args below meth c Z n0 Q kc ks h cs sl g') (hs : ∀ T t L, Stand p l e R s m args below meth c T L cs sl → T.heap = h → Steps p.tables e below (T.setTop g') t → Steps p.tables e below (T.setTop g) t) : Go p l e R s m args below meth c Z n0 Q kc ks h cs sl g := fun T L hL O X eT => by
  obtain ⟨U, v, L', h1, r⟩ := K T L hL O X eT
  exact ⟨U, v, L', hs T U L X eT h1, r⟩
theorem go_stepT {g g' : JFrame} (K : Go p l e R s m args below meth c Z n0 Q kc ks h cs sl g') (hs : ∀ T L, Stand p l e R s m args below meth c T L cs sl → T.heap = h → ∃ T', Stand p l e R s m args below meth c T' L cs sl ∧ T'.heap = h ∧ ∀ t, Steps p.tables e below (T'.setTop g') t → Steps p.tables e below (T.setTop g) t) : Go p l e R s m args below meth c Z n0 Q kc ks h cs sl g := fun T L hL O X eT => by
  obtain ⟨T', X', e', hs'⟩ := hs T L X eT
  obtain ⟨U, v, L', h1, r⟩ := K T' L hL O X' e'
  exact ⟨U, v, L', hs' U h1, r⟩
theorem go_old {g : JFrame} (K : Old Z n0 h → Go p l e R s m args below meth c Z n0 Q kc ks h cs sl g) : Go p l e R s m args below meth c Z n0 Q kc ks h cs sl g := fun T L hL O => K O T L hL O
theorem go_more {g : JFrame} {cs' sl' : Nat} (hc : cs ≤ cs') (hs : sl ≤ sl') (K : Go p l e R s m args below meth c Z n0 Q kc ks h cs' sl' g) : Go p l e R s m args below meth c Z n0 Q kc ks h cs sl g := fun T L hL O X eT => K T L hL O (X.more hc hs) eT
theorem go_st {st' : List Value} (e0 : st = st') (K : Go p l e R s m args below meth c Z n0 Q kc ks h cs sl (mkF m pc Ls st')) : Go p l e R s m args below meth c Z n0 Q kc ks h cs sl (mkF m pc Ls st) := e0 ▸ K
theorem go_ls (e0 : Ls = Ls') (K : Go p l e R s m args below meth c Z n0 Q kc ks h cs sl (mkF m pc Ls' st)) : Go p l e R s m args below meth c Z n0 Q kc ks h cs sl (mkF m pc Ls st) := e0 ▸ K
theorem go_h {h' : Heap} {g : JFrame} (e0 : h = h') (K : Go p l e R s m args below meth c Z n0 Q kc ks h' cs sl g) : Go p l e R s m args below meth c Z n0 Q kc ks h cs sl g := e0 ▸ K
theorem go_iload (C : Ctx p s m meth c Z y bytes maxL ret) {k : Nat} {x : Int32} (hd : decode bytes pc = .ok (.iload k, 2)) (hl : Ls[k]? = some (.val (.int x))) (hp : pc + 2 = pc') (K : Go p l e R s m args below meth c Z n0 Q kc ks h cs sl (mkF m pc' Ls (.int x :: st))) : Go p l e R s m args below meth c Z n0 Q kc ks h cs sl (mkF m pc Ls (st)) := by
  subst hp
  exact go_step K fun T t a k => XS.iload a C.1 rfl (hb C.2.1 hd) hl k
theorem go_iloadN (C : Ctx p s m meth c Z y bytes maxL ret) {k : Fin 4} {x : Int32} (hd : decode bytes pc = .ok (.iload_n k, 1)) (hl : Ls[k.val]? = some (.val (.int x))) (hp : pc + 1 = pc') (K : Go p l e R s m args below meth c Z n0 Q kc ks h cs sl (mkF m pc' Ls (.int x :: st))) : Go p l e R s m args below meth c Z n0 Q kc ks h cs sl (mkF m pc Ls (st)) := by
  subst hp
  exact go_step K fun T t a k => XS.iloadN a C.1 rfl (hb C.2.1 hd) hl k
theorem go_lload (C : Ctx p s m meth c Z y bytes maxL ret) {k : Nat} {x : Int64} (hd : decode bytes pc = .ok (.lload k, 2)) (hl : Ls[k]? = some (.val (.long x))) (hp : pc + 2 = pc') (K : Go p l e R s m args below meth c Z n0 Q kc ks h cs sl (mkF m pc' Ls (.long x :: st))) : Go p l e R s m args below meth c Z n0 Q kc ks h cs sl (mkF m pc Ls (st)) := by
  subst hp
  exact go_step K fun T t a k => XS.lload a C.1 rfl (hb C.2.1 hd) hl k
theorem go_lloadN (C : Ctx p s m meth c Z y bytes maxL ret) {k : Fin 4} {x : Int64} (hd : decode bytes pc = .ok (.lload_n k, 1)) (hl : Ls[k.val]? = some (.val (.long x))) (hp : pc + 1 = pc') (K : Go p l e R s m args below meth c Z n0 Q kc ks h cs sl (mkF m pc' Ls (.long x :: st))) : Go p l e R s m args below meth c Z n0 Q kc ks h cs sl (mkF m pc Ls (st)) := by
  subst hp
  exact go_step K fun T t a k => XS.lloadN a C.1 rfl (hb C.2.1 hd) hl k
theorem go_aload (C : Ctx p s m meth c Z y bytes maxL ret) {k : Nat} {v : Value} (hd : decode bytes pc = .ok (.aload k, 2)) (hl : Ls[k]? = some (.val v)) (hv : v.isRef = true) (hp : pc + 2 = pc') (K : Go p l e R s m args below meth c Z n0 Q kc ks h cs sl (mkF m pc' Ls (v :: st))) : Go p l e R s m args below meth c Z n0 Q kc ks h cs sl (mkF m pc Ls (st)) := by
  subst hp
  exact go_step K fun T t a k => XS.aload a C.1 rfl (hb C.2.1 hd) hl hv k
theorem go_aloadN (C : Ctx p s m meth c Z y bytes maxL ret) {k : Fin 4} {v : Value} (hd : decode bytes pc = .ok (.aload_n k, 1)) (hl : Ls[k.val]? = some (.val v)) (hv : v.isRef = true) (hp : pc + 1 = pc') (K : Go p l e R s m args below meth c Z n0 Q kc ks h cs sl (mkF m pc' Ls (v :: st))) : Go p l e R s m args below meth c Z n0 Q kc ks h cs sl (mkF m pc Ls (st)) := by
  subst hp
  exact go_step K fun T t a k => XS.aloadN a C.1 rfl (hb C.2.1 hd) hl hv k
theorem go_istore (C : Ctx p s m meth c Z y bytes maxL ret) {k : Nat} {x : Int32} (hd : decode bytes pc = .ok (.istore k, 2)) (hl : storeLocals Ls k (.int x) = some Ls') (hp : pc + 2 = pc') (K : Go p l e R s m args below meth c Z n0 Q kc ks h cs sl (mkF m pc' Ls' (st))) : Go p l e R s m args below meth c Z n0 Q kc ks h cs sl (mkF m pc Ls (.int x :: st)) := by
  subst hp
  exact go_step K fun T t a k => XS.istore a C.1 rfl (hb C.2.1 hd) rfl hl k
theorem go_istoreN (C : Ctx p s m meth c Z y bytes maxL ret) {k : Fin 4} {x : Int32} (hd : decode bytes pc = .ok (.istore_n k, 1)) (hl : storeLocals Ls k.val (.int x) = some Ls') (hp : pc + 1 = pc') (K : Go p l e R s m args below meth c Z n0 Q kc ks h cs sl (mkF m pc' Ls' (st))) : Go p l e R s m args below meth c Z n0 Q kc ks h cs sl (mkF m pc Ls (.int x :: st)) := by
  subst hp
  exact go_step K fun T t a k => XS.istoreN a C.1 rfl (hb C.2.1 hd) rfl hl k
theorem go_lstore (C : Ctx p s m meth c Z y bytes maxL ret) {k : Nat} {x : Int64} (hd : decode bytes pc = .ok (.lstore k, 2)) (hl : storeLocals Ls k (.long x) = some Ls') (hp : pc + 2 = pc') (K : Go p l e R s m args below meth c Z n0 Q kc ks h cs sl (mkF m pc' Ls' (st))) : Go p l e R s m args below meth c Z n0 Q kc ks h cs sl (mkF m pc Ls (.long x :: st)) := by
  subst hp
  exact go_step K fun T t a k => XS.lstore a C.1 rfl (hb C.2.1 hd) rfl hl k
theorem go_lstoreN (C : Ctx p s m meth c Z y bytes maxL ret) {k : Fin 4} {x : Int64} (hd : decode bytes pc = .ok (.lstore_n k, 1)) (hl : storeLocals Ls k.val (.long x) = some Ls') (hp : pc + 1 = pc') (K : Go p l e R s m args below meth c Z n0 Q kc ks h cs sl (mkF m pc' Ls' (st))) : Go p l e R s m args below meth c Z n0 Q kc ks h cs sl (mkF m pc Ls (.long x :: st)) := by
  subst hp
  exact go_step K fun T t a k => XS.lstoreN a C.1 rfl (hb C.2.1 hd) rfl hl k
theorem go_astore (C : Ctx p s m meth c Z y bytes maxL ret) {k : Nat} {v : Value} (hd : decode bytes pc = .ok (.astore k, 2)) (hv : v.isRef = true) (hl : storeLocals Ls k v = some Ls') (hp : pc + 2 = pc') (K : Go p l e R s m args below meth c Z n0 Q kc ks h cs sl (mkF m pc' Ls' (st))) : Go p l e R s m args below meth c Z n0 Q kc ks h cs sl (mkF m pc Ls (v :: st)) := by
  subst hp
  exact go_step K fun T t a k => XS.astore a C.1 rfl (hb C.2.1 hd) rfl hv hl k
theorem go_astoreN (C : Ctx p s m meth c Z y bytes maxL ret) {k : Fin 4} {v : Value} (hd : decode bytes pc = .ok (.astore_n k, 1)) (hv : v.isRef = true) (hl : storeLocals Ls k.val v = some Ls') (hp : pc + 1 = pc') (K : Go p l e R s m args below meth c Z n0 Q kc ks h cs sl (mkF m pc' Ls' (st))) : Go p l e R s m args below meth c Z n0 Q kc ks h cs sl (mkF m pc Ls (v :: st)) := by
  subst hp
  exact go_step K fun T t a k => XS.astoreN a C.1 rfl (hb C.2.1 hd) rfl hv hl k
theorem go_iinc (C : Ctx p s m meth c Z y bytes maxL ret) {k : Nat} {cst : Int} {x : Int32} (hd : decode bytes pc = .ok (.iinc k cst, 3)) (hl : Ls[k]? = some (.val (.int x))) (hl' : storeLocals Ls k (.int (x + Int32.ofInt cst)) = some Ls') (hp : pc + 3 = pc') (K : Go p l e R s m args below meth c Z n0 Q kc ks h cs sl (mkF m pc' Ls' (st))) : Go p l e R s m args below meth c Z n0 Q kc ks h cs sl (mkF m pc Ls (st)) := by
  subst hp
  exact go_step K fun T t a k => XS.iinc a C.1 rfl (hb C.2.1 hd) hl hl' k
theorem go_iconst (C : Ctx p s m meth c Z y bytes maxL ret) {i : Int} {z : Int32} (hd : decode bytes pc = .ok (.iconst i, 1)) (hz : Int32.ofInt i = z) (hp : pc + 1 = pc') (K : Go p l e R s m args below meth c Z n0 Q kc ks h cs sl (mkF m pc' Ls (.int z :: st))) : Go p l e R s m args below meth c Z n0 Q kc ks h cs sl (mkF m pc Ls (st)) := by
  subst hp hz
  exact go_step K fun T t a k => XS.iconst a C.1 rfl (hb C.2.1 hd) k
theorem go_bipush (C : Ctx p s m meth c Z y bytes maxL ret) {i : Int} {z : Int32} (hd : decode bytes pc = .ok (.bipush i, 2)) (hz : (Int8.ofInt i).toInt32 = z) (hp : pc + 2 = pc') (K : Go p l e R s m args below meth c Z n0 Q kc ks h cs sl (mkF m pc' Ls (.int z :: st))) : Go p l e R s m args below meth c Z n0 Q kc ks h cs sl (mkF m pc Ls (st)) := by
  subst hp hz
  exact go_step K fun T t a k => XS.bipush a C.1 rfl (hb C.2.1 hd) k
theorem go_sipush (C : Ctx p s m meth c Z y bytes maxL ret) {i : Int} {z : Int32} (hd : decode bytes pc = .ok (.sipush i, 3)) (hz : (Int16.ofInt i).toInt32 = z) (hp : pc + 3 = pc') (K : Go p l e R s m args below meth c Z n0 Q kc ks h cs sl (mkF m pc' Ls (.int z :: st))) : Go p l e R s m args below meth c Z n0 Q kc ks h cs sl (mkF m pc Ls (st)) := by
  subst hp hz
  exact go_step K fun T t a k => XS.sipush a C.1 rfl (hb C.2.1 hd) k
theorem go_lconst (C : Ctx p s m meth c Z y bytes maxL ret) {k : Fin 2} {z : Int64} (hd : decode bytes pc = .ok (.lconst k, 1)) (hz : Int64.ofNat k = z) (hp : pc + 1 = pc') (K : Go p l e R s m args below meth c Z n0 Q kc ks h cs sl (mkF m pc' Ls (.long z :: st))) : Go p l e R s m args below meth c Z n0 Q kc ks h cs sl (mkF m pc Ls (st)) := by
  subst hp hz
  exact go_step K fun T t a k => XS.lconst a C.1 rfl (hb C.2.1 hd) k
theorem go_aconstNull (C : Ctx p s m meth c Z y bytes maxL ret)  (hd : decode bytes pc = .ok (.aconst_null, 1))  (hp : pc + 1 = pc') (K : Go p l e R s m args below meth c Z n0 Q kc ks h cs sl (mkF m pc' Ls (.null :: st))) : Go p l e R s m args below meth c Z n0 Q kc ks h cs sl (mkF m pc Ls (st)) := by
  subst hp
  exact go_step K fun T t a k => XS.aconstNull a C.1 rfl (hb C.2.1 hd) k
theorem go_iadd (C : Ctx p s m meth c Z y bytes maxL ret) {x y : Int32} (hd : decode bytes pc = .ok (.iadd, 1))  (hp : pc + 1 = pc') (K : Go p l e R s m args below meth c Z n0 Q kc ks h cs sl (mkF m pc' Ls (.int (x + y) :: st))) : Go p l e R s m args below meth c Z n0 Q kc ks h cs sl (mkF m pc Ls (.int y :: .int x :: st)) := by
  subst hp
  exact go_step K fun T t a k => XS.iadd a C.1 rfl (hb C.2.1 hd) rfl k
theorem go_ladd (C : Ctx p s m meth c Z y bytes maxL ret) {x y : Int64} (hd : decode bytes pc = .ok (.ladd, 1))  (hp : pc + 1 = pc') (K : Go p l e R s m args below meth c Z n0 Q kc ks h cs sl (mkF m pc' Ls (.long (x + y) :: st))) : Go p l e R s m args below meth c Z n0 Q kc ks h cs sl (mkF m pc Ls (.long y :: .long x :: st)) := by
  subst hp
  exact go_step K fun T t a k => XS.ladd a C.1 rfl (hb C.2.1 hd) rfl k
theorem go_isub (C : Ctx p s m meth c Z y bytes maxL ret) {x y : Int32} (hd : decode bytes pc = .ok (.isub, 1))  (hp : pc + 1 = pc') (K : Go p l e R s m args below meth c Z n0 Q kc ks h cs sl (mkF m pc' Ls (.int (x - y) :: st))) : Go p l e R s m args below meth c Z n0 Q kc ks h cs sl (mkF m pc Ls (.int y :: .int x :: st)) := by
  subst hp
  exact go_step K fun T t a k => XS.isub a C.1 rfl (hb C.2.1 hd) rfl k
theorem go_lsub (C : Ctx p s m meth c Z y bytes maxL ret) {x y : Int64} (hd : decode bytes pc = .ok (.lsub, 1))  (hp : pc + 1 = pc') (K : Go p l e R s m args below meth c Z n0 Q kc ks h cs sl (mkF m pc' Ls (.long (x - y) :: st))) : Go p l e R s m args below meth c Z n0 Q kc ks h cs sl (mkF m pc Ls (.long y :: .long x :: st)) := by
  subst hp
  exact go_step K fun T t a k => XS.lsub a C.1 rfl (hb C.2.1 hd) rfl k
theorem go_imul (C : Ctx p s m meth c Z y bytes maxL ret) {x y : Int32} (hd : decode bytes pc = .ok (.imul, 1))  (hp : pc + 1 = pc') (K : Go p l e R s m args below meth c Z n0 Q kc ks h cs sl (mkF m pc' Ls (.int (x * y) :: st))) : Go p l e R s m args below meth c Z n0 Q kc ks h cs sl (mkF m pc Ls (.int y :: .int x :: st)) := by
  subst hp
  exact go_step K fun T t a k => XS.imul a C.1 rfl (hb C.2.1 hd) rfl k
theorem go_lmul (C : Ctx p s m meth c Z y bytes maxL ret) {x y : Int64} (hd : decode bytes pc = .ok (.lmul, 1))  (hp : pc + 1 = pc') (K : Go p l e R s m args below meth c Z n0 Q kc ks h cs sl (mkF m pc' Ls (.long (x * y) :: st))) : Go p l e R s m args below meth c Z n0 Q kc ks h cs sl (mkF m pc Ls (.long y :: .long x :: st)) := by
  subst hp
  exact go_step K fun T t a k => XS.lmul a C.1 rfl (hb C.2.1 hd) rfl k
theorem go_iand (C : Ctx p s m meth c Z y bytes maxL ret) {x y : Int32} (hd : decode bytes pc = .ok (.iand, 1))  (hp : pc + 1 = pc') (K : Go p l e R s m args below meth c Z n0 Q kc ks h cs sl (mkF m pc' Ls (.int (x &&& y) :: st))) : Go p l e R s m args below meth c Z n0 Q kc ks h cs sl (mkF m pc Ls (.int y :: .int x :: st)) := by
  subst hp
  exact go_step K fun T t a k => XS.iand a C.1 rfl (hb C.2.1 hd) rfl k
theorem go_land (C : Ctx p s m meth c Z y bytes maxL ret) {x y : Int64} (hd : decode bytes pc = .ok (.land, 1))  (hp : pc + 1 = pc') (K : Go p l e R s m args below meth c Z n0 Q kc ks h cs sl (mkF m pc' Ls (.long (x &&& y) :: st))) : Go p l e R s m args below meth c Z n0 Q kc ks h cs sl (mkF m pc Ls (.long y :: .long x :: st)) := by
  subst hp
  exact go_step K fun T t a k => XS.land a C.1 rfl (hb C.2.1 hd) rfl k
theorem go_ior (C : Ctx p s m meth c Z y bytes maxL ret) {x y : Int32} (hd : decode bytes pc = .ok (.ior, 1))  (hp : pc + 1 = pc') (K : Go p l e R s m args below meth c Z n0 Q kc ks h cs sl (mkF m pc' Ls (.int (x ||| y) :: st))) : Go p l e R s m args below meth c Z n0 Q kc ks h cs sl (mkF m pc Ls (.int y :: .int x :: st)) := by
  subst hp
  exact go_step K fun T t a k => XS.ior a C.1 rfl (hb C.2.1 hd) rfl k
theorem go_lor (C : Ctx p s m meth c Z y bytes maxL ret) {x y : Int64} (hd : decode bytes pc = .ok (.lor, 1))  (hp : pc + 1 = pc') (K : Go p l e R s m args below meth c Z n0 Q kc ks h cs sl (mkF m pc' Ls (.long (x ||| y) :: st))) : Go p l e R s m args below meth c Z n0 Q kc ks h cs sl (mkF m pc Ls (.long y :: .long x :: st)) := by
  subst hp
  exact go_step K fun T t a k => XS.lor a C.1 rfl (hb C.2.1 hd) rfl k
theorem go_ixor (C : Ctx p s m meth c Z y bytes maxL ret) {x y : Int32} (hd : decode bytes pc = .ok (.ixor, 1))  (hp : pc + 1 = pc') (K : Go p l e R s m args below meth c Z n0 Q kc ks h cs sl (mkF m pc' Ls (.int (x ^^^ y) :: st))) : Go p l e R s m args below meth c Z n0 Q kc ks h cs sl (mkF m pc Ls (.int y :: .int x :: st)) := by
  subst hp
  exact go_step K fun T t a k => XS.ixor a C.1 rfl (hb C.2.1 hd) rfl k
theorem go_lxor (C : Ctx p s m meth c Z y bytes maxL ret) {x y : Int64} (hd : decode bytes pc = .ok (.lxor, 1))  (hp : pc + 1 = pc') (K : Go p l e R s m args below meth c Z n0 Q kc ks h cs sl (mkF m pc' Ls (.long (x ^^^ y) :: st))) : Go p l e R s m args below meth c Z n0 Q kc ks h cs sl (mkF m pc Ls (.long y :: .long x :: st)) := by
  subst hp
  exact go_step K fun T t a k => XS.lxor a C.1 rfl (hb C.2.1 hd) rfl k
theorem go_ishl (C : Ctx p s m meth c Z y bytes maxL ret) {x y : Int32} (hd : decode bytes pc = .ok (.ishl, 1))  (hp : pc + 1 = pc') (K : Go p l e R s m args below meth c Z n0 Q kc ks h cs sl (mkF m pc' Ls (.int (x <<< (y &&& 31)) :: st))) : Go p l e R s m args below meth c Z n0 Q kc ks h cs sl (mkF m pc Ls (.int y :: .int x :: st)) := by
  subst hp
  exact go_step K fun T t a k => XS.ishl a C.1 rfl (hb C.2.1 hd) rfl k
theorem go_ishr (C : Ctx p s m meth c Z y bytes maxL ret) {x y : Int32} (hd : decode bytes pc = .ok (.ishr, 1))  (hp : pc + 1 = pc') (K : Go p l e R s m args below meth c Z n0 Q kc ks h cs sl (mkF m pc' Ls (.int (x >>> (y &&& 31)) :: st))) : Go p l e R s m args below meth c Z n0 Q kc ks h cs sl (mkF m pc Ls (.int y :: .int x :: st)) := by
  subst hp
  exact go_step K fun T t a k => XS.ishr a C.1 rfl (hb C.2.1 hd) rfl k
theorem go_iushr (C : Ctx p s m meth c Z y bytes maxL ret) {x y : Int32} (hd : decode bytes pc = .ok (.iushr, 1))  (hp : pc + 1 = pc') (K : Go p l e R s m args below meth c Z n0 Q kc ks h cs sl (mkF m pc' Ls (.int ((x.toUInt32 >>> (y &&& 31).toUInt32).toInt32) :: st))) : Go p l e R s m args below meth c Z n0 Q kc ks h cs sl (mkF m pc Ls (.int y :: .int x :: st)) := by
  subst hp
  exact go_step K fun T t a k => XS.iushr a C.1 rfl (hb C.2.1 hd) rfl k
theorem go_lshl (C : Ctx p s m meth c Z y bytes maxL ret) {x : Int64} {y' : Int32} (hd : decode bytes pc = .ok (.lshl, 1))  (hp : pc + 1 = pc') (K : Go p l e R s m args below meth c Z n0 Q kc ks h cs sl (mkF m pc' Ls (.long (x <<< (y' &&& 0x3f).toInt64) :: st))) : Go p l e R s m args below meth c Z n0 Q kc ks h cs sl (mkF m pc Ls (.int y' :: .long x :: st)) := by
  subst hp
  exact go_step K fun T t a k => XS.lshl a C.1 rfl (hb C.2.1 hd) rfl k
theorem go_lshr (C : Ctx p s m meth c Z y bytes maxL ret) {x : Int64} {y' : Int32} (hd : decode bytes pc = .ok (.lshr, 1))  (hp : pc + 1 = pc') (K : Go p l e R s m args below meth c Z n0 Q kc ks h cs sl (mkF m pc' Ls (.long (x >>> (y' &&& 0x3f).toInt64) :: st))) : Go p l e R s m args below meth c Z n0 Q kc ks h cs sl (mkF m pc Ls (.int y' :: .long x :: st)) := by
  subst hp
  exact go_step K fun T t a k => XS.lshr a C.1 rfl (hb C.2.1 hd) rfl k
theorem go_lushr (C : Ctx p s m meth c Z y bytes maxL ret) {x : Int64} {y' : Int32} (hd : decode bytes pc = .ok (.lushr, 1))  (hp : pc + 1 = pc') (K : Go p l e R s m args below meth c Z n0 Q kc ks h cs sl (mkF m pc' Ls (.long ((x.toUInt64 >>> (y' &&& 0x3f).toInt64.toUInt64).toInt64) :: st))) : Go p l e R s m args below meth c Z n0 Q kc ks h cs sl (mkF m pc Ls (.int y' :: .long x :: st)) := by
  subst hp
  exact go_step K fun T t a k => XS.lushr a C.1 rfl (hb C.2.1 hd) rfl k
theorem go_lcmp (C : Ctx p s m meth c Z y bytes maxL ret) {x y' : Int64} (hd : decode bytes pc = .ok (.lcmp, 1))  (hp : pc + 1 = pc') (K : Go p l e R s m args below meth c Z n0 Q kc ks h cs sl (mkF m pc' Ls (.int (lcmpW x y') :: st))) : Go p l e R s m args below meth c Z n0 Q kc ks h cs sl (mkF m pc Ls (.long y' :: .long x :: st)) := by
  subst hp
  exact go_step K fun T t a k => XS.lcmp a C.1 rfl (hb C.2.1 hd) rfl k
theorem go_idiv (C : Ctx p s m meth c Z y bytes maxL ret) {x y' : Int32} (hd : decode bytes pc = .ok (.idiv, 1)) (hy : y' ≠ 0) (hp : pc + 1 = pc') (K : Go p l e R s m args below meth c Z n0 Q kc ks h cs sl (mkF m pc' Ls (.int (x / y') :: st))) : Go p l e R s m args below meth c Z n0 Q kc ks h cs sl (mkF m pc Ls (.int y' :: .int x :: st)) := by
  subst hp
  exact go_step K fun T t a k => XS.idiv a C.1 rfl (hb C.2.1 hd) rfl hy k
theorem go_ldiv (C : Ctx p s m meth c Z y bytes maxL ret) {x y' : Int64} (hd : decode bytes pc = .ok (.ldiv, 1)) (hy : y' ≠ 0) (hp : pc + 1 = pc') (K : Go p l e R s m args below meth c Z n0 Q kc ks h cs sl (mkF m pc' Ls (.long (x / y') :: st))) : Go p l e R s m args below meth c Z n0 Q kc ks h cs sl (mkF m pc Ls (.long y' :: .long x :: st)) := by
  subst hp
  exact go_step K fun T t a k => XS.ldiv a C.1 rfl (hb C.2.1 hd) rfl hy k
theorem go_irem (C : Ctx p s m meth c Z y bytes maxL ret) {x y' : Int32} (hd : decode bytes pc = .ok (.irem, 1)) (hy : y' ≠ 0) (hp : pc + 1 = pc') (K : Go p l e R s m args below meth c Z n0 Q kc ks h cs sl (mkF m pc' Ls (.int (x % y') :: st))) : Go p l e R s m args below meth c Z n0 Q kc ks h cs sl (mkF m pc Ls (.int y' :: .int x :: st)) := by
  subst hp
  exact go_step K fun T t a k => XS.irem a C.1 rfl (hb C.2.1 hd) rfl hy (by rw [irem_eq_mod]; exact k)
theorem go_lrem (C : Ctx p s m meth c Z y bytes maxL ret) {x y' : Int64} (hd : decode bytes pc = .ok (.lrem, 1)) (hy : y' ≠ 0) (hp : pc + 1 = pc') (K : Go p l e R s m args below meth c Z n0 Q kc ks h cs sl (mkF m pc' Ls (.long (x % y') :: st))) : Go p l e R s m args below meth c Z n0 Q kc ks h cs sl (mkF m pc Ls (.long y' :: .long x :: st)) := by
  subst hp
  exact go_step K fun T t a k => XS.lrem a C.1 rfl (hb C.2.1 hd) rfl hy (by rw [lrem_mod]; exact k)
theorem go_ineg (C : Ctx p s m meth c Z y bytes maxL ret) {x : Int32} (hd : decode bytes pc = .ok (.ineg, 1))  (hp : pc + 1 = pc') (K : Go p l e R s m args below meth c Z n0 Q kc ks h cs sl (mkF m pc' Ls (.int (-x) :: st))) : Go p l e R s m args below meth c Z n0 Q kc ks h cs sl (mkF m pc Ls (.int x :: st)) := by
  subst hp
  exact go_step K fun T t a k => XS.ineg a C.1 rfl (hb C.2.1 hd) rfl k
theorem go_lneg (C : Ctx p s m meth c Z y bytes maxL ret) {x : Int64} (hd : decode bytes pc = .ok (.lneg, 1))  (hp : pc + 1 = pc') (K : Go p l e R s m args below meth c Z n0 Q kc ks h cs sl (mkF m pc' Ls (.long (-x) :: st))) : Go p l e R s m args below meth c Z n0 Q kc ks h cs sl (mkF m pc Ls (.long x :: st)) := by
  subst hp
  exact go_step K fun T t a k => XS.lneg a C.1 rfl (hb C.2.1 hd) rfl k
theorem go_i2l (C : Ctx p s m meth c Z y bytes maxL ret) {x : Int32} (hd : decode bytes pc = .ok (.i2l, 1))  (hp : pc + 1 = pc') (K : Go p l e R s m args below meth c Z n0 Q kc ks h cs sl (mkF m pc' Ls (.long x.toInt64 :: st))) : Go p l e R s m args below meth c Z n0 Q kc ks h cs sl (mkF m pc Ls (.int x :: st)) := by
  subst hp
  exact go_step K fun T t a k => XS.i2l a C.1 rfl (hb C.2.1 hd) rfl k
theorem go_l2i (C : Ctx p s m meth c Z y bytes maxL ret) {x : Int64} (hd : decode bytes pc = .ok (.l2i, 1))  (hp : pc + 1 = pc') (K : Go p l e R s m args below meth c Z n0 Q kc ks h cs sl (mkF m pc' Ls (.int x.toInt32 :: st))) : Go p l e R s m args below meth c Z n0 Q kc ks h cs sl (mkF m pc Ls (.long x :: st)) := by
  subst hp
  exact go_step K fun T t a k => XS.l2i a C.1 rfl (hb C.2.1 hd) rfl k
theorem go_i2c (C : Ctx p s m meth c Z y bytes maxL ret) {x : Int32} (hd : decode bytes pc = .ok (.i2c, 1))  (hp : pc + 1 = pc') (K : Go p l e R s m args below meth c Z n0 Q kc ks h cs sl (mkF m pc' Ls (.int x.toUInt32.toUInt16.toUInt32.toInt32 :: st))) : Go p l e R s m args below meth c Z n0 Q kc ks h cs sl (mkF m pc Ls (.int x :: st)) := by
  subst hp
  exact go_step K fun T t a k => XS.i2c a C.1 rfl (hb C.2.1 hd) rfl k
theorem go_i2b (C : Ctx p s m meth c Z y bytes maxL ret) {x : Int32} (hd : decode bytes pc = .ok (.i2b, 1))  (hp : pc + 1 = pc') (K : Go p l e R s m args below meth c Z n0 Q kc ks h cs sl (mkF m pc' Ls (.int x.toInt8.toInt32 :: st))) : Go p l e R s m args below meth c Z n0 Q kc ks h cs sl (mkF m pc Ls (.int x :: st)) := by
  subst hp
  exact go_step K fun T t a k => XS.i2b a C.1 rfl (hb C.2.1 hd) rfl k
theorem go_dup (C : Ctx p s m meth c Z y bytes maxL ret) {v : Value} (hd : decode bytes pc = .ok (.dup, 1)) (hv : v.category = 1) (hp : pc + 1 = pc') (K : Go p l e R s m args below meth c Z n0 Q kc ks h cs sl (mkF m pc' Ls (v :: v :: st))) : Go p l e R s m args below meth c Z n0 Q kc ks h cs sl (mkF m pc Ls (v :: st)) := by
  subst hp
  exact go_step K fun T t a k => XS.dup a C.1 rfl (hb C.2.1 hd) rfl hv k
theorem go_dupX1 (C : Ctx p s m meth c Z y bytes maxL ret) {v w : Value} (hd : decode bytes pc = .ok (.dup_x1, 1)) (hv : v.category = 1) (hw : w.category = 1) (hp : pc + 1 = pc') (K : Go p l e R s m args below meth c Z n0 Q kc ks h cs sl (mkF m pc' Ls (v :: w :: v :: st))) : Go p l e R s m args below meth c Z n0 Q kc ks h cs sl (mkF m pc Ls (v :: w :: st)) := by
  subst hp
  exact go_step K fun T t a k => XS.dupX1 a C.1 rfl (hb C.2.1 hd) rfl hv hw k
theorem go_dup2 (C : Ctx p s m meth c Z y bytes maxL ret) {v w : Value} (hd : decode bytes pc = .ok (.dup2, 1)) (hv : v.category = 1) (hw : w.category = 1) (hp : pc + 1 = pc') (K : Go p l e R s m args below meth c Z n0 Q kc ks h cs sl (mkF m pc' Ls (v :: w :: v :: w :: st))) : Go p l e R s m args below meth c Z n0 Q kc ks h cs sl (mkF m pc Ls (v :: w :: st)) := by
  subst hp
  exact go_step K fun T t a k => XT.dup2 a C.1 rfl (hb C.2.1 hd) rfl hv hw k
theorem go_dup2L (C : Ctx p s m meth c Z y bytes maxL ret) {x : Int64} (hd : decode bytes pc = .ok (.dup2, 1))  (hp : pc + 1 = pc') (K : Go p l e R s m args below meth c Z n0 Q kc ks h cs sl (mkF m pc' Ls (.long x :: .long x :: st))) : Go p l e R s m args below meth c Z n0 Q kc ks h cs sl (mkF m pc Ls (.long x :: st)) := by
  subst hp
  exact go_step K fun T t a k => XT.dup2L a C.1 rfl (hb C.2.1 hd) rfl k
theorem go_pop (C : Ctx p s m meth c Z y bytes maxL ret) {v : Value} (hd : decode bytes pc = .ok (.pop, 1)) (hv : v.category = 1) (hp : pc + 1 = pc') (K : Go p l e R s m args below meth c Z n0 Q kc ks h cs sl (mkF m pc' Ls (st))) : Go p l e R s m args below meth c Z n0 Q kc ks h cs sl (mkF m pc Ls (v :: st)) := by
  subst hp
  exact go_step K fun T t a k => XS.pop a C.1 rfl (hb C.2.1 hd) rfl hv k
theorem go_goto (C : Ctx p s m meth c Z y bytes maxL ret)  {o : Int} (hd : decode bytes pc = .ok (.goto o, 3))  (ho : 0 ≤ (pc : Int) + o) (hp : ((pc : Int) + o).toNat = pc') (K : Go p l e R s m args below meth c Z n0 Q kc ks h cs sl (mkF m pc' Ls st)) : Go p l e R s m args below meth c Z n0 Q kc ks h cs sl (mkF m pc Ls (st)) :=
  go_step K fun T t a k => XS.goto a C.1 rfl rfl (hb C.2.1 hd) ho hp k
theorem go_ifYes (C : Ctx p s m meth c Z y bytes maxL ret) {cd : ClassFile.Cond} {x : Int32} {o : Int} (hd : decode bytes pc = .ok (.ifCond cd o, 3)) (hc : ifCond.holds cd x = true) (ho : 0 ≤ (pc : Int) + o) (hp : ((pc : Int) + o).toNat = pc') (K : Go p l e R s m args below meth c Z n0 Q kc ks h cs sl (mkF m pc' Ls st)) : Go p l e R s m args below meth c Z n0 Q kc ks h cs sl (mkF m pc Ls (.int x :: st)) :=
  go_step K fun T t a k => XS.ifYes a C.1 rfl rfl (hb C.2.1 hd) rfl hc ho hp k
theorem go_ifNo (C : Ctx p s m meth c Z y bytes maxL ret) {cd : ClassFile.Cond} {x : Int32} {o : Int} (hd : decode bytes pc = .ok (.ifCond cd o, 3)) (hc : ifCond.holds cd x = false) (hp : pc + 3 = pc') (K : Go p l e R s m args below meth c Z n0 Q kc ks h cs sl (mkF m pc' Ls st)) : Go p l e R s m args below meth c Z n0 Q kc ks h cs sl (mkF m pc Ls (.int x :: st)) := by
  subst hp
  exact go_step K fun T t a k => XS.ifNo a C.1 rfl (hb C.2.1 hd) rfl hc k
theorem go_icmpYes (C : Ctx p s m meth c Z y bytes maxL ret) {cd : ClassFile.Cond} {x y' : Int32} {o : Int} (hd : decode bytes pc = .ok (.if_icmp cd o, 3)) (hc : if_icmp.holds cd x y' = true) (ho : 0 ≤ (pc : Int) + o) (hp : ((pc : Int) + o).toNat = pc') (K : Go p l e R s m args below meth c Z n0 Q kc ks h cs sl (mkF m pc' Ls st)) : Go p l e R s m args below meth c Z n0 Q kc ks h cs sl (mkF m pc Ls (.int y' :: .int x :: st)) :=
  go_step K fun T t a k => XS.icmpYes a C.1 rfl rfl (hb C.2.1 hd) rfl hc ho hp k
theorem go_icmpNo (C : Ctx p s m meth c Z y bytes maxL ret) {cd : ClassFile.Cond} {x y' : Int32} {o : Int} (hd : decode bytes pc = .ok (.if_icmp cd o, 3)) (hc : if_icmp.holds cd x y' = false) (hp : pc + 3 = pc') (K : Go p l e R s m args below meth c Z n0 Q kc ks h cs sl (mkF m pc' Ls st)) : Go p l e R s m args below meth c Z n0 Q kc ks h cs sl (mkF m pc Ls (.int y' :: .int x :: st)) := by
  subst hp
  exact go_step K fun T t a k => XS.icmpNo a C.1 rfl (hb C.2.1 hd) rfl hc k
theorem go_ifnullYes (C : Ctx p s m meth c Z y bytes maxL ret)  {o : Int} (hd : decode bytes pc = .ok (.ifnull o, 3))  (ho : 0 ≤ (pc : Int) + o) (hp : ((pc : Int) + o).toNat = pc') (K : Go p l e R s m args below meth c Z n0 Q kc ks h cs sl (mkF m pc' Ls st)) : Go p l e R s m args below meth c Z n0 Q kc ks h cs sl (mkF m pc Ls (.null :: st)) :=
  go_step K fun T t a k => XS.ifnullYes a C.1 rfl rfl (hb C.2.1 hd) rfl ho hp k
theorem go_ifnullNo (C : Ctx p s m meth c Z y bytes maxL ret) {b : Addr} {o : Int} (hd : decode bytes pc = .ok (.ifnull o, 3))  (hp : pc + 3 = pc') (K : Go p l e R s m args below meth c Z n0 Q kc ks h cs sl (mkF m pc' Ls st)) : Go p l e R s m args below meth c Z n0 Q kc ks h cs sl (mkF m pc Ls (.ref b :: st)) := by
  subst hp
  exact go_step K fun T t a k => XS.ifnullNo a C.1 rfl (hb C.2.1 hd) rfl k
theorem go_ifnonnullYes (C : Ctx p s m meth c Z y bytes maxL ret) {b : Addr} {o : Int} (hd : decode bytes pc = .ok (.ifnonnull o, 3))  (ho : 0 ≤ (pc : Int) + o) (hp : ((pc : Int) + o).toNat = pc') (K : Go p l e R s m args below meth c Z n0 Q kc ks h cs sl (mkF m pc' Ls st)) : Go p l e R s m args below meth c Z n0 Q kc ks h cs sl (mkF m pc Ls (.ref b :: st)) :=
  go_step K fun T t a k => XS.ifnonnullYes a C.1 rfl rfl (hb C.2.1 hd) rfl ho hp k
theorem go_ifnonnullNo (C : Ctx p s m meth c Z y bytes maxL ret)  {o : Int} (hd : decode bytes pc = .ok (.ifnonnull o, 3))  (hp : pc + 3 = pc') (K : Go p l e R s m args below meth c Z n0 Q kc ks h cs sl (mkF m pc' Ls st)) : Go p l e R s m args below meth c Z n0 Q kc ks h cs sl (mkF m pc Ls (.null :: st)) := by
  subst hp
  exact go_step K fun T t a k => XS.ifnonnullNo a C.1 rfl (hb C.2.1 hd) rfl k
theorem go_acmpYes (C : Ctx p s m meth c Z y bytes maxL ret) {cd : ClassFile.ACond} {v w : Value} {o : Int} (hd : decode bytes pc = .ok (.if_acmp cd o, 3)) (hv : v.isRef = true) (hw : w.isRef = true) (hc : XT.acmp cd v w = true) (ho : 0 ≤ (pc : Int) + o) (hp : ((pc : Int) + o).toNat = pc') (K : Go p l e R s m args below meth c Z n0 Q kc ks h cs sl (mkF m pc' Ls st)) : Go p l e R s m args below meth c Z n0 Q kc ks h cs sl (mkF m pc Ls (w :: v :: st)) :=
  go_step K fun T t a k => XT.acmpYes a C.1 rfl rfl (hb C.2.1 hd) rfl hv hw hc ho hp k
theorem go_acmpNo (C : Ctx p s m meth c Z y bytes maxL ret) {cd : ClassFile.ACond} {v w : Value} {o : Int} (hd : decode bytes pc = .ok (.if_acmp cd o, 3)) (hv : v.isRef = true) (hw : w.isRef = true) (hc : XT.acmp cd v w = false) (hp : pc + 3 = pc') (K : Go p l e R s m args below meth c Z n0 Q kc ks h cs sl (mkF m pc' Ls st)) : Go p l e R s m args below meth c Z n0 Q kc ks h cs sl (mkF m pc Ls (w :: v :: st)) := by
  subst hp
  exact go_step K fun T t a k => XT.acmpNo a C.1 rfl (hb C.2.1 hd) rfl hv hw hc k
theorem go_tswIn (C : Ctx p s m meth c Z y bytes maxL ret) {dflt low high : Int} {offs : Array Int} {len : Nat} {o : Int} {i : Int32} (hd : decode bytes pc = .ok (.tableswitch dflt low high offs, len)) (hin : ¬ (i.toInt < low ∨ i.toInt > high)) (hoff : offs[(i.toInt - low).toNat]? = some o) (ho : 0 ≤ (pc : Int) + o) (hp : ((pc : Int) + o).toNat = pc') (K : Go p l e R s m args below meth c Z n0 Q kc ks h cs sl (mkF m pc' Ls st)) : Go p l e R s m args below meth c Z n0 Q kc ks h cs sl (mkF m pc Ls (.int i :: st)) :=
  go_step K fun T t a k => XS.tswIn a C.1 rfl rfl (hb C.2.1 hd) rfl hin hoff ho hp k
theorem go_ldcInt (C : Ctx p s m meth c Z y bytes maxL ret) {index : Nat} {v : Int32} (w : (Jvm.Cond.constant y.cls index v).before a0 Z = true) (hd : decode bytes pc = .ok (.ldc index, 2)) (hp : pc + 2 = pc') (K : Go p l e R s m args below meth c Z n0 Q kc ks h cs sl (mkF m pc' Ls (.int v :: st))) : Go p l e R s m args below meth c Z n0 Q kc ks h cs sl (mkF m pc Ls st) := by
  subst hp
  exact go_stepX K fun T t L X eT k => X.ldcInt C.1 C.2.2.2.2.2.2.1 (mvT C.2.2.2.2.2.1 w) (g := mkF m pc Ls st) rfl (hb C.2.1 hd) t k
theorem go_ldcwInt (C : Ctx p s m meth c Z y bytes maxL ret) {index : Nat} {v : Int32} (w : (Jvm.Cond.constant y.cls index v).before a0 Z = true) (hd : decode bytes pc = .ok (.ldc_w index, 3)) (hp : pc + 3 = pc') (K : Go p l e R s m args below meth c Z n0 Q kc ks h cs sl (mkF m pc' Ls (.int v :: st))) : Go p l e R s m args below meth c Z n0 Q kc ks h cs sl (mkF m pc Ls st) := by
  subst hp
  exact go_stepX K fun T t L X eT k => X.ldcwInt C.1 C.2.2.2.2.2.2.1 (mvT C.2.2.2.2.2.1 w) (g := mkF m pc Ls st) rfl (hb C.2.1 hd) t k
theorem go_ldcLong (C : Ctx p s m meth c Z y bytes maxL ret) {index : Nat} {v : Int64} (w : (Jvm.Cond.constantLong y.cls index v).before a0 Z = true) (hd : decode bytes pc = .ok (.ldc2_w index, 3)) (hp : pc + 3 = pc') (K : Go p l e R s m args below meth c Z n0 Q kc ks h cs sl (mkF m pc' Ls (.long v :: st))) : Go p l e R s m args below meth c Z n0 Q kc ks h cs sl (mkF m pc Ls st) := by
  subst hp
  exact go_stepX K fun T t L X eT k => X.ldc2Long C.1 C.2.2.2.2.2.2.1 (mvT C.2.2.2.2.2.1 w) (g := mkF m pc Ls st) rfl (hb C.2.1 hd) t k
theorem go_getF (C : Ctx p s m meth c Z y bytes maxL ret) {R0 O n d host : String} {index : Nat} {a : Addr} {v : Value} (w : (Jvm.Cond.fieldLink y.cls index R0 n d).before a0 Z = true ∨ (Jvm.Cond.fieldLinkNest y.cls index R0 n d host).before a0 Z = true) (via : Via Z R0 O n d) (F : Fld Z h a O n d v) (hd : decode bytes pc = .ok (.getfield index, 3)) (hp : pc + 3 = pc') (K : Go p l e R s m args below meth c Z n0 Q kc ks h cs sl (mkF m pc' Ls (v :: st))) : Go p l e R s m args below meth c Z n0 Q kc ks h cs sl (mkF m pc Ls (.ref a :: st)) := by
  subst hp
  exact go_stepT K fun T L X eT => getF X C.1 C.2.2.2.2.2.1 C.2.2.2.2.2.2.1 w via eT F (g := mkF m pc Ls (.ref a :: st)) rfl rfl (hb C.2.1 hd)
theorem go_getS (C : Ctx p s m meth c Z y bytes maxL ret) {R0 O n d host : String} {index : Nat} {v : Value} (w : (Jvm.Cond.fieldLink y.cls index R0 n d).before a0 Z = true ∨ (Jvm.Cond.fieldLinkNest y.cls index R0 n d host).before a0 Z = true) (via : Via Z R0 O n d) (F : Sta Z h O n d v) (hd : decode bytes pc = .ok (.getstatic index, 3)) (hp : pc + 3 = pc') (K : Go p l e R s m args below meth c Z n0 Q kc ks h cs sl (mkF m pc' Ls (v :: st))) : Go p l e R s m args below meth c Z n0 Q kc ks h cs sl (mkF m pc Ls st) := by
  subst hp
  exact go_stepT K fun T L X eT => getS2 X C.1 C.2.2.2.2.2.1 C.2.2.2.2.2.2.1 w via eT F (g := mkF m pc Ls st) rfl (hb C.2.1 hd)
theorem go_putF (C : Ctx p s m meth c Z y bytes maxL ret) {R0 O n d host K0 : String} {index kk : Nat} {ty : FieldType} {a : Addr} {v old : Value} (w : (Jvm.Cond.fieldLink y.cls index R0 n d).before a0 Z = true ∨ (Jvm.Cond.fieldLinkNest y.cls index R0 n d host).before a0 Z = true) (via : Via Z R0 O n d) (F : Fld Z h a O n d old) (E : Exa Z h a K0) (L : (Jvm.Cond.lays K0 O n d).before a0 Z = true ∨ ((Jvm.Cond.laysFinal K0 O n d).before a0 Z = true ∧ y.cls = O ∧ y.name = "<init>")) (wi : (Jvm.Cond.instantiable K0 kk).before a0 Z = true)
    (hty : parseFieldDescriptor d = some ty) (hn : narrow ty v = v) (hf : fits ty v = true) (hd : decode bytes pc = .ok (.putfield index, 3)) (hp : pc + 3 = pc') (ha : n0 ≤ a) (K : ∀ h', Wr h h' a (Jvm.RoadKit.slotOf Z O n d) v → Fld Z h' a O n d v → Go p l e R s m args below meth c Z n0 Q kc ks h' cs sl (mkF m pc' Ls st)) : Go p l e R s m args below meth c Z n0 Q kc ks h cs sl (mkF m pc Ls (v :: .ref a :: st)) := fun T L0 hL O X eT => by
  subst hp
  obtain ⟨T', h', X', e', W, hs⟩ := putF X C.1 C.2.2.2.2.2.1 C.2.2.2.2.2.2.1 w via eT F E (L.imp id fun q => ⟨q.1, q.2.1, C.2.2.2.2.2.2.2.trans q.2.2⟩) wi hty hn hf (g := mkF m pc Ls (v :: .ref a :: st)) rfl rfl (hb C.2.1 hd)
  obtain ⟨U, v, L', h1, r⟩ := K h' W (F.same W) T' _ (Fr.snoc X' hL ha) (O.wr W ha) X' e'
  exact ⟨U, v, L', hs U h1, r⟩
theorem go_putFN (C : Ctx p s m meth c Z y bytes maxL ret) {R0 O n d K0 : String} {index kk : Nat} {ty : FieldType} {a : Addr} {v v' old : Value} (w : (Jvm.Cond.fieldLink y.cls index R0 n d).before a0 Z = true) (via : Via Z R0 O n d) (F : Fld Z h a O n d old) (E : Exa Z h a K0) (L : (Jvm.Cond.lays K0 O n d).before a0 Z = true ∨ ((Jvm.Cond.laysFinal K0 O n d).before a0 Z = true ∧ y.cls = O ∧ y.name = "<init>")) (wi : (Jvm.Cond.instantiable K0 kk).before a0 Z = true)
    (hty : parseFieldDescriptor d = some ty) (hn : narrow ty v = v') (hf : fits ty v' = true) (hd : decode bytes pc = .ok (.putfield index, 3)) (hp : pc + 3 = pc') (ha : n0 ≤ a) (K : ∀ h', Wr h h' a (Jvm.RoadKit.slotOf Z O n d) v' → Fld Z h' a O n d v' → Go p l e R s m args below meth c Z n0 Q kc ks h' cs sl (mkF m pc' Ls st)) : Go p l e R s m args below meth c Z n0 Q kc ks h cs sl (mkF m pc Ls (v :: .ref a :: st)) := fun T L0 hL O X eT => by
  subst hp
  obtain ⟨T', h', X', e', W, hs⟩ := putFN X C.1 C.2.2.2.2.2.1 C.2.2.2.2.2.2.1 w via eT F E (L.imp id fun q => ⟨q.1, q.2.1, C.2.2.2.2.2.2.2.trans q.2.2⟩) wi hty hn hf (g := mkF m pc Ls (v :: .ref a :: st)) rfl rfl (hb C.2.1 hd)
  obtain ⟨U, v, L', h1, r⟩ := K h' W (F.same W) T' _ (Fr.snoc X' hL ha) (O.wr W ha) X' e'
  exact ⟨U, v, L', hs U h1, r⟩
theorem go_new (C : Ctx p s m meth c Z y bytes maxL ret) {K0 : String} {index n : Nat} (w : (Jvm.Cond.classLink y.cls index K0).before a0 Z = true) (wi : (Jvm.Cond.instantiable K0 n).before a0 Z = true) (wz : (Jvm.Cond.initialized K0).before a0 Z = true) (hd : decode bytes pc = .ok (.new index, 3)) (hp : pc + 3 = pc') (hc : cs + 1 ≤ R.cells) (hl : sl + n ≤ R.slots)
    (K : ∀ h' a, a = h.size → n0 ≤ a → Ext h h' → Exa Z h' a K0 → (∀ {O nm d : String} {ty : FieldType}, Laid Z a0 K0 O nm d → parseFieldDescriptor d = some ty → Fld Z h' a O nm d (defaultValue ty)) → Go p l e R s m args below meth c Z n0 Q kc ks h' (cs + 1) (sl + n) (mkF m pc' Ls (.ref a :: st))) : Go p l e R s m args below meth c Z n0 Q kc ks h cs sl (mkF m pc Ls st) := fun T L0 hL O X eT => by
  subst hp
  obtain ⟨T', h', X', e', E, A, D, -, hs⟩ := newO X C.1 C.2.2.2.2.2.1 C.2.2.2.2.2.2.1 w wi wz eT (g := mkF m pc Ls st) rfl (hb C.2.1 hd) hc hl
  obtain ⟨U, v, L', h1, r⟩ := K h' h.size rfl (O.1 ▸ O.2.1) E A D T' _ hL (O.ext E) X' e'
  exact ⟨U, v, L', hs U h1, r⟩
theorem go_newP (C : Ctx p s m meth c Z y bytes maxL ret) {aty : ArrayType} {n : Int32} {cap : Nat} (w : (Jvm.Cond.arrayClass (newarray.typeOf aty)).before a0 Z = true) (hd : decode bytes pc = .ok (.newarray aty, 2)) (hp : pc + 2 = pc') (hn : ¬ n < 0) (hcap : n.toNatClampNeg ≤ cap) (hb' : cap * 8 ≤ 536870912) (hc : cs + 1 ≤ R.cells) (hl : sl + cap ≤ R.slots)
    (K : ∀ h' a k, a = h.size → n0 ≤ a → Ext h h' → Arr Z h' a (newA k (newarray.typeOf aty) n) (newarray.typeOf aty) → Go p l e R s m args below meth c Z n0 Q kc ks h' (cs + 1) (sl + cap) (mkF m pc' Ls (.ref a :: st))) : Go p l e R s m args below meth c Z n0 Q kc ks h cs sl (mkF m pc Ls (.int n :: st)) := fun T L0 hL O X eT => by
  subst hp
  obtain ⟨T', h', k, X', e', E, A, hs⟩ := newP X C.1 C.2.2.2.2.2.1 w eT (g := mkF m pc Ls (.int n :: st)) rfl (hb C.2.1 hd) rfl hn hcap hb' hc hl
  obtain ⟨U, v, L', h1, r⟩ := K h' h.size k rfl (O.1 ▸ O.2.1) E A T' _ hL (O.ext E) X' e'
  exact ⟨U, v, L', hs U h1, r⟩
theorem go_newR (C : Ctx p s m meth c Z y bytes maxL ret) {K0 : String} {index : Nat} {n : Int32} {cap : Nat} (w1 : (Jvm.Cond.classLink y.cls index K0).before a0 Z = true) (w2 : (Jvm.Cond.arrayOver (.object K0)).before a0 Z = true) (hd : decode bytes pc = .ok (.anewarray index, 3)) (hp : pc + 3 = pc') (hn : ¬ n < 0) (hcap : n.toNatClampNeg ≤ cap) (hb' : cap * 8 ≤ 536870912) (hc : cs + 1 ≤ R.cells) (hl : sl + cap ≤ R.slots)
    (K : ∀ h' a k, a = h.size → n0 ≤ a → Ext h h' → Arr Z h' a (newA k (.object K0) n) (.object K0) → Ovr Z k K0 → Go p l e R s m args below meth c Z n0 Q kc ks h' (cs + 1) (sl + cap) (mkF m pc' Ls (.ref a :: st))) : Go p l e R s m args below meth c Z n0 Q kc ks h cs sl (mkF m pc Ls (.int n :: st)) := fun T L0 hL O X eT => by
  subst hp
  obtain ⟨T', h', k, X', e', E, A, V, hs⟩ := newR X C.1 C.2.2.2.2.2.1 C.2.2.2.2.2.2.1 w1 w2 eT (g := mkF m pc Ls (.int n :: st)) rfl (hb C.2.1 hd) rfl hn hcap hb' hc hl
  obtain ⟨U, v, L', h1, r⟩ := K h' h.size k rfl (O.1 ▸ O.2.1) E A V T' _ hL (O.ext E) X' e'
  exact ⟨U, v, L', hs U h1, r⟩
theorem go_stI (C : Ctx p s m meth c Z y bytes maxL ret) {a : Addr} {cl : Cell} {j : Int32} {x : Int32} (A : Arr Z h a cl .int) (hj : ¬ (j < 0 ∨ cl.slots.size ≤ j.toNatClampNeg)) (hd : decode bytes pc = .ok (.iastore, 1)) (hp : pc + 1 = pc') (ha : n0 ≤ a)
    (K : ∀ h', Wr h h' a j.toNatClampNeg (.int x) → Arr Z h' a (cl.setSlot j.toNatClampNeg (.int x)) .int → Go p l e R s m args below meth c Z n0 Q kc ks h' cs sl (mkF m pc' Ls st)) : Go p l e R s m args below meth c Z n0 Q kc ks h cs sl (mkF m pc Ls (.int x :: .int j :: .ref a :: st)) := fun T L0 hL O X eT => by
  subst hp
  obtain ⟨T', h', X', e', W, hs⟩ := stI X C.1 C.2.2.2.2.2.1 eT A hj (g := mkF m pc Ls (.int x :: .int j :: .ref a :: st)) rfl rfl (hb C.2.1 hd)
  obtain ⟨U, v, L', h1, r⟩ := K h' W (A.same W) T' _ (Fr.snoc X' hL ha) (O.wr W ha) X' e'
  exact ⟨U, v, L', hs U h1, r⟩
theorem go_stJ (C : Ctx p s m meth c Z y bytes maxL ret) {a : Addr} {cl : Cell} {j : Int32} {x : Int64} (A : Arr Z h a cl .long) (hj : ¬ (j < 0 ∨ cl.slots.size ≤ j.toNatClampNeg)) (hd : decode bytes pc = .ok (.lastore, 1)) (hp : pc + 1 = pc') (ha : n0 ≤ a)
    (K : ∀ h', Wr h h' a j.toNatClampNeg (.long x) → Arr Z h' a (cl.setSlot j.toNatClampNeg (.long x)) .long → Go p l e R s m args below meth c Z n0 Q kc ks h' cs sl (mkF m pc' Ls st)) : Go p l e R s m args below meth c Z n0 Q kc ks h cs sl (mkF m pc Ls (.long x :: .int j :: .ref a :: st)) := fun T L0 hL O X eT => by
  subst hp
  obtain ⟨T', h', X', e', W, hs⟩ := stJ X C.1 C.2.2.2.2.2.1 eT A hj (g := mkF m pc Ls (.long x :: .int j :: .ref a :: st)) rfl rfl (hb C.2.1 hd)
  obtain ⟨U, v, L', h1, r⟩ := K h' W (A.same W) T' _ (Fr.snoc X' hL ha) (O.wr W ha) X' e'
  exact ⟨U, v, L', hs U h1, r⟩
theorem go_stC (C : Ctx p s m meth c Z y bytes maxL ret) {a : Addr} {cl : Cell} {j : Int32} {x : Int32} (A : Arr Z h a cl .char) (hj : ¬ (j < 0 ∨ cl.slots.size ≤ j.toNatClampNeg)) (hd : decode bytes pc = .ok (.castore, 1)) (hp : pc + 1 = pc') (ha : n0 ≤ a)
    (K : ∀ h', Wr h h' a j.toNatClampNeg (.int (nar .char x)) → Arr Z h' a (cl.setSlot j.toNatClampNeg (.int (nar .char x))) .char → Go p l e R s m args below meth c Z n0 Q kc ks h' cs sl (mkF m pc' Ls st)) : Go p l e R s m args below meth c Z n0 Q kc ks h cs sl (mkF m pc Ls (.int x :: .int j :: .ref a :: st)) := fun T L0 hL O X eT => by
  subst hp
  obtain ⟨T', h', X', e', W, hs⟩ := stC X C.1 C.2.2.2.2.2.1 eT A hj (g := mkF m pc Ls (.int x :: .int j :: .ref a :: st)) rfl rfl (hb C.2.1 hd)
  obtain ⟨U, v, L', h1, r⟩ := K h' W (A.same W) T' _ (Fr.snoc X' hL ha) (O.wr W ha) X' e'
  exact ⟨U, v, L', hs U h1, r⟩
theorem go_stB (C : Ctx p s m meth c Z y bytes maxL ret) {a : Addr} {cl : Cell} {j : Int32} {x : Int32} (A : Arr Z h a cl .byte) (hj : ¬ (j < 0 ∨ cl.slots.size ≤ j.toNatClampNeg)) (hd : decode bytes pc = .ok (.bastore, 1)) (hp : pc + 1 = pc') (ha : n0 ≤ a)
    (K : ∀ h', Wr h h' a j.toNatClampNeg (.int (nar .byte x)) → Arr Z h' a (cl.setSlot j.toNatClampNeg (.int (nar .byte x))) .byte → Go p l e R s m args below meth c Z n0 Q kc ks h' cs sl (mkF m pc' Ls st)) : Go p l e R s m args below meth c Z n0 Q kc ks h cs sl (mkF m pc Ls (.int x :: .int j :: .ref a :: st)) := fun T L0 hL O X eT => by
  subst hp
  obtain ⟨T', h', X', e', W, hs⟩ := stB X C.1 C.2.2.2.2.2.1 eT A hj (g := mkF m pc Ls (.int x :: .int j :: .ref a :: st)) rfl rfl (hb C.2.1 hd)
  obtain ⟨U, v, L', h1, r⟩ := K h' W (A.same W) T' _ (Fr.snoc X' hL ha) (O.wr W ha) X' e'
  exact ⟨U, v, L', hs U h1, r⟩
theorem go_stZ (C : Ctx p s m meth c Z y bytes maxL ret) {a : Addr} {cl : Cell} {j : Int32} {x : Int32} (A : Arr Z h a cl .boolean) (hj : ¬ (j < 0 ∨ cl.slots.size ≤ j.toNatClampNeg)) (hd : decode bytes pc = .ok (.bastore, 1)) (hp : pc + 1 = pc') (ha : n0 ≤ a)
    (K : ∀ h', Wr h h' a j.toNatClampNeg (.int (nar .boolean x)) → Arr Z h' a (cl.setSlot j.toNatClampNeg (.int (nar .boolean x))) .boolean → Go p l e R s m args below meth c Z n0 Q kc ks h' cs sl (mkF m pc' Ls st)) : Go p l e R s m args below meth c Z n0 Q kc ks h cs sl (mkF m pc Ls (.int x :: .int j :: .ref a :: st)) := fun T L0 hL O X eT => by
  subst hp
  obtain ⟨T', h', X', e', W, hs⟩ := stZ X C.1 C.2.2.2.2.2.1 eT A hj (g := mkF m pc Ls (.int x :: .int j :: .ref a :: st)) rfl rfl (hb C.2.1 hd)
  obtain ⟨U, v, L', h1, r⟩ := K h' W (A.same W) T' _ (Fr.snoc X' hL ha) (O.wr W ha) X' e'
  exact ⟨U, v, L', hs U h1, r⟩
theorem go_stR (C : Ctx p s m meth c Z y bytes maxL ret) {a : Addr} {cl : Cell} {j : Int32} {ty : FieldType} {w : Value} (A : Arr Z h a cl ty) (hj : ¬ (j < 0 ∨ cl.slots.size ≤ j.toNatClampNeg)) (hty : ty.isReference = true) (F : Sto Z h a w) (hd : decode bytes pc = .ok (.aastore, 1)) (hp : pc + 1 = pc') (ha : n0 ≤ a)
    (K : ∀ h', Wr h h' a j.toNatClampNeg w → Arr Z h' a (cl.setSlot j.toNatClampNeg w) ty → Go p l e R s m args below meth c Z n0 Q kc ks h' cs sl (mkF m pc' Ls st)) : Go p l e R s m args below meth c Z n0 Q kc ks h cs sl (mkF m pc Ls (w :: .int j :: .ref a :: st)) := fun T L0 hL O X eT => by
  subst hp
  obtain ⟨T', h', X', e', W, hs⟩ := stR X C.1 C.2.2.2.2.2.1 eT A hj hty F (g := mkF m pc Ls (w :: .int j :: .ref a :: st)) rfl rfl (hb C.2.1 hd)
  obtain ⟨U, v, L', h1, r⟩ := K h' W (A.same W) T' _ (Fr.snoc X' hL ha) (O.wr W ha) X' e'
  exact ⟨U, v, L', hs U h1, r⟩
theorem go_arraylength (C : Ctx p s m meth c Z y bytes maxL ret) {a : Addr} {cl : Cell} {ty : FieldType} {z : Int32} (A : Arr Z h a cl ty) (hz : cl.slots.size.toInt32 = z) (hd : decode bytes pc = .ok (.arraylength, 1)) (hp : pc + 1 = pc') (K : Go p l e R s m args below meth c Z n0 Q kc ks h cs sl (mkF m pc' Ls (.int z :: st))) : Go p l e R s m args below meth c Z n0 Q kc ks h cs sl (mkF m pc Ls (.ref a :: st)) := by
  subst hp hz
  exact go_stepX K fun T t L X eT k => X.arraylength C.1 (by rw [eT]; exact A.1) (State.isArrayOf_alike C.2.2.2.2.2.1.alike A.2.1) (g := mkF m pc Ls (.ref a :: st)) rfl rfl (hb C.2.1 hd) t k
theorem go_aaload (C : Ctx p s m meth c Z y bytes maxL ret) {a : Addr} {cl : Cell} {j : Int32} {v : Value} {ty : FieldType} (A : Arr Z h a cl ty) (hty : ty.isReference = true) (hin : ¬ (j < 0 ∨ cl.slots.size ≤ j.toNatClampNeg)) (hv : cl.slots[j.toNatClampNeg]? = some v) (hd : decode bytes pc = .ok (.aaload, 1)) (hp : pc + 1 = pc') (K : Go p l e R s m args below meth c Z n0 Q kc ks h cs sl (mkF m pc' Ls (v :: st))) : Go p l e R s m args below meth c Z n0 Q kc ks h cs sl (mkF m pc Ls (.int j :: .ref a :: st)) := by
  subst hp
  exact go_stepX K fun T t L X eT k => X.aaload C.1 (by rw [eT]; exact A.1) (State.isArrayOf_alike C.2.2.2.2.2.1.alike A.2.1) hty A.2.2 hin hv (g := mkF m pc Ls (.int j :: .ref a :: st)) rfl rfl (hb C.2.1 hd) t k
theorem go_iaload (C : Ctx p s m meth c Z y bytes maxL ret) {a : Addr} {cl : Cell} {j : Int32} {v : Value} (A : Arr Z h a cl .int) (hin : ¬ (j < 0 ∨ cl.slots.size ≤ j.toNatClampNeg)) (hv : cl.slots[j.toNatClampNeg]? = some v) (hd : decode bytes pc = .ok (.iaload, 1)) (hp : pc + 1 = pc') (K : Go p l e R s m args below meth c Z n0 Q kc ks h cs sl (mkF m pc' Ls (v :: st))) : Go p l e R s m args below meth c Z n0 Q kc ks h cs sl (mkF m pc Ls (.int j :: .ref a :: st)) := by
  subst hp
  exact go_stepX K fun T t L X eT k => X.iaload C.1 (by rw [eT]; exact A.1) (State.isArrayOf_alike C.2.2.2.2.2.1.alike A.2.1) A.2.2 hin hv (g := mkF m pc Ls (.int j :: .ref a :: st)) rfl rfl (hb C.2.1 hd) t k
theorem go_laload (C : Ctx p s m meth c Z y bytes maxL ret) {a : Addr} {cl : Cell} {j : Int32} {v : Value} (A : Arr Z h a cl .long) (hin : ¬ (j < 0 ∨ cl.slots.size ≤ j.toNatClampNeg)) (hv : cl.slots[j.toNatClampNeg]? = some v) (hd : decode bytes pc = .ok (.laload, 1)) (hp : pc + 1 = pc') (K : Go p l e R s m args below meth c Z n0 Q kc ks h cs sl (mkF m pc' Ls (v :: st))) : Go p l e R s m args below meth c Z n0 Q kc ks h cs sl (mkF m pc Ls (.int j :: .ref a :: st)) := by
  subst hp
  exact go_stepX K fun T t L X eT k => X.laload C.1 (by rw [eT]; exact A.1) (State.isArrayOf_alike C.2.2.2.2.2.1.alike A.2.1) A.2.2 hin hv (g := mkF m pc Ls (.int j :: .ref a :: st)) rfl rfl (hb C.2.1 hd) t k
theorem go_caload (C : Ctx p s m meth c Z y bytes maxL ret) {a : Addr} {cl : Cell} {j : Int32} {v : Value} (A : Arr Z h a cl .char) (hin : ¬ (j < 0 ∨ cl.slots.size ≤ j.toNatClampNeg)) (hv : cl.slots[j.toNatClampNeg]? = some v) (hd : decode bytes pc = .ok (.caload, 1)) (hp : pc + 1 = pc') (K : Go p l e R s m args below meth c Z n0 Q kc ks h cs sl (mkF m pc' Ls (v :: st))) : Go p l e R s m args below meth c Z n0 Q kc ks h cs sl (mkF m pc Ls (.int j :: .ref a :: st)) := by
  subst hp
  exact go_stepX K fun T t L X eT k => X.caload C.1 (by rw [eT]; exact A.1) (State.isArrayOf_alike C.2.2.2.2.2.1.alike A.2.1) A.2.2 hin hv (g := mkF m pc Ls (.int j :: .ref a :: st)) rfl rfl (hb C.2.1 hd) t k
theorem go_castY (C : Ctx p s m meth c Z y bytes maxL ret) {K0 : String} {index : Nat} {a : Addr} (w : (Jvm.Cond.classLink y.cls index K0).before a0 Z = true) (F : Ins Z h a K0 true) (hd : decode bytes pc = .ok (.checkcast index, 3)) (hp : pc + 3 = pc') (K : Go p l e R s m args below meth c Z n0 Q kc ks h cs sl (mkF m pc' Ls (.ref a :: st))) : Go p l e R s m args below meth c Z n0 Q kc ks h cs sl (mkF m pc Ls (.ref a :: st)) := by
  subst hp
  exact go_stepT K fun T L X eT => castY X C.1 C.2.2.2.2.2.1 C.2.2.2.2.2.2.1 w eT F (g := mkF m pc Ls (.ref a :: st)) rfl rfl (hb C.2.1 hd)
theorem go_castNull (C : Ctx p s m meth c Z y bytes maxL ret) {index : Nat} (hd : decode bytes pc = .ok (.checkcast index, 3)) (hp : pc + 3 = pc') (K : Go p l e R s m args below meth c Z n0 Q kc ks h cs sl (mkF m pc' Ls (.null :: st))) : Go p l e R s m args below meth c Z n0 Q kc ks h cs sl (mkF m pc Ls (.null :: st)) := by
  subst hp
  exact go_stepX K fun T t L X eT k => X.checkcastNull C.1 (g := mkF m pc Ls (.null :: st)) rfl rfl (hb C.2.1 hd) t k
theorem go_instY (C : Ctx p s m meth c Z y bytes maxL ret) {K0 : String} {index : Nat} {a : Addr} (w : (Jvm.Cond.classLink y.cls index K0).before a0 Z = true) (F : Ins Z h a K0 true) (hd : decode bytes pc = .ok (.instanceof index, 3)) (hp : pc + 3 = pc') (K : Go p l e R s m args below meth c Z n0 Q kc ks h cs sl (mkF m pc' Ls (.int 1 :: st))) : Go p l e R s m args below meth c Z n0 Q kc ks h cs sl (mkF m pc Ls (.ref a :: st)) := by
  subst hp
  exact go_stepT K fun T L X eT => instY X C.1 C.2.2.2.2.2.1 C.2.2.2.2.2.2.1 w eT F (g := mkF m pc Ls (.ref a :: st)) rfl rfl (hb C.2.1 hd)
theorem go_instNo (C : Ctx p s m meth c Z y bytes maxL ret) {K0 K1 : String} {index : Nat} {a : Addr} (w : (Jvm.Cond.classLink y.cls index K0).before a0 Z = true) (E : Exa Z h a K1) (F : ∃ c t, Z.vm.findClass K1 = some c ∧ Z.vm.findClass K0 = some t ∧ Z.vm.assignable c t = false) (hd : decode bytes pc = .ok (.instanceof index, 3)) (hp : pc + 3 = pc') (K : Go p l e R s m args below meth c Z n0 Q kc ks h cs sl (mkF m pc' Ls (.int 0 :: st))) : Go p l e R s m args below meth c Z n0 Q kc ks h cs sl (mkF m pc Ls (.ref a :: st)) := by
  subst hp
  exact go_stepT K fun T L X eT => instNo X C.1 C.2.2.2.2.2.1 C.2.2.2.2.2.2.1 w eT E F (g := mkF m pc Ls (.ref a :: st)) rfl rfl (hb C.2.1 hd)
theorem go_initO (C : Ctx p s m meth c Z y bytes maxL ret) {idx : Nat} {a : Addr} (w1 : (Jvm.Cond.methodLink y.cls idx Lib.objectInit).before a0 Z = true) (w2 : (Jvm.Cond.instanceMethod Lib.objectInit).before a0 Z = true) (w3 : (Jvm.Cond.code Lib.objectInit ⟨#[0xb1]⟩ 1 none).before a0 Z = true) (hsz : Ls.size = maxL) (hd : decode bytes pc = .ok (.invokespecial idx, 3)) (hp : pc + 3 = pc') (hf : 1 ≤ R.frames) (hl : (st.map fun v => v.category).sum + 12 ≤ R.locals) (K : Go p l e R s m args below meth c Z n0 Q kc ks h cs sl (mkF m pc' Ls st)) : Go p l e R s m args below meth c Z n0 Q kc ks h cs sl (mkF m pc Ls (.ref a :: st)) := by
  subst hp
  exact go_stepT K fun T L X eT => initO X C.1 C.2.2.2.2.2.1 C.2.2.2.2.2.2.1 w1 w2 w3 eT (g := mkF m pc Ls (.ref a :: st)) rfl (hsz.trans C.2.2.1.symm) rfl (hb C.2.1 hd) hf (W := (st.map fun v => v.category).sum) (by show 2 * 0 + _ ≤ _; omega) hl
theorem go_ret0 (C : Ctx p s m meth c Z y bytes maxL none) (hd : decode bytes pc = .ok (.return_, 1)) (hc : cs ≤ kc) (hs : sl ≤ ks) (q : Q none h) : Go p l e R s m args below meth c Z n0 Q kc ks h cs sl (mkF m pc Ls []) := fun T L hL O X eT => by
  obtain ⟨fs, hr, hrun, hended, hW, hsame⟩ := X.leave (v := none) (fun _ => rfl) C.2.2.2.2.1
  subst eT
  exact ⟨_, _, L, X.returnOut C.1 C.2.2.2.1 (hb C.2.1 hd) hr, hrun, hended, hL, O, hW, hsame.mono hc hs, q⟩
theorem go_retI (C : Ctx p s m meth c Z y bytes maxL (some .int)) {z : Int32} (hd : decode bytes pc = .ok (.ireturn, 1)) (hc : cs ≤ kc) (hs : sl ≤ ks) (q : Q (some (.int z)) h) : Go p l e R s m args below meth c Z n0 Q kc ks h cs sl (mkF m pc Ls (.int z :: st)) := fun T L hL O X eT => by
  obtain ⟨fs, hr, hrun, hended, hW, hsame⟩ := X.leave (v := some (.int z)) (fun h => by rw [C.2.2.2.1] at h; cases h) C.2.2.2.2.1
  subst eT
  exact ⟨_, _, L, retOut X C.1 C.2.2.2.1 rfl (Or.inl ⟨rfl, Or.inl rfl, _, rfl⟩) (hb C.2.1 hd) hr, hrun, hended, hL, O, hW, hsame.mono hc hs, q⟩
theorem go_retL (C : Ctx p s m meth c Z y bytes maxL (some .long)) {z : Int64} (hd : decode bytes pc = .ok (.lreturn, 1)) (hc : cs ≤ kc) (hs : sl ≤ ks) (q : Q (some (.long z)) h) : Go p l e R s m args below meth c Z n0 Q kc ks h cs sl (mkF m pc Ls (.long z :: st)) := fun T L hL O X eT => by
  obtain ⟨fs, hr, hrun, hended, hW, hsame⟩ := X.leave (v := some (.long z)) (fun h => by rw [C.2.2.2.1] at h; cases h) C.2.2.2.2.1
  subst eT
  exact ⟨_, _, L, retOut X C.1 C.2.2.2.1 rfl (Or.inr (Or.inl ⟨rfl, rfl, _, rfl⟩)) (hb C.2.1 hd) hr, hrun, hended, hL, O, hW, hsame.mono hc hs, q⟩
theorem go_retN {t : FieldType} (C : Ctx p s m meth c Z y bytes maxL (some t)) {z z' : Int32} (ht : t = .boolean ∨ t = .byte ∨ t = .char ∨ t = .short) (hz : nar t z = z') (hd : decode bytes pc = .ok (.ireturn, 1)) (hc : cs ≤ kc) (hs : sl ≤ ks) (q : Q (some (.int z')) h) : Go p l e R s m args below meth c Z n0 Q kc ks h cs sl (mkF m pc Ls (.int z :: st)) := fun T L hL O X eT => by
  subst hz
  obtain ⟨fs, hr, hrun, hended, hW, hsame⟩ := X.leave (v := some (.int (nar t z))) (fun h => by rw [C.2.2.2.1] at h; cases h) C.2.2.2.2.1
  subst eT
  exact ⟨_, _, L, retN X C.1 C.2.2.2.1 ht (hb C.2.1 hd) hr, hrun, hended, hL, O, hW, hsame.mono hc hs, q⟩
theorem go_retA {t : FieldType} (C : Ctx p s m meth c Z y bytes maxL (some t)) {w : Value} (ht : t.isReference = true) (hw : w.isRef = true) (hd : decode bytes pc = .ok (.areturn, 1)) (hc : cs ≤ kc) (hs : sl ≤ ks) (q : Q (some w) h) : Go p l e R s m args below meth c Z n0 Q kc ks h cs sl (mkF m pc Ls (w :: st)) := fun T L hL O X eT => by
  obtain ⟨fs, hr, hrun, hended, hW, hsame⟩ := X.leave (v := some w) (fun h => by rw [C.2.2.2.1] at h; cases h) C.2.2.2.2.1
  subst eT
  exact ⟨_, _, L, retOut X C.1 C.2.2.2.1 (by cases t <;> first | (cases ht; done) | (cases w <;> first | rfl | cases hw)) (Or.inr (Or.inr (Or.inr (Or.inr ⟨rfl, ht, hw⟩)))) (hb C.2.1 hd) hr, hrun, hended, hL, O, hW, hsame.mono hc hs, q⟩
theorem go_callS (C : Ctx p s m meth c Z y bytes maxL ret) {y' : MethodName} {bytes' : ByteArray} {maxL' : Nat} {ret' : Option FieldType} {rm' : Room} {as' : Array Value} {Q' : Option Value → Heap → Prop} {index W : Nat} {argsL rest : List Value} {ps : List FieldType} {r' : Option FieldType} (w1 : (Jvm.Cond.methodLink y.cls index y').before a0 Z = true) (w2 : (Jvm.Cond.static y').before a0 Z = true) (M : Met l Z n0 y' bytes' maxL' ret' [] rm' as' h Q') (wc : (Jvm.Cond.code y' bytes' maxL' ret').before a0 Z = true) (wz : (Jvm.Cond.initialized y'.cls).before a0 Z = true) (hy : y'.cls ≠ "java/lang/invoke/MethodHandle" ∧ y'.cls ≠ "java/lang/invoke/VarHandle") (hf : rm'.frames + 1 ≤ R.frames) (hW : (rest.map fun v => v.category).sum ≤ W) (hl : W + (maxL' + 11) + rm'.locals ≤ R.locals) (hc : cs + rm'.cells ≤ R.cells) (hs : sl + rm'.slots ≤ R.slots) (hsz : Ls.size = maxL)  (hlen : parseMethodDescriptor y'.desc = some ⟨ps, r'⟩) (hal : argsL.length = ps.length) (hst : st = argsL.reverse ++ rest) (has : as' = argsL.toArray) (hd : decode bytes pc = .ok (.invokestatic index, 3)) (hp : pc + 3 = pc')
    (K : ∀ v h', Q' v h' → Go p l e R s m args below meth c Z n0 Q kc ks h' (cs + rm'.cells) (sl + rm'.slots) (mkF m pc' Ls (v.toList ++ rest))) : Go p l e R s m args below meth c Z n0 Q kc ks h cs sl (mkF m pc Ls st) := fun T L0 hL O X eT => by
  subst hp has hst
  obtain ⟨v, _, ⟨T1, L1, k1, n1⟩, -, X1, ⟨Lc1, q1, l1, y1, z1⟩, s1⟩ := Jvm.LawKit.callS X C.1 (y := y') C.2.2.2.2.2.2.1 (mvT C.2.2.2.2.2.1 w1) (mvT C.2.2.2.2.2.1 w2) (mvT C.2.2.2.2.2.1 wz) (mvT C.2.2.2.2.2.1 wc) hy (backOf (W := W) (R := R) (p := p) (e := e) (below := below) (args := args) (len := 3) (Q := fun v h L => Fr n0 L ∧ Old Z n0 h ∧ Q' v h) M C.2.2.2.2.2.1 wc wz hf hl) (g := mkF m pc Ls (argsL.reverse ++ rest)) rfl (hsz.trans C.2.2.1.symm) (argsL := argsL) (rest := rest) (lenOf hlen hal) rfl (by show 2 * 0 + _ ≤ _; omega) (hb C.2.1 hd) (fun _ _ => ⟨rfl, eT, hc, hs⟩)
  dsimp only [Pt.U, Pt.locs, Pt.cells, Pt.slots] at X1 l1 y1 z1 s1 q1
  subst l1 y1 z1
  obtain ⟨N, O', q⟩ := q1
  obtain ⟨U, w, L', h1, r⟩ := K v _ q T1 _ (Fr.app hL N) O' X1 rfl
  exact ⟨U, w, L', s1 _ h1, r⟩
theorem go_callC (C : Ctx p s m meth c Z y bytes maxL ret) {y' : MethodName} {bytes' : ByteArray} {maxL' : Nat} {ret' : Option FieldType} {rm' : Room} {as' : Array Value} {Q' : Option Value → Heap → Prop} {index W : Nat} {argsL rest : List Value} {ps : List FieldType} {r' : Option FieldType} (w1 : (Jvm.Cond.methodLink y.cls index y').before a0 Z = true) (w2 : (Jvm.Cond.instanceMethod y').before a0 Z = true) (hin : y'.name = "<init>") (hr0 : ret' = none) (M : Met l Z n0 y' bytes' maxL' ret' [] rm' as' h Q') (wc : (Jvm.Cond.code y' bytes' maxL' ret').before a0 Z = true) (wz : (Jvm.Cond.initialized y'.cls).before a0 Z = true) (hy : y'.cls ≠ "java/lang/invoke/MethodHandle" ∧ y'.cls ≠ "java/lang/invoke/VarHandle") (hf : rm'.frames + 1 ≤ R.frames) (hW : (rest.map fun v => v.category).sum ≤ W) (hl : W + (maxL' + 11) + rm'.locals ≤ R.locals) (hc : cs + rm'.cells ≤ R.cells) (hs : sl + rm'.slots ≤ R.slots) (hsz : Ls.size = maxL) {a : Addr} (hlen : parseMethodDescriptor y'.desc = some ⟨ps, r'⟩) (hal : argsL.length = ps.length) (hst : st = argsL.reverse ++ .ref a :: rest) (has : as' = (.ref a :: argsL).toArray) (hd : decode bytes pc = .ok (.invokespecial index, 3)) (hp : pc + 3 = pc')
    (K : ∀ v h', Q' v h' → Go p l e R s m args below meth c Z n0 Q kc ks h' (cs + rm'.cells) (sl + rm'.slots) (mkF m pc' Ls (v.toList ++ rest))) : Go p l e R s m args below meth c Z n0 Q kc ks h cs sl (mkF m pc Ls st) := fun T L0 hL O X eT => by
  subst hp has hst
  subst hr0
  obtain ⟨v, _, ⟨T1, L1, k1, n1⟩, -, X1, ⟨Lc1, q1, l1, y1, z1⟩, s1⟩ := X.specialBack C.1 (y := y') hin C.2.2.2.2.2.2.1 (mvT C.2.2.2.2.2.1 w1) (mvT C.2.2.2.2.2.1 w2) (mvT C.2.2.2.2.2.1 wc) hy (backOf (W := W) (R := R) (p := p) (e := e) (below := below) (args := args) (len := 3) (Q := fun v h L => Fr n0 L ∧ Old Z n0 h ∧ Q' v h) M C.2.2.2.2.2.1 wc wz hf hl) (g := mkF m pc Ls (argsL.reverse ++ .ref a :: rest)) rfl (hsz.trans C.2.2.1.symm) (Steps.refl _) (a := a) (argsL := argsL) (rest := rest) (lenOf hlen hal) rfl (by show 2 * 0 + _ ≤ _; omega) (hb C.2.1 hd) (fun _ _ => ⟨rfl, eT, hc, hs⟩)
  dsimp only [Pt.U, Pt.locs, Pt.cells, Pt.slots] at X1 l1 y1 z1 s1 q1
  subst l1 y1 z1
  obtain ⟨N, O', q⟩ := q1
  obtain ⟨U, w, L', h1, r⟩ := K v _ q T1 _ (Fr.app hL N) O' X1 rfl
  exact ⟨U, w, L', s1.trans h1, r⟩
theorem go_callV (C : Ctx p s m meth c Z y bytes maxL ret) {y' : MethodName} {bytes' : ByteArray} {maxL' : Nat} {ret' : Option FieldType} {rm' : Room} {as' : Array Value} {Q' : Option Value → Heap → Prop} {index W : Nat} {argsL rest : List Value} {ps : List FieldType} {r' : Option FieldType} (w1 : (Jvm.Cond.methodLink y.cls index y').before a0 Z = true) (w2 : (Jvm.Cond.declares y').before a0 Z = true) {K0 : String} (w3 : (Jvm.Cond.selects K0 y' y').before a0 Z = true) (w4 : (Jvm.Cond.instanceMethod y').before a0 Z = true) (M : Met l Z n0 y' bytes' maxL' ret' [] rm' as' h Q') (wc : (Jvm.Cond.code y' bytes' maxL' ret').before a0 Z = true) (wz : (Jvm.Cond.initialized y'.cls).before a0 Z = true) (hy : y'.cls ≠ "java/lang/invoke/MethodHandle" ∧ y'.cls ≠ "java/lang/invoke/VarHandle") (hf : rm'.frames + 1 ≤ R.frames) (hW : (rest.map fun v => v.category).sum ≤ W) (hl : W + (maxL' + 11) + rm'.locals ≤ R.locals) (hc : cs + rm'.cells ≤ R.cells) (hs : sl + rm'.slots ≤ R.slots) (hsz : Ls.size = maxL) {a : Addr} (E : Exa Z h a K0) (hlen : parseMethodDescriptor y'.desc = some ⟨ps, r'⟩) (hal : argsL.length = ps.length) (hst : st = argsL.reverse ++ .ref a :: rest) (has : as' = (.ref a :: argsL).toArray) (hd : decode bytes pc = .ok (.invokevirtual index, 3)) (hp : pc + 3 = pc')
    (K : ∀ v h', Q' v h' → Go p l e R s m args below meth c Z n0 Q kc ks h' (cs + rm'.cells) (sl + rm'.slots) (mkF m pc' Ls (v.toList ++ rest))) : Go p l e R s m args below meth c Z n0 Q kc ks h cs sl (mkF m pc Ls st) := fun T L0 hL O X eT => by
  subst hp has hst
  obtain ⟨cq, kq, qa, qb, qc⟩ := isOf C.2.2.2.2.2.1 eT E
  obtain ⟨v, _, ⟨T1, L1, k1, n1⟩, -, X1, ⟨Lc1, q1, l1, y1, z1⟩, s1⟩ := X.virtualBack C.1 (y := y') (z := y') C.2.2.2.2.2.2.1 (mvT C.2.2.2.2.2.1 w1) (mvT C.2.2.2.2.2.1 w2) (notFace_of_selects (args := #[]) (mvT C.2.2.2.2.2.1 w3)) (mvT C.2.2.2.2.2.1 w3) (mvT C.2.2.2.2.2.1 w4) hy (backOf (W := W) (R := R) (p := p) (e := e) (below := below) (args := args) (len := 3) (Q := fun v h L => Fr n0 L ∧ Old Z n0 h ∧ Q' v h) M C.2.2.2.2.2.1 wc wz hf hl) qa qc (g := mkF m pc Ls (argsL.reverse ++ .ref a :: rest)) rfl (hsz.trans C.2.2.1.symm) (Steps.refl _) (argsL := argsL) (rest := rest) (lenOf hlen hal) rfl (by show 2 * 0 + _ ≤ _; omega) (hb C.2.1 hd) (fun _ _ => ⟨rfl, eT, hc, hs⟩)
  dsimp only [Pt.U, Pt.locs, Pt.cells, Pt.slots] at X1 l1 y1 z1 s1 q1
  subst l1 y1 z1
  obtain ⟨N, O', q⟩ := q1
  obtain ⟨U, w, L', h1, r⟩ := K v _ q T1 _ (Fr.app hL N) O' X1 rfl
  exact ⟨U, w, L', s1.trans h1, r⟩
theorem go_callU (C : Ctx p s m meth c Z y bytes maxL ret) {y' : MethodName} {bytes' : ByteArray} {maxL' : Nat} {ret' : Option FieldType} {rm' : Room} {as' : Array Value} {Q' : Option Value → Heap → Prop} {index W : Nat} {argsL rest : List Value} {ps : List FieldType} {r' : Option FieldType} {K1 : String} (w1 : (Jvm.Cond.methodLink y.cls index ⟨K1, y'.name, y'.desc⟩).before a0 Z = true) (w2 : (Jvm.Cond.sameMethod K1 y'.cls y'.name y'.desc).before a0 Z = true) (w3 : (Jvm.Cond.declares y').before a0 Z = true) {K0 : String} (w4 : (Jvm.Cond.selects K0 ⟨K1, y'.name, y'.desc⟩ y').before a0 Z = true) (w5 : (Jvm.Cond.instanceMethod y').before a0 Z = true) (M : Met l Z n0 y' bytes' maxL' ret' [] rm' as' h Q') (wc : (Jvm.Cond.code y' bytes' maxL' ret').before a0 Z = true) (wz : (Jvm.Cond.initialized y'.cls).before a0 Z = true) (hy : y'.cls ≠ "java/lang/invoke/MethodHandle" ∧ y'.cls ≠ "java/lang/invoke/VarHandle") (hf : rm'.frames + 1 ≤ R.frames) (hW : (rest.map fun v => v.category).sum ≤ W) (hl : W + (maxL' + 11) + rm'.locals ≤ R.locals) (hc : cs + rm'.cells ≤ R.cells) (hs : sl + rm'.slots ≤ R.slots) (hsz : Ls.size = maxL) {a : Addr} (E : Exa Z h a K0) (hlen : parseMethodDescriptor y'.desc = some ⟨ps, r'⟩) (hal : argsL.length = ps.length) (hst : st = argsL.reverse ++ .ref a :: rest) (has : as' = (.ref a :: argsL).toArray) (hd : decode bytes pc = .ok (.invokevirtual index, 3)) (hp : pc + 3 = pc')
    (K : ∀ v h', Q' v h' → Go p l e R s m args below meth c Z n0 Q kc ks h' (cs + rm'.cells) (sl + rm'.slots) (mkF m pc' Ls (v.toList ++ rest))) : Go p l e R s m args below meth c Z n0 Q kc ks h cs sl (mkF m pc Ls st) := fun T L0 hL O X eT => by
  subst hp has hst
  obtain ⟨cq, kq, qa, qb, qc⟩ := isOf C.2.2.2.2.2.1 eT E
  obtain ⟨v, _, ⟨T1, L1, k1, n1⟩, -, X1, ⟨Lc1, q1, l1, y1, z1⟩, s1⟩ := X.virtualBackUp C.1 (x := ⟨K1, y'.name, y'.desc⟩) (y := y') (owner := y'.cls) C.2.2.2.2.2.2.1 (mvT C.2.2.2.2.2.1 w1) (mvT C.2.2.2.2.2.1 w2) (mvT C.2.2.2.2.2.1 w3) hy (mvT C.2.2.2.2.2.1 w4) (mvT C.2.2.2.2.2.1 w5) (backOf (W := W) (R := R) (p := p) (e := e) (below := below) (args := args) (len := 3) (Q := fun v h L => Fr n0 L ∧ Old Z n0 h ∧ Q' v h) M C.2.2.2.2.2.1 wc wz hf hl) qa qc (g := mkF m pc Ls (argsL.reverse ++ .ref a :: rest)) rfl (hsz.trans C.2.2.1.symm) (Steps.refl _) (argsL := argsL) (rest := rest) (lenOf hlen hal) rfl (by show 2 * 0 + _ ≤ _; omega) (hb C.2.1 hd) (fun _ _ => ⟨rfl, eT, hc, hs⟩)
  dsimp only [Pt.U, Pt.locs, Pt.cells, Pt.slots] at X1 l1 y1 z1 s1 q1
  subst l1 y1 z1
  obtain ⟨N, O', q⟩ := q1
  obtain ⟨U, w, L', h1, r⟩ := K v _ q T1 _ (Fr.app hL N) O' X1 rfl
  exact ⟨U, w, L', s1.trans h1, r⟩
theorem go_callI (C : Ctx p s m meth c Z y bytes maxL ret) {y' : MethodName} {bytes' : ByteArray} {maxL' : Nat} {ret' : Option FieldType} {rm' : Room} {as' : Array Value} {Q' : Option Value → Heap → Prop} {index W : Nat} {argsL rest : List Value} {ps : List FieldType} {r' : Option FieldType} {xi : MethodName} {count : Nat} (w1 : (Jvm.Cond.methodLink y.cls index xi).before a0 Z = true) (w2 : (Jvm.Cond.declares xi).before a0 Z = true) (w3 : (Jvm.Cond.interfaceMethod xi.cls xi.cls xi.name xi.desc).before a0 Z = true) {K0 : String} (w4 : (Jvm.Cond.selects K0 xi y').before a0 Z = true) (w5 : (Jvm.Cond.instanceMethod y').before a0 Z = true) (w6 : (Jvm.Cond.publicMethod y').before a0 Z = true) (w7 : (Jvm.Cond.unhidden K0 xi.name xi.desc).before a0 Z = true) (w8 : (Jvm.Cond.castable K0 xi.cls).before a0 Z = true) (hfa : (Jvm.Cond.interfaceMethod xi.cls xi.cls xi.name xi.desc).faceAtom = true) (hyi : xi.cls ≠ "java/lang/invoke/MethodHandle" ∧ xi.cls ≠ "java/lang/invoke/VarHandle") (M : Met l Z n0 y' bytes' maxL' ret' [] rm' as' h Q') (wc : (Jvm.Cond.code y' bytes' maxL' ret').before a0 Z = true) (wz : (Jvm.Cond.initialized y'.cls).before a0 Z = true) (hy : y'.cls ≠ "java/lang/invoke/MethodHandle" ∧ y'.cls ≠ "java/lang/invoke/VarHandle") (hf : rm'.frames + 1 ≤ R.frames) (hW : (rest.map fun v => v.category).sum ≤ W) (hl : W + (maxL' + 11) + rm'.locals ≤ R.locals) (hc : cs + rm'.cells ≤ R.cells) (hs : sl + rm'.slots ≤ R.slots) (hsz : Ls.size = maxL) {a : Addr} (E : Exa Z h a K0) (hlen : parseMethodDescriptor xi.desc = some ⟨ps, r'⟩) (hal : argsL.length = ps.length) (hst : st = argsL.reverse ++ .ref a :: rest) (has : as' = (.ref a :: argsL).toArray) (hd : decode bytes pc = .ok (.invokeinterface index count, 5)) (hp : pc + 5 = pc')
    (K : ∀ v h', Q' v h' → Go p l e R s m args below meth c Z n0 Q kc ks h' (cs + rm'.cells) (sl + rm'.slots) (mkF m pc' Ls (v.toList ++ rest))) : Go p l e R s m args below meth c Z n0 Q kc ks h cs sl (mkF m pc Ls st) := fun T L0 hL O X eT => by
  subst hp has hst
  obtain ⟨cq, kq, qa, qb, qc⟩ := isOf C.2.2.2.2.2.1 eT E
  obtain ⟨v, _, ⟨T1, L1, k1, n1⟩, -, X1, ⟨Lc1, q1, l1, y1, z1⟩, s1⟩ := X.interfaceBack C.1 (xi := xi) (y := y') C.2.2.2.2.2.2.1 (mvT C.2.2.2.2.2.1 w1) (mvT C.2.2.2.2.2.1 w2) (mvT C.2.2.2.2.2.1 w3 (by simp [Cond.onTables, Cond.keepsFace, Cond.keeps, Cond.steady, hfa])) (mvT C.2.2.2.2.2.1 w4) (mvT C.2.2.2.2.2.1 w5) (mvT C.2.2.2.2.2.1 w6) (mvT C.2.2.2.2.2.1 w7) (mvT C.2.2.2.2.2.1 w8) hyi (backOf (W := W) (R := R) (p := p) (e := e) (below := below) (args := args) (len := 5) (Q := fun v h L => Fr n0 L ∧ Old Z n0 h ∧ Q' v h) M C.2.2.2.2.2.1 wc wz hf hl) qa qb qc (g := mkF m pc Ls (argsL.reverse ++ .ref a :: rest)) rfl (hsz.trans C.2.2.1.symm) (Steps.refl _) (argsL := argsL) (rest := rest) (lenOf hlen hal) rfl (by show 2 * 0 + _ ≤ _; omega) (hb C.2.1 hd) (fun _ _ => ⟨rfl, eT, hc, hs⟩)
  dsimp only [Pt.U, Pt.locs, Pt.cells, Pt.slots] at X1 l1 y1 z1 s1 q1
  subst l1 y1 z1
  obtain ⟨N, O', q⟩ := q1
  obtain ⟨U, w, L', h1, r⟩ := K v _ q T1 _ (Fr.app hL N) O' X1 rfl
  exact ⟨U, w, L', s1.trans h1, r⟩
def Ar (Z : State) (h : Heap) (a : Addr) (ty : FieldType) (k : ClassId) (vs : List Value) : Prop := ∃ cl : Cell, Arr Z h a cl ty ∧ cl.cls = k ∧ cl.slots.toList = vs
theorem Ar.ext {a : Addr} {ty : FieldType} {k : ClassId} {vs : List Value} (F : Ar Z h a ty k vs) (E : Ext h h') : Ar Z h' a ty k vs := by obtain ⟨cl, A, r⟩ := F; exact ⟨cl, A.ext E, r⟩
theorem Ar.other {a b : Addr} {sl : Nat} {v : Value} {ty : FieldType} {k : ClassId} {vs : List Value} (F : Ar Z h b ty k vs) (W : Wr h h' a sl v) (q : b ≠ a) : Ar Z h' b ty k vs := by obtain ⟨cl, A, r⟩ := F; exact ⟨cl, A.other W q, r⟩
theorem Ar.keep {a : Addr} {ty : FieldType} {k : ClassId} {vs : List Value} {ws : List Addr} (F : Ar Z h a ty k vs) (K : Keep h h' ws) (q : a ∉ ws) : Ar Z h' a ty k vs := by obtain ⟨cl, A, r⟩ := F; exact ⟨cl, ⟨K.2.1 a cl A.1 q, A.2⟩, r⟩
theorem Ar.lt {a : Addr} {ty : FieldType} {k : ClassId} {vs : List Value} (F : Ar Z h a ty k vs) : a < h.size := by obtain ⟨cl, A, r⟩ := F; exact A.lt
theorem Ar.new {a : Addr} {ty : FieldType} {k : ClassId} {n : Int32} {len : Nat} (A : Arr Z h a (newA k ty n) ty) (hn : n.toNatClampNeg = len) : Ar Z h a ty k (List.replicate len (defaultValue ty)) := ⟨_, A, rfl, by subst hn; simp [newA]⟩
theorem Ar.inb {cl : Cell} {vs : List Value} {j : Int32} {i : Nat} (hn : ¬ j < 0) (hj : j.toNatClampNeg = i) (e0 : cl.slots.toList = vs) (hi : i < vs.length) : ¬ (j < 0 ∨ cl.slots.size ≤ j.toNatClampNeg) := by
  subst e0 hj
  rw [Array.length_toList] at hi
  exact fun q => q.elim hn (fun q => absurd hi (Nat.not_lt.mpr q))
theorem Ar.upd {a : Addr} {ty : FieldType} {cl : Cell} {vs : List Value} {j : Int32} {i : Nat} {v : Value} (A : Arr Z h a (cl.setSlot j.toNatClampNeg v) ty) (hj : j.toNatClampNeg = i) (e0 : cl.slots.toList = vs) : Ar Z h a ty cl.cls (vs.set i v) := ⟨_, A, rfl, by subst hj e0; simp [Cell.setSlot]⟩
theorem go_newPA (C : Ctx p s m meth c Z y bytes maxL ret) {aty : ArrayType} {n : Int32} {len : Nat} {ty : FieldType} (hty : newarray.typeOf aty = ty) (w : (Jvm.Cond.arrayClass ty).before a0 Z = true) (hd : decode bytes pc = .ok (.newarray aty, 2)) (hp : pc + 2 = pc') (hn : ¬ n < 0) (hlen : n.toNatClampNeg = len) (hb' : len * 8 ≤ 536870912) (hc : cs + 1 ≤ R.cells) (hl : sl + len ≤ R.slots)
    (K : ∀ h' a k, a = h.size → n0 ≤ a → Ext h h' → Ar Z h' a ty k (List.replicate len (defaultValue ty)) → Go p l e R s m args below meth c Z n0 Q kc ks h' (cs + 1) (sl + len) (mkF m pc' Ls (.ref a :: st))) : Go p l e R s m args below meth c Z n0 Q kc ks h cs sl (mkF m pc Ls (.int n :: st)) := by
  subst hty
  exact go_newP C w hd hp hn (Nat.le_of_eq hlen) hb' hc hl fun h' a k e1 e2 E A => K h' a k e1 e2 E (Ar.new A hlen)
theorem go_newRA (C : Ctx p s m meth c Z y bytes maxL ret) {K0 : String} {index : Nat} {n : Int32} {len : Nat} (w1 : (Jvm.Cond.classLink y.cls index K0).before a0 Z = true) (w2 : (Jvm.Cond.arrayOver (.object K0)).before a0 Z = true) (hd : decode bytes pc = .ok (.anewarray index, 3)) (hp : pc + 3 = pc') (hn : ¬ n < 0) (hlen : n.toNatClampNeg = len) (hb' : len * 8 ≤ 536870912) (hc : cs + 1 ≤ R.cells) (hl : sl + len ≤ R.slots)
    (K : ∀ h' a k, a = h.size → n0 ≤ a → Ext h h' → Ar Z h' a (.object K0) k (List.replicate len .null) → Ovr Z k K0 → Go p l e R s m args below meth c Z n0 Q kc ks h' (cs + 1) (sl + len) (mkF m pc' Ls (.ref a :: st))) : Go p l e R s m args below meth c Z n0 Q kc ks h cs sl (mkF m pc Ls (.int n :: st)) :=
  go_newR C w1 w2 hd hp hn (Nat.le_of_eq hlen) hb' hc hl fun h' a k e1 e2 E A O => K h' a k e1 e2 E (Ar.new A hlen) O
theorem go_iaset (C : Ctx p s m meth c Z y bytes maxL ret) {a : Addr} {k : ClassId} {vs vs' : List Value} {j : Int32} {i : Nat} {x : Int32} (A : Ar Z h a .int k vs) (hn : ¬ j < 0) (hj : j.toNatClampNeg = i) (hi : i < vs.length) (hvs : vs.set i (.int x) = vs') (hd : decode bytes pc = .ok (.iastore, 1)) (hp : pc + 1 = pc') (ha : n0 ≤ a)
    (K : ∀ h', Wr h h' a i (.int x) → Ar Z h' a .int k vs' → Go p l e R s m args below meth c Z n0 Q kc ks h' cs sl (mkF m pc' Ls st)) : Go p l e R s m args below meth c Z n0 Q kc ks h cs sl (mkF m pc Ls (.int x :: .int j :: .ref a :: st)) := by
  obtain ⟨cl, A, rfl, e0⟩ := A
  subst hvs
  exact go_stI C A (Ar.inb hn hj e0 hi) hd hp ha fun h' W A' => K h' (hj ▸ W) (Ar.upd A' hj e0)
theorem go_laset (C : Ctx p s m meth c Z y bytes maxL ret) {a : Addr} {k : ClassId} {vs vs' : List Value} {j : Int32} {i : Nat} {x : Int64} (A : Ar Z h a .long k vs) (hn : ¬ j < 0) (hj : j.toNatClampNeg = i) (hi : i < vs.length) (hvs : vs.set i (.long x) = vs') (hd : decode bytes pc = .ok (.lastore, 1)) (hp : pc + 1 = pc') (ha : n0 ≤ a)
    (K : ∀ h', Wr h h' a i (.long x) → Ar Z h' a .long k vs' → Go p l e R s m args below meth c Z n0 Q kc ks h' cs sl (mkF m pc' Ls st)) : Go p l e R s m args below meth c Z n0 Q kc ks h cs sl (mkF m pc Ls (.long x :: .int j :: .ref a :: st)) := by
  obtain ⟨cl, A, rfl, e0⟩ := A
  subst hvs
  exact go_stJ C A (Ar.inb hn hj e0 hi) hd hp ha fun h' W A' => K h' (hj ▸ W) (Ar.upd A' hj e0)
theorem go_caset (C : Ctx p s m meth c Z y bytes maxL ret) {a : Addr} {k : ClassId} {vs vs' : List Value} {j : Int32} {i : Nat} {x : Int32} (A : Ar Z h a .char k vs) (hn : ¬ j < 0) (hj : j.toNatClampNeg = i) (hi : i < vs.length) (hvs : vs.set i (.int (nar .char x)) = vs') (hd : decode bytes pc = .ok (.castore, 1)) (hp : pc + 1 = pc') (ha : n0 ≤ a)
    (K : ∀ h', Wr h h' a i (.int (nar .char x)) → Ar Z h' a .char k vs' → Go p l e R s m args below meth c Z n0 Q kc ks h' cs sl (mkF m pc' Ls st)) : Go p l e R s m args below meth c Z n0 Q kc ks h cs sl (mkF m pc Ls (.int x :: .int j :: .ref a :: st)) := by
  obtain ⟨cl, A, rfl, e0⟩ := A
  subst hvs
  exact go_stC C A (Ar.inb hn hj e0 hi) hd hp ha fun h' W A' => K h' (hj ▸ W) (Ar.upd A' hj e0)
theorem go_raset (C : Ctx p s m meth c Z y bytes maxL ret) {a b : Addr} {k : ClassId} {K0 : String} {vs vs' : List Value} {j : Int32} {i : Nat} (A : Ar Z h a (.object K0) k vs) (V : Ovr Z k K0) (I : Ins Z h b K0 true) (hn : ¬ j < 0) (hj : j.toNatClampNeg = i) (hi : i < vs.length) (hvs : vs.set i (.ref b) = vs') (hd : decode bytes pc = .ok (.aastore, 1)) (hp : pc + 1 = pc') (ha : n0 ≤ a)
    (K : ∀ h', Wr h h' a i (.ref b) → Ar Z h' a (.object K0) k vs' → Go p l e R s m args below meth c Z n0 Q kc ks h' cs sl (mkF m pc' Ls st)) : Go p l e R s m args below meth c Z n0 Q kc ks h cs sl (mkF m pc Ls (.ref b :: .int j :: .ref a :: st)) := by
  obtain ⟨cl, A, rfl, e0⟩ := A
  subst hvs
  exact go_stR C A (Ar.inb hn hj e0 hi) rfl (Sto.of A V I) hd hp ha fun h' W A' => K h' (hj ▸ W) (Ar.upd A' hj e0)
theorem go_raget (C : Ctx p s m meth c Z y bytes maxL ret) {a : Addr} {k : ClassId} {vs : List Value} {ty : FieldType} {j : Int32} {i : Nat} {v : Value} (A : Ar Z h a ty k vs) (hty : ty.isReference = true) (hn : ¬ j < 0) (hj : j.toNatClampNeg = i) (hv : vs[i]? = some v) (hd : decode bytes pc = .ok (.aaload, 1)) (hp : pc + 1 = pc') (K : Go p l e R s m args below meth c Z n0 Q kc ks h cs sl (mkF m pc' Ls (v :: st))) : Go p l e R s m args below meth c Z n0 Q kc ks h cs sl (mkF m pc Ls (.int j :: .ref a :: st)) := by
  obtain ⟨cl, A, rfl, e0⟩ := A
  exact go_aaload C A hty (Ar.inb hn hj e0 (List.getElem?_eq_some_iff.mp hv).1) (by subst e0 hj; rw [← hv, Array.getElem?_toList]) hd hp K
theorem go_alen (C : Ctx p s m meth c Z y bytes maxL ret) {a : Addr} {k : ClassId} {vs : List Value} {ty : FieldType} {z : Int32} (A : Ar Z h a ty k vs) (hz : vs.length.toInt32 = z) (hd : decode bytes pc = .ok (.arraylength, 1)) (hp : pc + 1 = pc') (K : Go p l e R s m args below meth c Z n0 Q kc ks h cs sl (mkF m pc' Ls (.int z :: st))) : Go p l e R s m args below meth c Z n0 Q kc ks h cs sl (mkF m pc Ls (.ref a :: st)) := by
  obtain ⟨cl, A, rfl, e0⟩ := A
  exact go_arraylength C A (by rw [← hz, ← e0, Array.length_toList]) hd hp K
theorem go_iaget (C : Ctx p s m meth c Z y bytes maxL ret) {a : Addr} {k : ClassId} {vs : List Value} {j : Int32} {i : Nat} {v : Value} (A : Ar Z h a .int k vs) (hn : ¬ j < 0) (hj : j.toNatClampNeg = i) (hv : vs[i]? = some v) (hd : decode bytes pc = .ok (.iaload, 1)) (hp : pc + 1 = pc') (K : Go p l e R s m args below meth c Z n0 Q kc ks h cs sl (mkF m pc' Ls (v :: st))) : Go p l e R s m args below meth c Z n0 Q kc ks h cs sl (mkF m pc Ls (.int j :: .ref a :: st)) := by
  obtain ⟨cl, A, rfl, e0⟩ := A
  exact go_iaload C A (Ar.inb hn hj e0 (List.getElem?_eq_some_iff.mp hv).1) (by subst e0 hj; rw [← hv, Array.getElem?_toList]) hd hp K
theorem go_laget (C : Ctx p s m meth c Z y bytes maxL ret) {a : Addr} {k : ClassId} {vs : List Value} {j : Int32} {i : Nat} {v : Value} (A : Ar Z h a .long k vs) (hn : ¬ j < 0) (hj : j.toNatClampNeg = i) (hv : vs[i]? = some v) (hd : decode bytes pc = .ok (.laload, 1)) (hp : pc + 1 = pc') (K : Go p l e R s m args below meth c Z n0 Q kc ks h cs sl (mkF m pc' Ls (v :: st))) : Go p l e R s m args below meth c Z n0 Q kc ks h cs sl (mkF m pc Ls (.int j :: .ref a :: st)) := by
  obtain ⟨cl, A, rfl, e0⟩ := A
  exact go_laload C A (Ar.inb hn hj e0 (List.getElem?_eq_some_iff.mp hv).1) (by subst e0 hj; rw [← hv, Array.getElem?_toList]) hd hp K
theorem go_caget (C : Ctx p s m meth c Z y bytes maxL ret) {a : Addr} {k : ClassId} {vs : List Value} {j : Int32} {i : Nat} {v : Value} (A : Ar Z h a .char k vs) (hn : ¬ j < 0) (hj : j.toNatClampNeg = i) (hv : vs[i]? = some v) (hd : decode bytes pc = .ok (.caload, 1)) (hp : pc + 1 = pc') (K : Go p l e R s m args below meth c Z n0 Q kc ks h cs sl (mkF m pc' Ls (v :: st))) : Go p l e R s m args below meth c Z n0 Q kc ks h cs sl (mkF m pc Ls (.int j :: .ref a :: st)) := by
  obtain ⟨cl, A, rfl, e0⟩ := A
  exact go_caload C A (Ar.inb hn hj e0 (List.getElem?_eq_some_iff.mp hv).1) (by subst e0 hj; rw [← hv, Array.getElem?_toList]) hd hp K
theorem go_clone (C : Ctx p s m meth c Z y bytes maxL ret) {ad : String} {index : Nat} {a : Addr} {ty : FieldType} {k : ClassId} {vs : List Value} {len W : Nat}
    (w1 : (Jvm.Cond.methodLink y.cls index ⟨ad, "clone", "()Ljava/lang/Object;"⟩).before a0 Z = true) (w2 : (Jvm.Cond.sameMethod ad "java/lang/Object" "clone" "()Ljava/lang/Object;").before a0 Z = true) (w3 : (Jvm.Cond.native ⟨"java/lang/Object", "clone", "()Ljava/lang/Object;"⟩).before a0 Z = true)
    (w4 : (Jvm.Cond.instanceMethod ⟨"java/lang/Object", "clone", "()Ljava/lang/Object;"⟩).before a0 Z = true) (w5 : (Jvm.Cond.selects ad ⟨ad, "clone", "()Ljava/lang/Object;"⟩ ⟨"java/lang/Object", "clone", "()Ljava/lang/Object;"⟩).before a0 Z = true) (w6 : (Jvm.Cond.castable ad "java/lang/Cloneable").before a0 Z = true)
    (A : Ar Z h a ty k vs) (E : Exa Z h a ad) (hfit : ∀ v ∈ vs, fits ty v = true) (hsz : Ls.size = maxL) (hd : decode bytes pc = .ok (.invokevirtual index, 3)) (hp : pc + 3 = pc') (hf : 1 ≤ R.frames) (hW : (st.map fun v => v.category).sum ≤ W) (hl : W + 14 ≤ R.locals) (hlen : vs.length = len) (hc : cs + 1 ≤ R.cells) (hsl : sl + len ≤ R.slots)
    (K : ∀ h' b, b = h.size → n0 ≤ b → Ext h h' → Ar Z h' b ty k vs → Exa Z h' b ad → Go p l e R s m args below meth c Z n0 Q kc ks h' (cs + 1) (sl + len) (mkF m pc' Ls (.ref b :: st))) : Go p l e R s m args below meth c Z n0 Q kc ks h cs sl (mkF m pc Ls (.ref a :: st)) := fun T L0 hL O X eT => by
  subst hp
  obtain ⟨cl, A, hk', e0⟩ := A
  have FC : FitC Z cl := fitC_of A fun i hi v hv => hfit v (by subst e0; exact List.mem_of_getElem? (by rw [Array.getElem?_toList]; exact hv))
  obtain ⟨T', h', X', e', E', A', Ex', hs⟩ := cloneA X C.1 C.2.2.2.2.2.1 C.2.2.2.2.2.2.1 w1 w2 w3 w4 w5 w6 eT A E FC (g := mkF m pc Ls (.ref a :: st)) rfl (hsz.trans C.2.2.1.symm) rfl (hb C.2.1 hd) hf (W := W) (by show 2 * 0 + _ ≤ _; omega) hl (cap := len) (by rw [← hlen, ← e0, Array.length_toList]; exact Nat.le_refl _) hc hsl
  obtain ⟨U, v, L', h1, r⟩ := K h' h.size rfl (O.1 ▸ O.2.1) E' ⟨cloneOf cl, A', hk', e0⟩ Ex' T' _ hL (O.ext E') X' e'
  exact ⟨U, v, L', hs U h1, r⟩
theorem go_newPE (C : Ctx p s m meth c Z y bytes maxL ret) {aty : ArrayType} {n : Int32} {len : Nat} {ty : FieldType} {ad : String} (hty : newarray.typeOf aty = ty) (had : "[" ++ ty.toString = ad) (w : (Jvm.Cond.arrayClass ty).before a0 Z = true) (hd : decode bytes pc = .ok (.newarray aty, 2)) (hp : pc + 2 = pc') (hn : ¬ n < 0) (hlen : n.toNatClampNeg = len) (hb' : len * 8 ≤ 536870912) (hc : cs + 1 ≤ R.cells) (hl : sl + len ≤ R.slots)
    (K : ∀ h' a k, a = h.size → n0 ≤ a → Ext h h' → Ar Z h' a ty k (List.replicate len (defaultValue ty)) → Exa Z h' a ad → Go p l e R s m args below meth c Z n0 Q kc ks h' (cs + 1) (sl + len) (mkF m pc' Ls (.ref a :: st))) : Go p l e R s m args below meth c Z n0 Q kc ks h cs sl (mkF m pc Ls (.int n :: st)) := fun T L0 hL O X eT => by
  subst hp hty
  obtain ⟨T', h', k, X', e', E, A, Ex, hs⟩ := newPE X C.1 C.2.2.2.2.2.1 w eT (g := mkF m pc Ls (.int n :: st)) rfl (hb C.2.1 hd) rfl hn (Nat.le_of_eq hlen) hb' hc hl had
  obtain ⟨U, v, L', h1, r⟩ := K h' h.size k rfl (O.1 ▸ O.2.1) E (Ar.new A hlen) Ex T' _ hL (O.ext E) X' e'
  exact ⟨U, v, L', hs U h1, r⟩
theorem go_newAA (C : Ctx p s m meth c Z y bytes maxL ret) {K0 ad : String} {ty : FieldType} {index : Nat} {n : Int32} {len : Nat} (hC : (FieldType.array ty).toString = K0) (had : "[" ++ K0 = ad) (w1 : (Jvm.Cond.classLink y.cls index K0).before a0 Z = true) (w2 : (Jvm.Cond.arrayOver (.array ty)).before a0 Z = true) (hd : decode bytes pc = .ok (.anewarray index, 3)) (hp : pc + 3 = pc') (hn : ¬ n < 0) (hlen : n.toNatClampNeg = len) (hb' : len * 8 ≤ 536870912) (hc : cs + 1 ≤ R.cells) (hl : sl + len ≤ R.slots)
    (K : ∀ h' a k, a = h.size → n0 ≤ a → Ext h h' → Ar Z h' a (.array ty) k (List.replicate len .null) → OvrA Z k ty K0 → Exa Z h' a ad → Go p l e R s m args below meth c Z n0 Q kc ks h' (cs + 1) (sl + len) (mkF m pc' Ls (.ref a :: st))) : Go p l e R s m args below meth c Z n0 Q kc ks h cs sl (mkF m pc Ls (.int n :: st)) := fun T L0 hL O X eT => by
  subst hp
  obtain ⟨T', h', k, X', e', E, A, Ex, V, hs⟩ := newRA X C.1 C.2.2.2.2.2.1 C.2.2.2.2.2.2.1 hC w1 w2 eT (g := mkF m pc Ls (.int n :: st)) rfl (hb C.2.1 hd) rfl hn (Nat.le_of_eq hlen) hb' hc hl had
  obtain ⟨U, v, L', h1, r⟩ := K h' h.size k rfl (O.1 ▸ O.2.1) E (Ar.new A hlen) V Ex T' _ hL (O.ext E) X' e'
  exact ⟨U, v, L', hs U h1, r⟩
theorem go_aaset (C : Ctx p s m meth c Z y bytes maxL ret) {a b : Addr} {k : ClassId} {K0 : String} {ty : FieldType} {vs vs' : List Value} {j : Int32} {i : Nat} (A : Ar Z h a (.array ty) k vs) (V : OvrA Z k ty K0) (I : Ins Z h b K0 true) (hn : ¬ j < 0) (hj : j.toNatClampNeg = i) (hi : i < vs.length) (hvs : vs.set i (.ref b) = vs') (hd : decode bytes pc = .ok (.aastore, 1)) (hp : pc + 1 = pc') (ha : n0 ≤ a)
    (K : ∀ h', Wr h h' a i (.ref b) → Ar Z h' a (.array ty) k vs' → Go p l e R s m args below meth c Z n0 Q kc ks h' cs sl (mkF m pc' Ls st)) : Go p l e R s m args below meth c Z n0 Q kc ks h cs sl (mkF m pc Ls (.ref b :: .int j :: .ref a :: st)) := by
  obtain ⟨cl, A, rfl, e0⟩ := A
  subst hvs
  exact go_stR C A (Ar.inb hn hj e0 hi) rfl (Sto.ofVA A rfl V I) hd hp ha fun h' W A' => K h' (hj ▸ W) (Ar.upd A' hj e0)
theorem go_dupX2 (C : Ctx p s m meth c Z y bytes maxL ret) {u v w : Value} (hd : decode bytes pc = .ok (.dup_x2, 1)) (hu : u.category = 1) (hv : v.category = 1) (hw : w.category = 1) (hp : pc + 1 = pc') (K : Go p l e R s m args below meth c Z n0 Q kc ks h cs sl (mkF m pc' Ls (u :: v :: w :: u :: st))) : Go p l e R s m args below meth c Z n0 Q kc ks h cs sl (mkF m pc Ls (u :: v :: w :: st)) := by
  subst hp
  refine go_step K fun T t a k => ?_
  have hx := C.1
  have hd' := hb C.2.1 hd
  jvm_step a [a.top, hx, hd', hu, hv, hw]
  exact k
theorem go_callP (C : Ctx p s m meth c Z y bytes maxL ret) {y' : MethodName} {bytes' : ByteArray} {maxL' : Nat} {ret' : Option FieldType} {rm' : Room} {as' : Array Value} {Q' : Option Value → Heap → Prop} {index W : Nat} {argsL rest : List Value} {ps : List FieldType} {r' : Option FieldType} (w1 : (Jvm.Cond.methodLink y.cls index y').before a0 Z = true) (w2 : (Jvm.Cond.instanceMethod y').before a0 Z = true) (w3 : (Jvm.Cond.privateMethod y').before a0 Z = true) {nn : Nat} (wi : (Jvm.Cond.instantiable y'.cls nn).before a0 Z = true) (M : Met l Z n0 y' bytes' maxL' ret' [] rm' as' h Q') (wc : (Jvm.Cond.code y' bytes' maxL' ret').before a0 Z = true) (wz : (Jvm.Cond.initialized y'.cls).before a0 Z = true) (hy : y'.cls ≠ "java/lang/invoke/MethodHandle" ∧ y'.cls ≠ "java/lang/invoke/VarHandle") (hf : rm'.frames + 1 ≤ R.frames) (hW : (rest.map fun v => v.category).sum ≤ W) (hl : W + (maxL' + 11) + rm'.locals ≤ R.locals) (hc : cs + rm'.cells ≤ R.cells) (hs : sl + rm'.slots ≤ R.slots) (hsz : Ls.size = maxL) {a : Addr} {K0 : String} (E : Exa Z h a K0) (hlen : parseMethodDescriptor y'.desc = some ⟨ps, r'⟩) (hal : argsL.length = ps.length) (hst : st = argsL.reverse ++ .ref a :: rest) (has : as' = (.ref a :: argsL).toArray) (hd : decode bytes pc = .ok (.invokevirtual index, 3)) (hp : pc + 3 = pc')
    (K : ∀ v h', Q' v h' → Go p l e R s m args below meth c Z n0 Q kc ks h' (cs + rm'.cells) (sl + rm'.slots) (mkF m pc' Ls (v.toList ++ rest))) : Go p l e R s m args below meth c Z n0 Q kc ks h cs sl (mkF m pc Ls st) := fun T L0 hL O X eT => by
  subst hp has hst
  obtain ⟨mk, methM, hnamed, hmethM, hstM, habM⟩ := Cond.instanceMethod_spec (mvT (args := args) C.2.2.2.2.2.1 w2)
  obtain ⟨methM', cM, hmethM', -, -, -, -, -, -, hsigM⟩ := Cond.code_spec hnamed (mvT (args := args) C.2.2.2.2.2.1 wc)
  cases hmethM.symm.trans hmethM'
  obtain ⟨c0, kP, i1, hkP, -, hkPi0, -⟩ := Cond.instantiable_spec (mvT (args := args) C.2.2.2.2.2.1 wi)
  have hkPi := (Bool.or_eq_false_iff.mp hkPi0).1
  cases (findClass_of_methodNamed hnamed).symm.trans i1
  obtain ⟨cell, hcell0, hobj⟩ := E.cell
  have hcell : T.heap[a]? = some cell := by rw [eT]; exact hcell0
  have hselP : selectMethod e.platform s.vm cell.cls mk = .method mk := selectMethod_private hmethM (Cond.privateMethod_at (mvP (args := args) C.2.2.2.2.2.1 w3) mk methM hnamed hmethM)
  obtain ⟨vm₁, X₁, hstep₁⟩ := X.invokevirtual C.1 C.2.2.2.2.2.2.1 (mvT C.2.2.2.2.2.1 w1) hnamed hmethM hstM hkP hkPi hy (a := a) (cell := cell) hcell hobj hselP hmethM habM hkP hkPi (g := mkF m pc Ls (argsL.reverse ++ .ref a :: rest)) rfl (argsL := argsL) (rest := rest) (lenOf hlen hal _ hsigM) rfl (hb C.2.1 hd)
  obtain ⟨v, ⟨T1, L1, k1, n1⟩, X1, ⟨Lc1, q1, l1, y1, z1⟩, hsteps⟩ := (backOf (W := W) (R := R) (p := p) (e := e) (below := below) (args := args) (len := 3) (Q := fun v h L => Fr n0 L ∧ Old Z n0 h ∧ Q' v h) M C.2.2.2.2.2.1 wc wz hf hl) m meth c ⟨T.setVm vm₁, L0, cs, sl⟩ (mkF m pc Ls rest) (.invokevirtual index) mk (.ref a :: argsL).toArray X₁ rfl (hsz.trans C.2.2.1.symm) (hb C.2.1 hd) (by show 2 * 0 + (rest.map fun v => v.category).sum ≤ W; omega) (X₁.named hnamed) ⟨rfl, eT, hc, hs⟩
  have s1 := (hstep₁ _ fun acts => by rw [doInvoke_state]; exact Steps.refl _).trans hsteps
  dsimp only [Pt.U, Pt.locs, Pt.cells, Pt.slots] at X1 l1 y1 z1 s1 q1
  subst l1 y1 z1
  obtain ⟨N, O', q⟩ := q1
  obtain ⟨U, w, L', h1, r⟩ := K v _ q T1 _ (Fr.app hL N) O' X1 rfl
  exact ⟨U, w, L', s1.trans h1, r⟩
end OwnGo
theorem wd_0 {Z : State} {a0 : Array Value} (hw : ∀ d ∈ tables_1, d.before a0 Z = true) : (Jvm.Cond.classLink "com/example/bitmend/bitmend/files/RecoveryIsCompletePinLaw" (7 : Nat) "com/example/bitmend/bitmend/files/Recovery").before a0 Z = true := hw _ (List.mem_of_getElem? (i := 0) rfl)
theorem wd_1 {Z : State} {a0 : Array Value} (hw : ∀ d ∈ tables_1, d.before a0 Z = true) : (Jvm.Cond.instantiable "com/example/bitmend/bitmend/files/Recovery" (6 : Nat)).before a0 Z = true := hw _ (List.mem_of_getElem? (i := 1) rfl)
theorem wd_2 {Z : State} {a0 : Array Value} (hw : ∀ d ∈ tables_1, d.before a0 Z = true) : (Jvm.Cond.initialized "com/example/bitmend/bitmend/files/Recovery").before a0 Z = true := hw _ (List.mem_of_getElem? (i := 2) rfl)
theorem wd_3 {Z : State} {a0 : Array Value} (hw : ∀ d ∈ tables_1, d.before a0 Z = true) : (Jvm.Cond.methodLink "com/example/bitmend/bitmend/files/RecoveryIsCompletePinLaw" (9 : Nat) ({ cls := "com/example/bitmend/bitmend/files/Recovery", name := "<init>", desc := "(JJJJZZ)V" } : Jvm.MethodName)).before a0 Z = true := hw _ (List.mem_of_getElem? (i := 3) rfl)
theorem wd_4 {Z : State} {a0 : Array Value} (hw : ∀ d ∈ tables_1, d.before a0 Z = true) : (Jvm.Cond.instanceMethod ({ cls := "com/example/bitmend/bitmend/files/Recovery", name := "<init>", desc := "(JJJJZZ)V" } : Jvm.MethodName)).before a0 Z = true := hw _ (List.mem_of_getElem? (i := 4) rfl)
theorem wd_5 {Z : State} {a0 : Array Value} (hw : ∀ d ∈ tables_1, d.before a0 Z = true) : (Jvm.Cond.code ({ cls := "com/example/bitmend/bitmend/files/Recovery", name := "<init>", desc := "(JJJJZZ)V" } : Jvm.MethodName) prog_52_method_1_code (11 : Nat) (Option.none : Option Jvm.ClassFile.FieldType)).before a0 Z = true := hw _ (List.mem_of_getElem? (i := 5) rfl)
theorem wd_6 {Z : State} {a0 : Array Value} (hw : ∀ d ∈ tables_1, d.before a0 Z = true) : (Jvm.Cond.methodLink "com/example/bitmend/bitmend/files/Recovery" (1 : Nat) ({ cls := "java/lang/Record", name := "<init>", desc := "()V" } : Jvm.MethodName)).before a0 Z = true := hw _ (List.mem_of_getElem? (i := 6) rfl)
theorem wd_7 {Z : State} {a0 : Array Value} (hw : ∀ d ∈ tables_1, d.before a0 Z = true) : (Jvm.Cond.instanceMethod ({ cls := "java/lang/Record", name := "<init>", desc := "()V" } : Jvm.MethodName)).before a0 Z = true := hw _ (List.mem_of_getElem? (i := 7) rfl)
theorem wd_9 {Z : State} {a0 : Array Value} (hw : ∀ d ∈ tables_1, d.before a0 Z = true) : (Jvm.Cond.initialized "java/lang/Record").before a0 Z = true := hw _ (List.mem_of_getElem? (i := 9) rfl)
theorem wd_10 {Z : State} {a0 : Array Value} (hw : ∀ d ∈ tables_1, d.before a0 Z = true) : (Jvm.Cond.code ({ cls := "java/lang/Record", name := "<init>", desc := "()V" } : Jvm.MethodName) jdk_30_method_1_code (1 : Nat) (Option.none : Option Jvm.ClassFile.FieldType)).before a0 Z = true := hw _ (List.mem_of_getElem? (i := 10) rfl)
theorem wd_11 {Z : State} {a0 : Array Value} (hw : ∀ d ∈ tables_1, d.before a0 Z = true) : (Jvm.Cond.methodLink "java/lang/Record" (1 : Nat) ({ cls := "java/lang/Object", name := "<init>", desc := "()V" } : Jvm.MethodName)).before a0 Z = true := hw _ (List.mem_of_getElem? (i := 11) rfl)
theorem wd_12 {Z : State} {a0 : Array Value} (hw : ∀ d ∈ tables_1, d.before a0 Z = true) : (Jvm.Cond.instanceMethod ({ cls := "java/lang/Object", name := "<init>", desc := "()V" } : Jvm.MethodName)).before a0 Z = true := hw _ (List.mem_of_getElem? (i := 12) rfl)
theorem wd_13 {Z : State} {a0 : Array Value} (hw : ∀ d ∈ tables_1, d.before a0 Z = true) : (Jvm.Cond.code ({ cls := "java/lang/Object", name := "<init>", desc := "()V" } : Jvm.MethodName) object_method_1_code (1 : Nat) (Option.none : Option Jvm.ClassFile.FieldType)).before a0 Z = true := hw _ (List.mem_of_getElem? (i := 13) rfl)
theorem wd_14 {Z : State} {a0 : Array Value} (hw : ∀ d ∈ tables_1, d.before a0 Z = true) : (Jvm.Cond.fieldLink "com/example/bitmend/bitmend/files/Recovery" (7 : Nat) "com/example/bitmend/bitmend/files/Recovery" "codewords" "J").before a0 Z = true := hw _ (List.mem_of_getElem? (i := 14) rfl)
theorem wd_15 {Z : State} {a0 : Array Value} (hw : ∀ d ∈ tables_1, d.before a0 Z = true) : (Jvm.Cond.laysFinal "com/example/bitmend/bitmend/files/Recovery" "com/example/bitmend/bitmend/files/Recovery" "codewords" "J").before a0 Z = true := hw _ (List.mem_of_getElem? (i := 15) rfl)
theorem wd_16 {Z : State} {a0 : Array Value} (hw : ∀ d ∈ tables_1, d.before a0 Z = true) : (Jvm.Cond.fieldLink "com/example/bitmend/bitmend/files/Recovery" (13 : Nat) "com/example/bitmend/bitmend/files/Recovery" "corrected" "J").before a0 Z = true := hw _ (List.mem_of_getElem? (i := 16) rfl)
theorem wd_17 {Z : State} {a0 : Array Value} (hw : ∀ d ∈ tables_1, d.before a0 Z = true) : (Jvm.Cond.laysFinal "com/example/bitmend/bitmend/files/Recovery" "com/example/bitmend/bitmend/files/Recovery" "corrected" "J").before a0 Z = true := hw _ (List.mem_of_getElem? (i := 17) rfl)
theorem wd_18 {Z : State} {a0 : Array Value} (hw : ∀ d ∈ tables_1, d.before a0 Z = true) : (Jvm.Cond.fieldLink "com/example/bitmend/bitmend/files/Recovery" (16 : Nat) "com/example/bitmend/bitmend/files/Recovery" "uncorrectable" "J").before a0 Z = true := hw _ (List.mem_of_getElem? (i := 18) rfl)
theorem wd_19 {Z : State} {a0 : Array Value} (hw : ∀ d ∈ tables_1, d.before a0 Z = true) : (Jvm.Cond.laysFinal "com/example/bitmend/bitmend/files/Recovery" "com/example/bitmend/bitmend/files/Recovery" "uncorrectable" "J").before a0 Z = true := hw _ (List.mem_of_getElem? (i := 19) rfl)
theorem wd_20 {Z : State} {a0 : Array Value} (hw : ∀ d ∈ tables_1, d.before a0 Z = true) : (Jvm.Cond.fieldLink "com/example/bitmend/bitmend/files/Recovery" (19 : Nat) "com/example/bitmend/bitmend/files/Recovery" "firstUncorrectableOffset" "J").before a0 Z = true := hw _ (List.mem_of_getElem? (i := 20) rfl)
theorem wd_21 {Z : State} {a0 : Array Value} (hw : ∀ d ∈ tables_1, d.before a0 Z = true) : (Jvm.Cond.laysFinal "com/example/bitmend/bitmend/files/Recovery" "com/example/bitmend/bitmend/files/Recovery" "firstUncorrectableOffset" "J").before a0 Z = true := hw _ (List.mem_of_getElem? (i := 21) rfl)
theorem wd_22 {Z : State} {a0 : Array Value} (hw : ∀ d ∈ tables_1, d.before a0 Z = true) : (Jvm.Cond.fieldLink "com/example/bitmend/bitmend/files/Recovery" (22 : Nat) "com/example/bitmend/bitmend/files/Recovery" "checksumChecked" "Z").before a0 Z = true := hw _ (List.mem_of_getElem? (i := 22) rfl)
theorem wd_23 {Z : State} {a0 : Array Value} (hw : ∀ d ∈ tables_1, d.before a0 Z = true) : (Jvm.Cond.laysFinal "com/example/bitmend/bitmend/files/Recovery" "com/example/bitmend/bitmend/files/Recovery" "checksumChecked" "Z").before a0 Z = true := hw _ (List.mem_of_getElem? (i := 23) rfl)
theorem wd_24 {Z : State} {a0 : Array Value} (hw : ∀ d ∈ tables_1, d.before a0 Z = true) : (Jvm.Cond.fieldLink "com/example/bitmend/bitmend/files/Recovery" (26 : Nat) "com/example/bitmend/bitmend/files/Recovery" "checksumMismatch" "Z").before a0 Z = true := hw _ (List.mem_of_getElem? (i := 24) rfl)
theorem wd_25 {Z : State} {a0 : Array Value} (hw : ∀ d ∈ tables_1, d.before a0 Z = true) : (Jvm.Cond.laysFinal "com/example/bitmend/bitmend/files/Recovery" "com/example/bitmend/bitmend/files/Recovery" "checksumMismatch" "Z").before a0 Z = true := hw _ (List.mem_of_getElem? (i := 25) rfl)
theorem wd_26 {Z : State} {a0 : Array Value} (hw : ∀ d ∈ tables_1, d.before a0 Z = true) : (Jvm.Cond.methodLink "com/example/bitmend/bitmend/files/RecoveryIsCompletePinLaw" (12 : Nat) ({ cls := "com/example/bitmend/bitmend/files/Recovery", name := "isComplete", desc := "()Z" } : Jvm.MethodName)).before a0 Z = true := hw _ (List.mem_of_getElem? (i := 26) rfl)
theorem wd_27 {Z : State} {a0 : Array Value} (hw : ∀ d ∈ tables_1, d.before a0 Z = true) : (Jvm.Cond.declares ({ cls := "com/example/bitmend/bitmend/files/Recovery", name := "isComplete", desc := "()Z" } : Jvm.MethodName)).before a0 Z = true := hw _ (List.mem_of_getElem? (i := 27) rfl)
theorem wd_28 {Z : State} {a0 : Array Value} (hw : ∀ d ∈ tables_1, d.before a0 Z = true) : (Jvm.Cond.instanceMethod ({ cls := "com/example/bitmend/bitmend/files/Recovery", name := "isComplete", desc := "()Z" } : Jvm.MethodName)).before a0 Z = true := hw _ (List.mem_of_getElem? (i := 28) rfl)
theorem wd_29 {Z : State} {a0 : Array Value} (hw : ∀ d ∈ tables_1, d.before a0 Z = true) : (Jvm.Cond.selects "com/example/bitmend/bitmend/files/Recovery" ({ cls := "com/example/bitmend/bitmend/files/Recovery", name := "isComplete", desc := "()Z" } : Jvm.MethodName) ({ cls := "com/example/bitmend/bitmend/files/Recovery", name := "isComplete", desc := "()Z" } : Jvm.MethodName)).before a0 Z = true := hw _ (List.mem_of_getElem? (i := 29) rfl)
theorem wd_30 {Z : State} {a0 : Array Value} (hw : ∀ d ∈ tables_1, d.before a0 Z = true) : (Jvm.Cond.code ({ cls := "com/example/bitmend/bitmend/files/Recovery", name := "isComplete", desc := "()Z" } : Jvm.MethodName) prog_52_method_2_code (1 : Nat) (Option.some Jvm.ClassFile.FieldType.boolean)).before a0 Z = true := hw _ (List.mem_of_getElem? (i := 30) rfl)
theorem pd_0 : parseMethodDescriptor "()V" = some ⟨[], none⟩ := by decide +kernel
theorem pd_1 : parseMethodDescriptor "(JJJJZZ)V" = some ⟨[.long, .long, .long, .long, .boolean, .boolean], none⟩ := by decide +kernel
theorem pd_2 : parseMethodDescriptor "()Z" = some ⟨[], some .boolean⟩ := by decide +kernel
theorem dc_jdk_30_method_1_code_0 : decode jdk_30_method_1_code 0 = .ok (.aload_n 0, 1) := by decide +kernel
theorem dc_jdk_30_method_1_code_1 : decode jdk_30_method_1_code 1 = .ok (.invokespecial 1, 3) := by decide +kernel
theorem dc_jdk_30_method_1_code_4 : decode jdk_30_method_1_code 4 = .ok (.return_, 1) := by decide +kernel
theorem dc_prog_52_method_1_code_0 : decode prog_52_method_1_code 0 = .ok (.aload_n 0, 1) := by decide +kernel
theorem dc_prog_52_method_1_code_1 : decode prog_52_method_1_code 1 = .ok (.invokespecial 1, 3) := by decide +kernel
theorem dc_prog_52_method_1_code_4 : decode prog_52_method_1_code 4 = .ok (.aload_n 0, 1) := by decide +kernel
theorem dc_prog_52_method_1_code_5 : decode prog_52_method_1_code 5 = .ok (.lload_n 1, 1) := by decide +kernel
theorem dc_prog_52_method_1_code_6 : decode prog_52_method_1_code 6 = .ok (.putfield 7, 3) := by decide +kernel
theorem dc_prog_52_method_1_code_9 : decode prog_52_method_1_code 9 = .ok (.aload_n 0, 1) := by decide +kernel
theorem dc_prog_52_method_1_code_10 : decode prog_52_method_1_code 10 = .ok (.lload_n 3, 1) := by decide +kernel
theorem dc_prog_52_method_1_code_11 : decode prog_52_method_1_code 11 = .ok (.putfield 13, 3) := by decide +kernel
theorem dc_prog_52_method_1_code_14 : decode prog_52_method_1_code 14 = .ok (.aload_n 0, 1) := by decide +kernel
theorem dc_prog_52_method_1_code_15 : decode prog_52_method_1_code 15 = .ok (.lload 5, 2) := by decide +kernel
theorem dc_prog_52_method_1_code_17 : decode prog_52_method_1_code 17 = .ok (.putfield 16, 3) := by decide +kernel
theorem dc_prog_52_method_1_code_20 : decode prog_52_method_1_code 20 = .ok (.aload_n 0, 1) := by decide +kernel
theorem dc_prog_52_method_1_code_21 : decode prog_52_method_1_code 21 = .ok (.lload 7, 2) := by decide +kernel
theorem dc_prog_52_method_1_code_23 : decode prog_52_method_1_code 23 = .ok (.putfield 19, 3) := by decide +kernel
theorem dc_prog_52_method_1_code_26 : decode prog_52_method_1_code 26 = .ok (.aload_n 0, 1) := by decide +kernel
theorem dc_prog_52_method_1_code_27 : decode prog_52_method_1_code 27 = .ok (.iload 9, 2) := by decide +kernel
theorem dc_prog_52_method_1_code_29 : decode prog_52_method_1_code 29 = .ok (.putfield 22, 3) := by decide +kernel
theorem dc_prog_52_method_1_code_32 : decode prog_52_method_1_code 32 = .ok (.aload_n 0, 1) := by decide +kernel
theorem dc_prog_52_method_1_code_33 : decode prog_52_method_1_code 33 = .ok (.iload 10, 2) := by decide +kernel
theorem dc_prog_52_method_1_code_35 : decode prog_52_method_1_code 35 = .ok (.putfield 26, 3) := by decide +kernel
theorem dc_prog_52_method_1_code_38 : decode prog_52_method_1_code 38 = .ok (.return_, 1) := by decide +kernel
theorem dc_prog_52_method_2_code_0 : decode prog_52_method_2_code 0 = .ok (.aload_n 0, 1) := by decide +kernel
theorem dc_prog_52_method_2_code_1 : decode prog_52_method_2_code 1 = .ok (.getfield 16, 3) := by decide +kernel
theorem dc_prog_52_method_2_code_4 : decode prog_52_method_2_code 4 = .ok (.lconst 0, 1) := by decide +kernel
theorem dc_prog_52_method_2_code_5 : decode prog_52_method_2_code 5 = .ok (.lcmp, 1) := by decide +kernel
theorem dc_prog_52_method_2_code_6 : decode prog_52_method_2_code 6 = .ok (.ifCond .ne 14, 3) := by decide +kernel
theorem dc_prog_52_method_2_code_9 : decode prog_52_method_2_code 9 = .ok (.aload_n 0, 1) := by decide +kernel
theorem dc_prog_52_method_2_code_10 : decode prog_52_method_2_code 10 = .ok (.getfield 26, 3) := by decide +kernel
theorem dc_prog_52_method_2_code_13 : decode prog_52_method_2_code 13 = .ok (.ifCond .ne 7, 3) := by decide +kernel
theorem dc_prog_52_method_2_code_16 : decode prog_52_method_2_code 16 = .ok (.iconst 1, 1) := by decide +kernel
theorem dc_prog_52_method_2_code_17 : decode prog_52_method_2_code 17 = .ok (.goto 4, 3) := by decide +kernel
theorem dc_prog_52_method_2_code_20 : decode prog_52_method_2_code 20 = .ok (.iconst 0, 1) := by decide +kernel
theorem dc_prog_52_method_2_code_21 : decode prog_52_method_2_code 21 = .ok (.ireturn, 1) := by decide +kernel
theorem own_eqI {args : Array Value} {first s : State} {o : Option Outcome} {idx : List Nat} {t : Term} {k : Int32} (h : (Jvm.Cond.eq t (.int k)).value args first o s idx = some true) : t.eval args first o idx s = some (.int k) := by
  simp only [Cond.value, Term.eval] at h
  cases ht : t.eval args first o idx s with
  | none => simp [ht] at h
  | some x => cases x <;> simp [ht] at h ⊢; exact h
set_option maxRecDepth 65536 in
set_option maxHeartbeats 4000000 in
theorem record_met (l : Launch) (Z : State) (a0 : Array Value) (hw : ∀ d ∈ tables_1, d.before a0 Z = true) (n0 : Nat) (h : Heap) (O : Old Z n0 h) (b : Addr) :
    Met l Z n0 (⟨"java/lang/Record", "<init>", "()V"⟩ : MethodName) jdk_30_method_1_code 1 none [] ({ frames := 1, cells := 0, slots := 0, locals := 12 } : Room) #[(.ref b)] h (fun v h' => v = none ∧ h = h') := by
  refine met_of (Ls := #[(.val (.ref b))]) (by decide +kernel) (fun m => by first | rfl | (simp [entryFrame, mkF, argsToLocals, Value.category]; done)) O ?_
  intro p e s m below meth cd C
  refine go_aloadN C (pc' := 1) dc_jdk_30_method_1_code_0 rfl rfl rfl ?_
  refine go_initO C (pc' := 4) (wd_11 hw) (wd_12 hw) (wd_13 hw) rfl dc_jdk_30_method_1_code_1 rfl (by decide) (by decide) ?_
  exact go_ret0 C dc_jdk_30_method_1_code_4 (by decide) (by decide) ⟨rfl, rfl⟩
set_option maxRecDepth 65536 in
set_option maxHeartbeats 4000000 in
theorem init_met (l : Launch) (Z : State) (a0 : Array Value) (hw : ∀ d ∈ tables_1, d.before a0 Z = true) (n0 : Nat) (h : Heap) (O : Old Z n0 h) (b : Addr) (p1 p2 p3 p4 : Int64) (q5 q6 : Int32) (hq5 : nar .boolean q5 = q5) (hq6 : nar .boolean q6 = q6) (E_b : Exa Z h b "com/example/bitmend/bitmend/files/Recovery") (F_b_codewords : Fld Z h b "com/example/bitmend/bitmend/files/Recovery" "codewords" "J" (.long (0 : Int64))) (F_b_corrected : Fld Z h b "com/example/bitmend/bitmend/files/Recovery" "corrected" "J" (.long (0 : Int64))) (F_b_uncorrectable : Fld Z h b "com/example/bitmend/bitmend/files/Recovery" "uncorrectable" "J" (.long (0 : Int64))) (F_b_firstUncorrectableOffset : Fld Z h b "com/example/bitmend/bitmend/files/Recovery" "firstUncorrectableOffset" "J" (.long (0 : Int64))) (F_b_checksumChecked : Fld Z h b "com/example/bitmend/bitmend/files/Recovery" "checksumChecked" "Z" (.int (0 : Int32))) (F_b_checksumMismatch : Fld Z h b "com/example/bitmend/bitmend/files/Recovery" "checksumMismatch" "Z" (.int (0 : Int32))) (nb : n0 ≤ b) :
    Met l Z n0 (⟨"com/example/bitmend/bitmend/files/Recovery", "<init>", "(JJJJZZ)V"⟩ : MethodName) prog_52_method_1_code 11 none [] ({ frames := 2, cells := 0, slots := 0, locals := 24 } : Room) #[(.ref b), (.long p1), (.long p2), (.long p3), (.long p4), (.int q5), (.int q6)] h (fun v h' => v = none ∧ Keep h h' [b] ∧ Fld Z h' b "com/example/bitmend/bitmend/files/Recovery" "uncorrectable" "J" (.long p3) ∧ Fld Z h' b "com/example/bitmend/bitmend/files/Recovery" "checksumMismatch" "Z" (.int q6)) := by
  refine met_of (Ls := #[(.val (.ref b)), (.val (.long p1)), .second, (.val (.long p2)), .second, (.val (.long p3)), .second, (.val (.long p4)), .second, (.val (.int q5)), (.val (.int q6))]) (by decide +kernel) (fun m => by first | rfl | (simp [entryFrame, mkF, argsToLocals, Value.category]; done)) O ?_
  intro p e s m below meth cd C
  refine go_aloadN C (pc' := 1) dc_prog_52_method_1_code_0 rfl rfl rfl ?_
  refine go_callC C (pc' := 4) (y' := (⟨"java/lang/Record", "<init>", "()V"⟩ : MethodName)) (wd_6 hw) (wd_7 hw) rfl rfl (record_met l Z a0 hw _ _ O b) (wd_10 hw) (wd_9 hw) (by decide) (by decide) (W := 0) (Nat.le_of_ble_eq_true rfl) (by decide) (by decide) (by decide) rfl (a := b) (argsL := []) (rest := []) pd_0 rfl rfl rfl dc_prog_52_method_1_code_1 rfl ?_
  rintro _ _ ⟨rfl, rfl⟩
  refine go_st (st' := []) rfl ?_
  refine go_aloadN C (pc' := 5) dc_prog_52_method_1_code_4 rfl rfl rfl ?_
  refine go_lloadN C (pc' := 6) dc_prog_52_method_1_code_5 rfl rfl ?_
  refine go_putF C (pc' := 9) (host := "") (Or.inl (wd_14 hw)) Via.refl F_b_codewords E_b (Or.inr ⟨(wd_15 hw), rfl, rfl⟩) (wd_1 hw) (ty := .long) (by decide) rfl rfl dc_prog_52_method_1_code_6 rfl nb ?_
  intro h1 W1 F1
  refine go_aloadN C (pc' := 10) dc_prog_52_method_1_code_9 rfl rfl rfl ?_
  refine go_lloadN C (pc' := 11) dc_prog_52_method_1_code_10 rfl rfl ?_
  refine go_putF C (pc' := 14) (host := "") (Or.inl (wd_16 hw)) Via.refl (F_b_corrected.other W1 (Or.inr (slot_ne (a0 := a0) (Or.inr (wd_17 hw)) (Or.inr (wd_15 hw)) (by decide) (t := .long) (t' := .long) (by decide) (by decide)))) (E_b.wr W1) (Or.inr ⟨(wd_17 hw), rfl, rfl⟩) (wd_1 hw) (ty := .long) (by decide) rfl rfl dc_prog_52_method_1_code_11 rfl nb ?_
  intro h2 W2 F2
  refine go_aloadN C (pc' := 15) dc_prog_52_method_1_code_14 rfl rfl rfl ?_
  refine go_lload C (pc' := 17) dc_prog_52_method_1_code_15 rfl rfl ?_
  refine go_putF C (pc' := 20) (host := "") (Or.inl (wd_18 hw)) Via.refl ((F_b_uncorrectable.other W1 (Or.inr (slot_ne (a0 := a0) (Or.inr (wd_19 hw)) (Or.inr (wd_15 hw)) (by decide) (t := .long) (t' := .long) (by decide) (by decide)))).other W2 (Or.inr (slot_ne (a0 := a0) (Or.inr (wd_19 hw)) (Or.inr (wd_17 hw)) (by decide) (t := .long) (t' := .long) (by decide) (by decide)))) ((E_b.wr W1).wr W2) (Or.inr ⟨(wd_19 hw), rfl, rfl⟩) (wd_1 hw) (ty := .long) (by decide) rfl rfl dc_prog_52_method_1_code_17 rfl nb ?_
  intro h3 W3 F3
  refine go_aloadN C (pc' := 21) dc_prog_52_method_1_code_20 rfl rfl rfl ?_
  refine go_lload C (pc' := 23) dc_prog_52_method_1_code_21 rfl rfl ?_
  refine go_putF C (pc' := 26) (host := "") (Or.inl (wd_20 hw)) Via.refl (((F_b_firstUncorrectableOffset.other W1 (Or.inr (slot_ne (a0 := a0) (Or.inr (wd_21 hw)) (Or.inr (wd_15 hw)) (by decide) (t := .long) (t' := .long) (by decide) (by decide)))).other W2 (Or.inr (slot_ne (a0 := a0) (Or.inr (wd_21 hw)) (Or.inr (wd_17 hw)) (by decide) (t := .long) (t' := .long) (by decide) (by decide)))).other W3 (Or.inr (slot_ne (a0 := a0) (Or.inr (wd_21 hw)) (Or.inr (wd_19 hw)) (by decide) (t := .long) (t' := .long) (by decide) (by decide)))) (((E_b.wr W1).wr W2).wr W3) (Or.inr ⟨(wd_21 hw), rfl, rfl⟩) (wd_1 hw) (ty := .long) (by decide) rfl rfl dc_prog_52_method_1_code_23 rfl nb ?_
  intro h4 W4 F4
  refine go_aloadN C (pc' := 27) dc_prog_52_method_1_code_26 rfl rfl rfl ?_
  refine go_iload C (pc' := 29) dc_prog_52_method_1_code_27 rfl rfl ?_
  refine go_putFN C (pc' := 32) (wd_22 hw) Via.refl ((((F_b_checksumChecked.other W1 (Or.inr (slot_ne (a0 := a0) (Or.inr (wd_23 hw)) (Or.inr (wd_15 hw)) (by decide) (t := .boolean) (t' := .long) (by decide) (by decide)))).other W2 (Or.inr (slot_ne (a0 := a0) (Or.inr (wd_23 hw)) (Or.inr (wd_17 hw)) (by decide) (t := .boolean) (t' := .long) (by decide) (by decide)))).other W3 (Or.inr (slot_ne (a0 := a0) (Or.inr (wd_23 hw)) (Or.inr (wd_19 hw)) (by decide) (t := .boolean) (t' := .long) (by decide) (by decide)))).other W4 (Or.inr (slot_ne (a0 := a0) (Or.inr (wd_23 hw)) (Or.inr (wd_21 hw)) (by decide) (t := .boolean) (t' := .long) (by decide) (by decide)))) ((((E_b.wr W1).wr W2).wr W3).wr W4) (Or.inr ⟨(wd_23 hw), rfl, rfl⟩) (wd_1 hw) (ty := .boolean) (v' := .int q5) (by decide) (congrArg Value.int hq5) (by rw [← hq5]; exact fits_nar_bool _) dc_prog_52_method_1_code_29 rfl nb ?_
  intro h5 W5 F5
  refine go_aloadN C (pc' := 33) dc_prog_52_method_1_code_32 rfl rfl rfl ?_
  refine go_iload C (pc' := 35) dc_prog_52_method_1_code_33 rfl rfl ?_
  refine go_putFN C (pc' := 38) (wd_24 hw) Via.refl (((((F_b_checksumMismatch.other W1 (Or.inr (slot_ne (a0 := a0) (Or.inr (wd_25 hw)) (Or.inr (wd_15 hw)) (by decide) (t := .boolean) (t' := .long) (by decide) (by decide)))).other W2 (Or.inr (slot_ne (a0 := a0) (Or.inr (wd_25 hw)) (Or.inr (wd_17 hw)) (by decide) (t := .boolean) (t' := .long) (by decide) (by decide)))).other W3 (Or.inr (slot_ne (a0 := a0) (Or.inr (wd_25 hw)) (Or.inr (wd_19 hw)) (by decide) (t := .boolean) (t' := .long) (by decide) (by decide)))).other W4 (Or.inr (slot_ne (a0 := a0) (Or.inr (wd_25 hw)) (Or.inr (wd_21 hw)) (by decide) (t := .boolean) (t' := .long) (by decide) (by decide)))).other W5 (Or.inr (slot_ne (a0 := a0) (Or.inr (wd_25 hw)) (Or.inr (wd_23 hw)) (by decide) (t := .boolean) (t' := .boolean) (by decide) (by decide)))) (((((E_b.wr W1).wr W2).wr W3).wr W4).wr W5) (Or.inr ⟨(wd_25 hw), rfl, rfl⟩) (wd_1 hw) (ty := .boolean) (v' := .int q6) (by decide) (congrArg Value.int hq6) (by rw [← hq6]; exact fits_nar_bool _) dc_prog_52_method_1_code_35 rfl nb ?_
  intro h6 W6 F6
  exact go_ret0 C dc_prog_52_method_1_code_38 (by decide) (by decide) ⟨rfl, (((((((Keep.refl _ [b]).wr W1 (Or.inl (by simp))).wr W2 (Or.inl (by simp))).wr W3 (Or.inl (by simp))).wr W4 (Or.inl (by simp))).wr W5 (Or.inl (by simp))).wr W6 (Or.inl (by simp))), (((F3.other W4 (Or.inr (slot_ne (a0 := a0) (Or.inr (wd_19 hw)) (Or.inr (wd_21 hw)) (by decide) (t := .long) (t' := .long) (by decide) (by decide)))).other W5 (Or.inr (slot_ne (a0 := a0) (Or.inr (wd_19 hw)) (Or.inr (wd_23 hw)) (by decide) (t := .long) (t' := .boolean) (by decide) (by decide)))).other W6 (Or.inr (slot_ne (a0 := a0) (Or.inr (wd_19 hw)) (Or.inr (wd_25 hw)) (by decide) (t := .long) (t' := .boolean) (by decide) (by decide)))), F6⟩
set_option maxRecDepth 65536 in
set_option maxHeartbeats 4000000 in
theorem comp_met (l : Launch) (Z : State) (a0 : Array Value) (hw : ∀ d ∈ tables_1, d.before a0 Z = true) (n0 : Nat) (h : Heap) (O : Old Z n0 h) (b : Addr) (u : Int64) (q r : Int32) (F1 : Fld Z h b "com/example/bitmend/bitmend/files/Recovery" "uncorrectable" "J" (.long u)) (F2 : Fld Z h b "com/example/bitmend/bitmend/files/Recovery" "checksumMismatch" "Z" (.int q)) (hr : (if u = 0 then (if q = 0 then 1 else 0) else 0) = r) :
    Met l Z n0 (⟨"com/example/bitmend/bitmend/files/Recovery", "isComplete", "()Z"⟩ : MethodName) prog_52_method_2_code 1 (some .boolean) [] ({ frames := 0, cells := 0, slots := 0, locals := 0 } : Room) #[(.ref b)] h (fun v h' => v = some (.int r) ∧ h = h') := by
  refine met_of (Ls := #[(.val (.ref b))]) (by decide +kernel) (fun m => by first | rfl | (simp [entryFrame, mkF, argsToLocals, Value.category]; done)) O ?_
  intro p e s m below meth cd C
  refine go_aloadN C (pc' := 1) dc_prog_52_method_2_code_0 rfl rfl rfl ?_
  refine go_getF C (pc' := 4) (host := "") (Or.inl (wd_18 hw)) Via.refl F1 dc_prog_52_method_2_code_1 rfl ?_
  refine go_lconst C (pc' := 5) dc_prog_52_method_2_code_4 (z := (0 : Int64)) (by decide) rfl ?_
  refine go_lcmp C (pc' := 6) dc_prog_52_method_2_code_5 rfl ?_
  by_cases hc1 : (lcmpW u (0 : Int64)) = 0
  · refine go_ifNo C (pc' := 9) dc_prog_52_method_2_code_6 ((if0 _ _).trans (teq hc1).2) rfl ?_
    refine go_aloadN C (pc' := 10) dc_prog_52_method_2_code_9 rfl rfl rfl ?_
    refine go_getF C (pc' := 13) (host := "") (Or.inl (wd_24 hw)) Via.refl F2 dc_prog_52_method_2_code_10 rfl ?_
    by_cases hc2 : q = 0
    · refine go_ifNo C (pc' := 16) dc_prog_52_method_2_code_13 ((if0 _ _).trans (teq hc2).2) rfl ?_
      refine go_iconst C (pc' := 17) dc_prog_52_method_2_code_16 (z := (1 : Int32)) (by decide) rfl ?_
      refine go_goto C (pc' := 21) dc_prog_52_method_2_code_17 (by decide) (by decide) ?_
      exact go_retN C (by simp) (z' := (1 : Int32)) (by decide) dc_prog_52_method_2_code_21 (by decide) (by decide) ⟨congrArg (fun z => some (Value.int z)) (by rw [← hr, if_pos ((lw_eq _ _).mp hc1), if_pos hc2]), rfl⟩
    · refine go_ifYes C (pc' := 20) dc_prog_52_method_2_code_13 ((if0 _ _).trans (feq hc2).2) (by decide) (by decide) ?_
      refine go_iconst C (pc' := 21) dc_prog_52_method_2_code_20 (z := (0 : Int32)) (by decide) rfl ?_
      exact go_retN C (by simp) (z' := (0 : Int32)) (by decide) dc_prog_52_method_2_code_21 (by decide) (by decide) ⟨congrArg (fun z => some (Value.int z)) (by rw [← hr, if_pos ((lw_eq _ _).mp hc1), if_neg hc2]), rfl⟩
  · refine go_ifYes C (pc' := 20) dc_prog_52_method_2_code_6 ((if0 _ _).trans (feq hc1).2) (by decide) (by decide) ?_
    refine go_iconst C (pc' := 21) dc_prog_52_method_2_code_20 (z := (0 : Int32)) (by decide) rfl ?_
    exact go_retN C (by simp) (z' := (0 : Int32)) (by decide) dc_prog_52_method_2_code_21 (by decide) (by decide) ⟨congrArg (fun z => some (Value.int z)) (by rw [← hr, if_neg (fun q => hc1 ((lw_eq _ _).mpr q))]), rfl⟩
set_option maxRecDepth 65536 in
set_option maxHeartbeats 40000000 in
theorem law_met (l : Launch) (Z : State) (a0 : Array Value) (hw : ∀ d ∈ tables_1, d.before a0 Z = true) (x0 : Int64) (x1 : Int64) (x2 : Int64) (x3 : Int64) (x4 : Int32)   :
    Met l Z Z.heap.size x code maxLocals ret tables_1 room_1 #[(.long x0), (.long x1), (.long x2), (.long x3), (.int x4)] Z.heap (fun v _ => v = some (.int (1 : Int32))) := by
  have O := Old.start Z
  refine met_of (Ls := #[(.val (.long x0)), .second, (.val (.long x1)), .second, (.val (.long x2)), .second, (.val (.long x3)), .second, (.val (.int x4)), .unset, .unset, .unset, .unset, .unset, .unset]) (by decide +kernel) (fun m => by first | rfl | (simp [entryFrame, mkF, argsToLocals, Value.category, maxLocals]; done)) O ?_
  intro p e s m below meth cd C
  refine go_iload C (pc' := 2) at_0 rfl rfl ?_
  refine go_iconst C (pc' := 3) at_2 (z := (1 : Int32)) (by decide) rfl ?_
  refine go_iand C (pc' := 4) at_3 rfl ?_
  by_cases hc1 : (x4 &&& (1 : Int32)) = 0
  · refine go_ifYes C (pc' := 11) at_4 ((if0 _ _).trans (teq hc1).1) (by decide) (by decide) ?_
    refine go_iconst C (pc' := 12) at_11 (z := (0 : Int32)) (by decide) rfl ?_
    refine go_istore C (pc' := 14) at_12 (Ls' := #[(.val (.long x0)), .second, (.val (.long x1)), .second, (.val (.long x2)), .second, (.val (.long x3)), .second, (.val (.int x4)), (.val (.int (0 : Int32))), .unset, .unset, .unset, .unset, .unset]) rfl rfl ?_
    refine go_iload C (pc' := 16) at_14 rfl rfl ?_
    refine go_iconst C (pc' := 17) at_16 (z := (2 : Int32)) (by decide) rfl ?_
    refine go_iand C (pc' := 18) at_17 rfl ?_
    by_cases hc2 : (x4 &&& (2 : Int32)) = 0
    · refine go_ifYes C (pc' := 25) at_18 ((if0 _ _).trans (teq hc2).1) (by decide) (by decide) ?_
      refine go_iconst C (pc' := 26) at_25 (z := (0 : Int32)) (by decide) rfl ?_
      refine go_istore C (pc' := 28) at_26 (Ls' := #[(.val (.long x0)), .second, (.val (.long x1)), .second, (.val (.long x2)), .second, (.val (.long x3)), .second, (.val (.int x4)), (.val (.int (0 : Int32))), (.val (.int (0 : Int32))), .unset, .unset, .unset, .unset]) rfl rfl ?_
      refine go_iload C (pc' := 30) at_28 rfl rfl ?_
      refine go_iconst C (pc' := 31) at_30 (z := (4 : Int32)) (by decide) rfl ?_
      refine go_iand C (pc' := 32) at_31 rfl ?_
      by_cases hc3 : (x4 &&& (4 : Int32)) = 0
      · refine go_ifYes C (pc' := 39) at_32 ((if0 _ _).trans (teq hc3).1) (by decide) (by decide) ?_
        refine go_lload C (pc' := 41) at_39 rfl rfl ?_
        refine go_lstore C (pc' := 43) at_41 (Ls' := #[(.val (.long x0)), .second, (.val (.long x1)), .second, (.val (.long x2)), .second, (.val (.long x3)), .second, (.val (.int x4)), (.val (.int (0 : Int32))), (.val (.int (0 : Int32))), (.val (.long x2)), .second, .unset, .unset]) rfl rfl ?_
        refine go_new C (pc' := 46) (wd_0 hw) (wd_1 hw) (wd_2 hw) at_43 rfl (by decide) (by decide) ?_
        intro h4 b4 g4 n4 E4 A4 D4
        have sz_b4 := Nat.le_trans (Nat.le_refl _) (Nat.le_of_eq g4.symm)
        have F4_codewords : Fld Z h4 b4 "com/example/bitmend/bitmend/files/Recovery" "codewords" "J" (.long (0 : Int64)) := D4 (Or.inr (wd_15 hw)) (ty := .long) (by decide)
        have F4_corrected : Fld Z h4 b4 "com/example/bitmend/bitmend/files/Recovery" "corrected" "J" (.long (0 : Int64)) := D4 (Or.inr (wd_17 hw)) (ty := .long) (by decide)
        have F4_uncorrectable : Fld Z h4 b4 "com/example/bitmend/bitmend/files/Recovery" "uncorrectable" "J" (.long (0 : Int64)) := D4 (Or.inr (wd_19 hw)) (ty := .long) (by decide)
        have F4_firstUncorrectableOffset : Fld Z h4 b4 "com/example/bitmend/bitmend/files/Recovery" "firstUncorrectableOffset" "J" (.long (0 : Int64)) := D4 (Or.inr (wd_21 hw)) (ty := .long) (by decide)
        have F4_checksumChecked : Fld Z h4 b4 "com/example/bitmend/bitmend/files/Recovery" "checksumChecked" "Z" (.int (0 : Int32)) := D4 (Or.inr (wd_23 hw)) (ty := .boolean) (by decide)
        have F4_checksumMismatch : Fld Z h4 b4 "com/example/bitmend/bitmend/files/Recovery" "checksumMismatch" "Z" (.int (0 : Int32)) := D4 (Or.inr (wd_25 hw)) (ty := .boolean) (by decide)
        refine go_dup C (pc' := 47) at_46 rfl rfl ?_
        refine go_lloadN C (pc' := 48) at_47 rfl rfl ?_
        refine go_lloadN C (pc' := 49) at_48 rfl rfl ?_
        refine go_lload C (pc' := 51) at_49 rfl rfl ?_
        refine go_lload C (pc' := 53) at_51 rfl rfl ?_
        refine go_iload C (pc' := 55) at_53 rfl rfl ?_
        refine go_iload C (pc' := 57) at_55 rfl rfl ?_
        refine go_old fun O5 => ?_
        refine go_callC C (pc' := 60) (y' := (⟨"com/example/bitmend/bitmend/files/Recovery", "<init>", "(JJJJZZ)V"⟩ : MethodName)) (wd_3 hw) (wd_4 hw) rfl rfl (init_met l Z a0 hw _ _ O5 b4 x0 x1 x2 x3 (0 : Int32) (0 : Int32) (by decide) (by decide) A4 F4_codewords F4_corrected F4_uncorrectable F4_firstUncorrectableOffset F4_checksumChecked F4_checksumMismatch n4) (wd_5 hw) (wd_2 hw) (by decide) (by decide) (W := 1) (Nat.le_of_ble_eq_true rfl) (by decide) (by decide) (by decide) rfl (a := b4) (argsL := [(.long x0), (.long x1), (.long x2), (.long x3), (.int (0 : Int32)), (.int (0 : Int32))]) (rest := [(.ref b4)]) pd_1 rfl rfl rfl at_57 rfl ?_
        rintro _ h5 ⟨rfl, K5, U5, M5⟩
        refine go_st (st' := [(.ref b4)]) rfl ?_
        refine go_astore C (pc' := 62) at_60 rfl (Ls' := #[(.val (.long x0)), .second, (.val (.long x1)), .second, (.val (.long x2)), .second, (.val (.long x3)), .second, (.val (.int x4)), (.val (.int (0 : Int32))), (.val (.int (0 : Int32))), (.val (.long x2)), .second, (.val (.ref b4)), .unset]) rfl rfl ?_
        refine go_iload C (pc' := 64) at_62 rfl rfl ?_
        refine go_ifYes C (pc' := 73) at_64 (by decide) (by decide) (by decide) ?_
        refine go_lload C (pc' := 75) at_73 rfl rfl ?_
        refine go_lconst C (pc' := 76) at_75 (z := (0 : Int64)) (by decide) rfl ?_
        refine go_lcmp C (pc' := 77) at_76 rfl ?_
        by_cases hc6 : (lcmpW x2 (0 : Int64)) = 0
        · refine go_ifNo C (pc' := 80) at_77 ((if0 _ _).trans (teq hc6).2) rfl ?_
          refine go_iconst C (pc' := 81) at_80 (z := (1 : Int32)) (by decide) rfl ?_
          refine go_istore C (pc' := 83) at_81 (Ls' := #[(.val (.long x0)), .second, (.val (.long x1)), .second, (.val (.long x2)), .second, (.val (.long x3)), .second, (.val (.int x4)), (.val (.int (0 : Int32))), (.val (.int (0 : Int32))), (.val (.long x2)), .second, (.val (.ref b4)), (.val (.int (1 : Int32)))]) rfl rfl ?_
          refine go_goto C (pc' := 89) at_83 (by decide) (by decide) ?_
          refine go_aload C (pc' := 91) at_89 rfl rfl rfl ?_
          refine go_old fun O7 => ?_
          refine go_callV C (pc' := 94) (y' := (⟨"com/example/bitmend/bitmend/files/Recovery", "isComplete", "()Z"⟩ : MethodName)) (wd_26 hw) (wd_27 hw) (wd_29 hw) (wd_28 hw) (comp_met l Z a0 hw _ _ O7 b4 x2 (0 : Int32) (1 : Int32) U5 M5 (by rw [if_pos ((lw_eq _ _).mp hc6)]; decide)) (wd_30 hw) (wd_2 hw) (by decide) (by decide) (W := 0) (Nat.le_of_ble_eq_true rfl) (by decide) (by decide) (by decide) rfl (A4.keep K5) (argsL := []) (rest := []) pd_2 rfl rfl rfl at_91 rfl ?_
          rintro _ _ ⟨rfl, rfl⟩
          refine go_st (st' := [(.int (1 : Int32))]) rfl ?_
          refine go_iload C (pc' := 96) at_94 rfl rfl ?_
          refine go_icmpNo C (pc' := 99) at_96 (by decide) rfl ?_
          refine go_iconst C (pc' := 100) at_99 (z := (1 : Int32)) (by decide) rfl ?_
          refine go_goto C (pc' := 104) at_100 (by decide) (by decide) ?_
          exact go_retN C (by simp) (z' := (1 : Int32)) (by decide) at_104 (by decide) (by decide) rfl
        · refine go_ifYes C (pc' := 86) at_77 ((if0 _ _).trans (feq hc6).2) (by decide) (by decide) ?_
          refine go_iconst C (pc' := 87) at_86 (z := (0 : Int32)) (by decide) rfl ?_
          refine go_istore C (pc' := 89) at_87 (Ls' := #[(.val (.long x0)), .second, (.val (.long x1)), .second, (.val (.long x2)), .second, (.val (.long x3)), .second, (.val (.int x4)), (.val (.int (0 : Int32))), (.val (.int (0 : Int32))), (.val (.long x2)), .second, (.val (.ref b4)), (.val (.int (0 : Int32)))]) rfl rfl ?_
          refine go_aload C (pc' := 91) at_89 rfl rfl rfl ?_
          refine go_old fun O8 => ?_
          refine go_callV C (pc' := 94) (y' := (⟨"com/example/bitmend/bitmend/files/Recovery", "isComplete", "()Z"⟩ : MethodName)) (wd_26 hw) (wd_27 hw) (wd_29 hw) (wd_28 hw) (comp_met l Z a0 hw _ _ O8 b4 x2 (0 : Int32) (0 : Int32) U5 M5 (by rw [if_neg (fun q => hc6 ((lw_eq _ _).mpr q))])) (wd_30 hw) (wd_2 hw) (by decide) (by decide) (W := 0) (Nat.le_of_ble_eq_true rfl) (by decide) (by decide) (by decide) rfl (A4.keep K5) (argsL := []) (rest := []) pd_2 rfl rfl rfl at_91 rfl ?_
          rintro _ _ ⟨rfl, rfl⟩
          refine go_st (st' := [(.int (0 : Int32))]) rfl ?_
          refine go_iload C (pc' := 96) at_94 rfl rfl ?_
          refine go_icmpNo C (pc' := 99) at_96 (by decide) rfl ?_
          refine go_iconst C (pc' := 100) at_99 (z := (1 : Int32)) (by decide) rfl ?_
          refine go_goto C (pc' := 104) at_100 (by decide) (by decide) ?_
          exact go_retN C (by simp) (z' := (1 : Int32)) (by decide) at_104 (by decide) (by decide) rfl
      · refine go_ifNo C (pc' := 35) at_32 ((if0 _ _).trans (feq hc3).1) rfl ?_
        refine go_lconst C (pc' := 36) at_35 (z := (0 : Int64)) (by decide) rfl ?_
        refine go_goto C (pc' := 41) at_36 (by decide) (by decide) ?_
        refine go_lstore C (pc' := 43) at_41 (Ls' := #[(.val (.long x0)), .second, (.val (.long x1)), .second, (.val (.long x2)), .second, (.val (.long x3)), .second, (.val (.int x4)), (.val (.int (0 : Int32))), (.val (.int (0 : Int32))), (.val (.long (0 : Int64))), .second, .unset, .unset]) rfl rfl ?_
        refine go_new C (pc' := 46) (wd_0 hw) (wd_1 hw) (wd_2 hw) at_43 rfl (by decide) (by decide) ?_
        intro h9 b9 g9 n9 E9 A9 D9
        have sz_b9 := Nat.le_trans (Nat.le_refl _) (Nat.le_of_eq g9.symm)
        have F9_codewords : Fld Z h9 b9 "com/example/bitmend/bitmend/files/Recovery" "codewords" "J" (.long (0 : Int64)) := D9 (Or.inr (wd_15 hw)) (ty := .long) (by decide)
        have F9_corrected : Fld Z h9 b9 "com/example/bitmend/bitmend/files/Recovery" "corrected" "J" (.long (0 : Int64)) := D9 (Or.inr (wd_17 hw)) (ty := .long) (by decide)
        have F9_uncorrectable : Fld Z h9 b9 "com/example/bitmend/bitmend/files/Recovery" "uncorrectable" "J" (.long (0 : Int64)) := D9 (Or.inr (wd_19 hw)) (ty := .long) (by decide)
        have F9_firstUncorrectableOffset : Fld Z h9 b9 "com/example/bitmend/bitmend/files/Recovery" "firstUncorrectableOffset" "J" (.long (0 : Int64)) := D9 (Or.inr (wd_21 hw)) (ty := .long) (by decide)
        have F9_checksumChecked : Fld Z h9 b9 "com/example/bitmend/bitmend/files/Recovery" "checksumChecked" "Z" (.int (0 : Int32)) := D9 (Or.inr (wd_23 hw)) (ty := .boolean) (by decide)
        have F9_checksumMismatch : Fld Z h9 b9 "com/example/bitmend/bitmend/files/Recovery" "checksumMismatch" "Z" (.int (0 : Int32)) := D9 (Or.inr (wd_25 hw)) (ty := .boolean) (by decide)
        refine go_dup C (pc' := 47) at_46 rfl rfl ?_
        refine go_lloadN C (pc' := 48) at_47 rfl rfl ?_
        refine go_lloadN C (pc' := 49) at_48 rfl rfl ?_
        refine go_lload C (pc' := 51) at_49 rfl rfl ?_
        refine go_lload C (pc' := 53) at_51 rfl rfl ?_
        refine go_iload C (pc' := 55) at_53 rfl rfl ?_
        refine go_iload C (pc' := 57) at_55 rfl rfl ?_
        refine go_old fun O10 => ?_
        refine go_callC C (pc' := 60) (y' := (⟨"com/example/bitmend/bitmend/files/Recovery", "<init>", "(JJJJZZ)V"⟩ : MethodName)) (wd_3 hw) (wd_4 hw) rfl rfl (init_met l Z a0 hw _ _ O10 b9 x0 x1 (0 : Int64) x3 (0 : Int32) (0 : Int32) (by decide) (by decide) A9 F9_codewords F9_corrected F9_uncorrectable F9_firstUncorrectableOffset F9_checksumChecked F9_checksumMismatch n9) (wd_5 hw) (wd_2 hw) (by decide) (by decide) (W := 1) (Nat.le_of_ble_eq_true rfl) (by decide) (by decide) (by decide) rfl (a := b9) (argsL := [(.long x0), (.long x1), (.long (0 : Int64)), (.long x3), (.int (0 : Int32)), (.int (0 : Int32))]) (rest := [(.ref b9)]) pd_1 rfl rfl rfl at_57 rfl ?_
        rintro _ h10 ⟨rfl, K10, U10, M10⟩
        refine go_st (st' := [(.ref b9)]) rfl ?_
        refine go_astore C (pc' := 62) at_60 rfl (Ls' := #[(.val (.long x0)), .second, (.val (.long x1)), .second, (.val (.long x2)), .second, (.val (.long x3)), .second, (.val (.int x4)), (.val (.int (0 : Int32))), (.val (.int (0 : Int32))), (.val (.long (0 : Int64))), .second, (.val (.ref b9)), .unset]) rfl rfl ?_
        refine go_iload C (pc' := 64) at_62 rfl rfl ?_
        refine go_ifYes C (pc' := 73) at_64 (by decide) (by decide) (by decide) ?_
        refine go_lload C (pc' := 75) at_73 rfl rfl ?_
        refine go_lconst C (pc' := 76) at_75 (z := (0 : Int64)) (by decide) rfl ?_
        refine go_lcmp C (pc' := 77) at_76 rfl ?_
        by_cases hc11 : (lcmpW (0 : Int64) (0 : Int64)) = 0
        · refine go_ifNo C (pc' := 80) at_77 ((if0 _ _).trans (teq hc11).2) rfl ?_
          refine go_iconst C (pc' := 81) at_80 (z := (1 : Int32)) (by decide) rfl ?_
          refine go_istore C (pc' := 83) at_81 (Ls' := #[(.val (.long x0)), .second, (.val (.long x1)), .second, (.val (.long x2)), .second, (.val (.long x3)), .second, (.val (.int x4)), (.val (.int (0 : Int32))), (.val (.int (0 : Int32))), (.val (.long (0 : Int64))), .second, (.val (.ref b9)), (.val (.int (1 : Int32)))]) rfl rfl ?_
          refine go_goto C (pc' := 89) at_83 (by decide) (by decide) ?_
          refine go_aload C (pc' := 91) at_89 rfl rfl rfl ?_
          refine go_old fun O12 => ?_
          refine go_callV C (pc' := 94) (y' := (⟨"com/example/bitmend/bitmend/files/Recovery", "isComplete", "()Z"⟩ : MethodName)) (wd_26 hw) (wd_27 hw) (wd_29 hw) (wd_28 hw) (comp_met l Z a0 hw _ _ O12 b9 (0 : Int64) (0 : Int32) (1 : Int32) U10 M10 (by rw [if_pos ((lw_eq _ _).mp hc11)]; decide)) (wd_30 hw) (wd_2 hw) (by decide) (by decide) (W := 0) (Nat.le_of_ble_eq_true rfl) (by decide) (by decide) (by decide) rfl (A9.keep K10) (argsL := []) (rest := []) pd_2 rfl rfl rfl at_91 rfl ?_
          rintro _ _ ⟨rfl, rfl⟩
          refine go_st (st' := [(.int (1 : Int32))]) rfl ?_
          refine go_iload C (pc' := 96) at_94 rfl rfl ?_
          refine go_icmpNo C (pc' := 99) at_96 (by decide) rfl ?_
          refine go_iconst C (pc' := 100) at_99 (z := (1 : Int32)) (by decide) rfl ?_
          refine go_goto C (pc' := 104) at_100 (by decide) (by decide) ?_
          exact go_retN C (by simp) (z' := (1 : Int32)) (by decide) at_104 (by decide) (by decide) rfl
        · refine go_ifYes C (pc' := 86) at_77 ((if0 _ _).trans (feq hc11).2) (by decide) (by decide) ?_
          refine go_iconst C (pc' := 87) at_86 (z := (0 : Int32)) (by decide) rfl ?_
          refine go_istore C (pc' := 89) at_87 (Ls' := #[(.val (.long x0)), .second, (.val (.long x1)), .second, (.val (.long x2)), .second, (.val (.long x3)), .second, (.val (.int x4)), (.val (.int (0 : Int32))), (.val (.int (0 : Int32))), (.val (.long (0 : Int64))), .second, (.val (.ref b9)), (.val (.int (0 : Int32)))]) rfl rfl ?_
          refine go_aload C (pc' := 91) at_89 rfl rfl rfl ?_
          refine go_old fun O13 => ?_
          refine go_callV C (pc' := 94) (y' := (⟨"com/example/bitmend/bitmend/files/Recovery", "isComplete", "()Z"⟩ : MethodName)) (wd_26 hw) (wd_27 hw) (wd_29 hw) (wd_28 hw) (comp_met l Z a0 hw _ _ O13 b9 (0 : Int64) (0 : Int32) (0 : Int32) U10 M10 (by rw [if_neg (fun q => hc11 ((lw_eq _ _).mpr q))])) (wd_30 hw) (wd_2 hw) (by decide) (by decide) (W := 0) (Nat.le_of_ble_eq_true rfl) (by decide) (by decide) (by decide) rfl (A9.keep K10) (argsL := []) (rest := []) pd_2 rfl rfl rfl at_91 rfl ?_
          rintro _ _ ⟨rfl, rfl⟩
          refine go_st (st' := [(.int (0 : Int32))]) rfl ?_
          refine go_iload C (pc' := 96) at_94 rfl rfl ?_
          refine go_icmpNo C (pc' := 99) at_96 (by decide) rfl ?_
          refine go_iconst C (pc' := 100) at_99 (z := (1 : Int32)) (by decide) rfl ?_
          refine go_goto C (pc' := 104) at_100 (by decide) (by decide) ?_
          exact go_retN C (by simp) (z' := (1 : Int32)) (by decide) at_104 (by decide) (by decide) rfl
    · refine go_ifNo C (pc' := 21) at_18 ((if0 _ _).trans (feq hc2).1) rfl ?_
      refine go_iconst C (pc' := 22) at_21 (z := (1 : Int32)) (by decide) rfl ?_
      refine go_goto C (pc' := 26) at_22 (by decide) (by decide) ?_
      refine go_istore C (pc' := 28) at_26 (Ls' := #[(.val (.long x0)), .second, (.val (.long x1)), .second, (.val (.long x2)), .second, (.val (.long x3)), .second, (.val (.int x4)), (.val (.int (0 : Int32))), (.val (.int (1 : Int32))), .unset, .unset, .unset, .unset]) rfl rfl ?_
      refine go_iload C (pc' := 30) at_28 rfl rfl ?_
      refine go_iconst C (pc' := 31) at_30 (z := (4 : Int32)) (by decide) rfl ?_
      refine go_iand C (pc' := 32) at_31 rfl ?_
      by_cases hc14 : (x4 &&& (4 : Int32)) = 0
      · refine go_ifYes C (pc' := 39) at_32 ((if0 _ _).trans (teq hc14).1) (by decide) (by decide) ?_
        refine go_lload C (pc' := 41) at_39 rfl rfl ?_
        refine go_lstore C (pc' := 43) at_41 (Ls' := #[(.val (.long x0)), .second, (.val (.long x1)), .second, (.val (.long x2)), .second, (.val (.long x3)), .second, (.val (.int x4)), (.val (.int (0 : Int32))), (.val (.int (1 : Int32))), (.val (.long x2)), .second, .unset, .unset]) rfl rfl ?_
        refine go_new C (pc' := 46) (wd_0 hw) (wd_1 hw) (wd_2 hw) at_43 rfl (by decide) (by decide) ?_
        intro h15 b15 g15 n15 E15 A15 D15
        have sz_b15 := Nat.le_trans (Nat.le_refl _) (Nat.le_of_eq g15.symm)
        have F15_codewords : Fld Z h15 b15 "com/example/bitmend/bitmend/files/Recovery" "codewords" "J" (.long (0 : Int64)) := D15 (Or.inr (wd_15 hw)) (ty := .long) (by decide)
        have F15_corrected : Fld Z h15 b15 "com/example/bitmend/bitmend/files/Recovery" "corrected" "J" (.long (0 : Int64)) := D15 (Or.inr (wd_17 hw)) (ty := .long) (by decide)
        have F15_uncorrectable : Fld Z h15 b15 "com/example/bitmend/bitmend/files/Recovery" "uncorrectable" "J" (.long (0 : Int64)) := D15 (Or.inr (wd_19 hw)) (ty := .long) (by decide)
        have F15_firstUncorrectableOffset : Fld Z h15 b15 "com/example/bitmend/bitmend/files/Recovery" "firstUncorrectableOffset" "J" (.long (0 : Int64)) := D15 (Or.inr (wd_21 hw)) (ty := .long) (by decide)
        have F15_checksumChecked : Fld Z h15 b15 "com/example/bitmend/bitmend/files/Recovery" "checksumChecked" "Z" (.int (0 : Int32)) := D15 (Or.inr (wd_23 hw)) (ty := .boolean) (by decide)
        have F15_checksumMismatch : Fld Z h15 b15 "com/example/bitmend/bitmend/files/Recovery" "checksumMismatch" "Z" (.int (0 : Int32)) := D15 (Or.inr (wd_25 hw)) (ty := .boolean) (by decide)
        refine go_dup C (pc' := 47) at_46 rfl rfl ?_
        refine go_lloadN C (pc' := 48) at_47 rfl rfl ?_
        refine go_lloadN C (pc' := 49) at_48 rfl rfl ?_
        refine go_lload C (pc' := 51) at_49 rfl rfl ?_
        refine go_lload C (pc' := 53) at_51 rfl rfl ?_
        refine go_iload C (pc' := 55) at_53 rfl rfl ?_
        refine go_iload C (pc' := 57) at_55 rfl rfl ?_
        refine go_old fun O16 => ?_
        refine go_callC C (pc' := 60) (y' := (⟨"com/example/bitmend/bitmend/files/Recovery", "<init>", "(JJJJZZ)V"⟩ : MethodName)) (wd_3 hw) (wd_4 hw) rfl rfl (init_met l Z a0 hw _ _ O16 b15 x0 x1 x2 x3 (0 : Int32) (1 : Int32) (by decide) (by decide) A15 F15_codewords F15_corrected F15_uncorrectable F15_firstUncorrectableOffset F15_checksumChecked F15_checksumMismatch n15) (wd_5 hw) (wd_2 hw) (by decide) (by decide) (W := 1) (Nat.le_of_ble_eq_true rfl) (by decide) (by decide) (by decide) rfl (a := b15) (argsL := [(.long x0), (.long x1), (.long x2), (.long x3), (.int (0 : Int32)), (.int (1 : Int32))]) (rest := [(.ref b15)]) pd_1 rfl rfl rfl at_57 rfl ?_
        rintro _ h16 ⟨rfl, K16, U16, M16⟩
        refine go_st (st' := [(.ref b15)]) rfl ?_
        refine go_astore C (pc' := 62) at_60 rfl (Ls' := #[(.val (.long x0)), .second, (.val (.long x1)), .second, (.val (.long x2)), .second, (.val (.long x3)), .second, (.val (.int x4)), (.val (.int (0 : Int32))), (.val (.int (1 : Int32))), (.val (.long x2)), .second, (.val (.ref b15)), .unset]) rfl rfl ?_
        refine go_iload C (pc' := 64) at_62 rfl rfl ?_
        refine go_ifNo C (pc' := 67) at_64 (by decide) rfl ?_
        refine go_iconst C (pc' := 68) at_67 (z := (0 : Int32)) (by decide) rfl ?_
        refine go_istore C (pc' := 70) at_68 (Ls' := #[(.val (.long x0)), .second, (.val (.long x1)), .second, (.val (.long x2)), .second, (.val (.long x3)), .second, (.val (.int x4)), (.val (.int (0 : Int32))), (.val (.int (1 : Int32))), (.val (.long x2)), .second, (.val (.ref b15)), (.val (.int (0 : Int32)))]) rfl rfl ?_
        refine go_goto C (pc' := 89) at_70 (by decide) (by decide) ?_
        refine go_aload C (pc' := 91) at_89 rfl rfl rfl ?_
        refine go_old fun O17 => ?_
        refine go_callV C (pc' := 94) (y' := (⟨"com/example/bitmend/bitmend/files/Recovery", "isComplete", "()Z"⟩ : MethodName)) (wd_26 hw) (wd_27 hw) (wd_29 hw) (wd_28 hw) (comp_met l Z a0 hw _ _ O17 b15 x2 (1 : Int32) (0 : Int32) U16 M16 (by rw [if_neg (by decide : ¬ ((1 : Int32) = 0)), ite_self])) (wd_30 hw) (wd_2 hw) (by decide) (by decide) (W := 0) (Nat.le_of_ble_eq_true rfl) (by decide) (by decide) (by decide) rfl (A15.keep K16) (argsL := []) (rest := []) pd_2 rfl rfl rfl at_91 rfl ?_
        rintro _ _ ⟨rfl, rfl⟩
        refine go_st (st' := [(.int (0 : Int32))]) rfl ?_
        refine go_iload C (pc' := 96) at_94 rfl rfl ?_
        refine go_icmpNo C (pc' := 99) at_96 (by decide) rfl ?_
        refine go_iconst C (pc' := 100) at_99 (z := (1 : Int32)) (by decide) rfl ?_
        refine go_goto C (pc' := 104) at_100 (by decide) (by decide) ?_
        exact go_retN C (by simp) (z' := (1 : Int32)) (by decide) at_104 (by decide) (by decide) rfl
      · refine go_ifNo C (pc' := 35) at_32 ((if0 _ _).trans (feq hc14).1) rfl ?_
        refine go_lconst C (pc' := 36) at_35 (z := (0 : Int64)) (by decide) rfl ?_
        refine go_goto C (pc' := 41) at_36 (by decide) (by decide) ?_
        refine go_lstore C (pc' := 43) at_41 (Ls' := #[(.val (.long x0)), .second, (.val (.long x1)), .second, (.val (.long x2)), .second, (.val (.long x3)), .second, (.val (.int x4)), (.val (.int (0 : Int32))), (.val (.int (1 : Int32))), (.val (.long (0 : Int64))), .second, .unset, .unset]) rfl rfl ?_
        refine go_new C (pc' := 46) (wd_0 hw) (wd_1 hw) (wd_2 hw) at_43 rfl (by decide) (by decide) ?_
        intro h18 b18 g18 n18 E18 A18 D18
        have sz_b18 := Nat.le_trans (Nat.le_refl _) (Nat.le_of_eq g18.symm)
        have F18_codewords : Fld Z h18 b18 "com/example/bitmend/bitmend/files/Recovery" "codewords" "J" (.long (0 : Int64)) := D18 (Or.inr (wd_15 hw)) (ty := .long) (by decide)
        have F18_corrected : Fld Z h18 b18 "com/example/bitmend/bitmend/files/Recovery" "corrected" "J" (.long (0 : Int64)) := D18 (Or.inr (wd_17 hw)) (ty := .long) (by decide)
        have F18_uncorrectable : Fld Z h18 b18 "com/example/bitmend/bitmend/files/Recovery" "uncorrectable" "J" (.long (0 : Int64)) := D18 (Or.inr (wd_19 hw)) (ty := .long) (by decide)
        have F18_firstUncorrectableOffset : Fld Z h18 b18 "com/example/bitmend/bitmend/files/Recovery" "firstUncorrectableOffset" "J" (.long (0 : Int64)) := D18 (Or.inr (wd_21 hw)) (ty := .long) (by decide)
        have F18_checksumChecked : Fld Z h18 b18 "com/example/bitmend/bitmend/files/Recovery" "checksumChecked" "Z" (.int (0 : Int32)) := D18 (Or.inr (wd_23 hw)) (ty := .boolean) (by decide)
        have F18_checksumMismatch : Fld Z h18 b18 "com/example/bitmend/bitmend/files/Recovery" "checksumMismatch" "Z" (.int (0 : Int32)) := D18 (Or.inr (wd_25 hw)) (ty := .boolean) (by decide)
        refine go_dup C (pc' := 47) at_46 rfl rfl ?_
        refine go_lloadN C (pc' := 48) at_47 rfl rfl ?_
        refine go_lloadN C (pc' := 49) at_48 rfl rfl ?_
        refine go_lload C (pc' := 51) at_49 rfl rfl ?_
        refine go_lload C (pc' := 53) at_51 rfl rfl ?_
        refine go_iload C (pc' := 55) at_53 rfl rfl ?_
        refine go_iload C (pc' := 57) at_55 rfl rfl ?_
        refine go_old fun O19 => ?_
        refine go_callC C (pc' := 60) (y' := (⟨"com/example/bitmend/bitmend/files/Recovery", "<init>", "(JJJJZZ)V"⟩ : MethodName)) (wd_3 hw) (wd_4 hw) rfl rfl (init_met l Z a0 hw _ _ O19 b18 x0 x1 (0 : Int64) x3 (0 : Int32) (1 : Int32) (by decide) (by decide) A18 F18_codewords F18_corrected F18_uncorrectable F18_firstUncorrectableOffset F18_checksumChecked F18_checksumMismatch n18) (wd_5 hw) (wd_2 hw) (by decide) (by decide) (W := 1) (Nat.le_of_ble_eq_true rfl) (by decide) (by decide) (by decide) rfl (a := b18) (argsL := [(.long x0), (.long x1), (.long (0 : Int64)), (.long x3), (.int (0 : Int32)), (.int (1 : Int32))]) (rest := [(.ref b18)]) pd_1 rfl rfl rfl at_57 rfl ?_
        rintro _ h19 ⟨rfl, K19, U19, M19⟩
        refine go_st (st' := [(.ref b18)]) rfl ?_
        refine go_astore C (pc' := 62) at_60 rfl (Ls' := #[(.val (.long x0)), .second, (.val (.long x1)), .second, (.val (.long x2)), .second, (.val (.long x3)), .second, (.val (.int x4)), (.val (.int (0 : Int32))), (.val (.int (1 : Int32))), (.val (.long (0 : Int64))), .second, (.val (.ref b18)), .unset]) rfl rfl ?_
        refine go_iload C (pc' := 64) at_62 rfl rfl ?_
        refine go_ifNo C (pc' := 67) at_64 (by decide) rfl ?_
        refine go_iconst C (pc' := 68) at_67 (z := (0 : Int32)) (by decide) rfl ?_
        refine go_istore C (pc' := 70) at_68 (Ls' := #[(.val (.long x0)), .second, (.val (.long x1)), .second, (.val (.long x2)), .second, (.val (.long x3)), .second, (.val (.int x4)), (.val (.int (0 : Int32))), (.val (.int (1 : Int32))), (.val (.long (0 : Int64))), .second, (.val (.ref b18)), (.val (.int (0 : Int32)))]) rfl rfl ?_
        refine go_goto C (pc' := 89) at_70 (by decide) (by decide) ?_
        refine go_aload C (pc' := 91) at_89 rfl rfl rfl ?_
        refine go_old fun O20 => ?_
        refine go_callV C (pc' := 94) (y' := (⟨"com/example/bitmend/bitmend/files/Recovery", "isComplete", "()Z"⟩ : MethodName)) (wd_26 hw) (wd_27 hw) (wd_29 hw) (wd_28 hw) (comp_met l Z a0 hw _ _ O20 b18 (0 : Int64) (1 : Int32) (0 : Int32) U19 M19 (by rw [if_neg (by decide : ¬ ((1 : Int32) = 0)), ite_self])) (wd_30 hw) (wd_2 hw) (by decide) (by decide) (W := 0) (Nat.le_of_ble_eq_true rfl) (by decide) (by decide) (by decide) rfl (A18.keep K19) (argsL := []) (rest := []) pd_2 rfl rfl rfl at_91 rfl ?_
        rintro _ _ ⟨rfl, rfl⟩
        refine go_st (st' := [(.int (0 : Int32))]) rfl ?_
        refine go_iload C (pc' := 96) at_94 rfl rfl ?_
        refine go_icmpNo C (pc' := 99) at_96 (by decide) rfl ?_
        refine go_iconst C (pc' := 100) at_99 (z := (1 : Int32)) (by decide) rfl ?_
        refine go_goto C (pc' := 104) at_100 (by decide) (by decide) ?_
        exact go_retN C (by simp) (z' := (1 : Int32)) (by decide) at_104 (by decide) (by decide) rfl
  · refine go_ifNo C (pc' := 7) at_4 ((if0 _ _).trans (feq hc1).1) rfl ?_
    refine go_iconst C (pc' := 8) at_7 (z := (1 : Int32)) (by decide) rfl ?_
    refine go_goto C (pc' := 12) at_8 (by decide) (by decide) ?_
    refine go_istore C (pc' := 14) at_12 (Ls' := #[(.val (.long x0)), .second, (.val (.long x1)), .second, (.val (.long x2)), .second, (.val (.long x3)), .second, (.val (.int x4)), (.val (.int (1 : Int32))), .unset, .unset, .unset, .unset, .unset]) rfl rfl ?_
    refine go_iload C (pc' := 16) at_14 rfl rfl ?_
    refine go_iconst C (pc' := 17) at_16 (z := (2 : Int32)) (by decide) rfl ?_
    refine go_iand C (pc' := 18) at_17 rfl ?_
    by_cases hc21 : (x4 &&& (2 : Int32)) = 0
    · refine go_ifYes C (pc' := 25) at_18 ((if0 _ _).trans (teq hc21).1) (by decide) (by decide) ?_
      refine go_iconst C (pc' := 26) at_25 (z := (0 : Int32)) (by decide) rfl ?_
      refine go_istore C (pc' := 28) at_26 (Ls' := #[(.val (.long x0)), .second, (.val (.long x1)), .second, (.val (.long x2)), .second, (.val (.long x3)), .second, (.val (.int x4)), (.val (.int (1 : Int32))), (.val (.int (0 : Int32))), .unset, .unset, .unset, .unset]) rfl rfl ?_
      refine go_iload C (pc' := 30) at_28 rfl rfl ?_
      refine go_iconst C (pc' := 31) at_30 (z := (4 : Int32)) (by decide) rfl ?_
      refine go_iand C (pc' := 32) at_31 rfl ?_
      by_cases hc22 : (x4 &&& (4 : Int32)) = 0
      · refine go_ifYes C (pc' := 39) at_32 ((if0 _ _).trans (teq hc22).1) (by decide) (by decide) ?_
        refine go_lload C (pc' := 41) at_39 rfl rfl ?_
        refine go_lstore C (pc' := 43) at_41 (Ls' := #[(.val (.long x0)), .second, (.val (.long x1)), .second, (.val (.long x2)), .second, (.val (.long x3)), .second, (.val (.int x4)), (.val (.int (1 : Int32))), (.val (.int (0 : Int32))), (.val (.long x2)), .second, .unset, .unset]) rfl rfl ?_
        refine go_new C (pc' := 46) (wd_0 hw) (wd_1 hw) (wd_2 hw) at_43 rfl (by decide) (by decide) ?_
        intro h23 b23 g23 n23 E23 A23 D23
        have sz_b23 := Nat.le_trans (Nat.le_refl _) (Nat.le_of_eq g23.symm)
        have F23_codewords : Fld Z h23 b23 "com/example/bitmend/bitmend/files/Recovery" "codewords" "J" (.long (0 : Int64)) := D23 (Or.inr (wd_15 hw)) (ty := .long) (by decide)
        have F23_corrected : Fld Z h23 b23 "com/example/bitmend/bitmend/files/Recovery" "corrected" "J" (.long (0 : Int64)) := D23 (Or.inr (wd_17 hw)) (ty := .long) (by decide)
        have F23_uncorrectable : Fld Z h23 b23 "com/example/bitmend/bitmend/files/Recovery" "uncorrectable" "J" (.long (0 : Int64)) := D23 (Or.inr (wd_19 hw)) (ty := .long) (by decide)
        have F23_firstUncorrectableOffset : Fld Z h23 b23 "com/example/bitmend/bitmend/files/Recovery" "firstUncorrectableOffset" "J" (.long (0 : Int64)) := D23 (Or.inr (wd_21 hw)) (ty := .long) (by decide)
        have F23_checksumChecked : Fld Z h23 b23 "com/example/bitmend/bitmend/files/Recovery" "checksumChecked" "Z" (.int (0 : Int32)) := D23 (Or.inr (wd_23 hw)) (ty := .boolean) (by decide)
        have F23_checksumMismatch : Fld Z h23 b23 "com/example/bitmend/bitmend/files/Recovery" "checksumMismatch" "Z" (.int (0 : Int32)) := D23 (Or.inr (wd_25 hw)) (ty := .boolean) (by decide)
        refine go_dup C (pc' := 47) at_46 rfl rfl ?_
        refine go_lloadN C (pc' := 48) at_47 rfl rfl ?_
        refine go_lloadN C (pc' := 49) at_48 rfl rfl ?_
        refine go_lload C (pc' := 51) at_49 rfl rfl ?_
        refine go_lload C (pc' := 53) at_51 rfl rfl ?_
        refine go_iload C (pc' := 55) at_53 rfl rfl ?_
        refine go_iload C (pc' := 57) at_55 rfl rfl ?_
        refine go_old fun O24 => ?_
        refine go_callC C (pc' := 60) (y' := (⟨"com/example/bitmend/bitmend/files/Recovery", "<init>", "(JJJJZZ)V"⟩ : MethodName)) (wd_3 hw) (wd_4 hw) rfl rfl (init_met l Z a0 hw _ _ O24 b23 x0 x1 x2 x3 (1 : Int32) (0 : Int32) (by decide) (by decide) A23 F23_codewords F23_corrected F23_uncorrectable F23_firstUncorrectableOffset F23_checksumChecked F23_checksumMismatch n23) (wd_5 hw) (wd_2 hw) (by decide) (by decide) (W := 1) (Nat.le_of_ble_eq_true rfl) (by decide) (by decide) (by decide) rfl (a := b23) (argsL := [(.long x0), (.long x1), (.long x2), (.long x3), (.int (1 : Int32)), (.int (0 : Int32))]) (rest := [(.ref b23)]) pd_1 rfl rfl rfl at_57 rfl ?_
        rintro _ h24 ⟨rfl, K24, U24, M24⟩
        refine go_st (st' := [(.ref b23)]) rfl ?_
        refine go_astore C (pc' := 62) at_60 rfl (Ls' := #[(.val (.long x0)), .second, (.val (.long x1)), .second, (.val (.long x2)), .second, (.val (.long x3)), .second, (.val (.int x4)), (.val (.int (1 : Int32))), (.val (.int (0 : Int32))), (.val (.long x2)), .second, (.val (.ref b23)), .unset]) rfl rfl ?_
        refine go_iload C (pc' := 64) at_62 rfl rfl ?_
        refine go_ifYes C (pc' := 73) at_64 (by decide) (by decide) (by decide) ?_
        refine go_lload C (pc' := 75) at_73 rfl rfl ?_
        refine go_lconst C (pc' := 76) at_75 (z := (0 : Int64)) (by decide) rfl ?_
        refine go_lcmp C (pc' := 77) at_76 rfl ?_
        by_cases hc25 : (lcmpW x2 (0 : Int64)) = 0
        · refine go_ifNo C (pc' := 80) at_77 ((if0 _ _).trans (teq hc25).2) rfl ?_
          refine go_iconst C (pc' := 81) at_80 (z := (1 : Int32)) (by decide) rfl ?_
          refine go_istore C (pc' := 83) at_81 (Ls' := #[(.val (.long x0)), .second, (.val (.long x1)), .second, (.val (.long x2)), .second, (.val (.long x3)), .second, (.val (.int x4)), (.val (.int (1 : Int32))), (.val (.int (0 : Int32))), (.val (.long x2)), .second, (.val (.ref b23)), (.val (.int (1 : Int32)))]) rfl rfl ?_
          refine go_goto C (pc' := 89) at_83 (by decide) (by decide) ?_
          refine go_aload C (pc' := 91) at_89 rfl rfl rfl ?_
          refine go_old fun O26 => ?_
          refine go_callV C (pc' := 94) (y' := (⟨"com/example/bitmend/bitmend/files/Recovery", "isComplete", "()Z"⟩ : MethodName)) (wd_26 hw) (wd_27 hw) (wd_29 hw) (wd_28 hw) (comp_met l Z a0 hw _ _ O26 b23 x2 (0 : Int32) (1 : Int32) U24 M24 (by rw [if_pos ((lw_eq _ _).mp hc25)]; decide)) (wd_30 hw) (wd_2 hw) (by decide) (by decide) (W := 0) (Nat.le_of_ble_eq_true rfl) (by decide) (by decide) (by decide) rfl (A23.keep K24) (argsL := []) (rest := []) pd_2 rfl rfl rfl at_91 rfl ?_
          rintro _ _ ⟨rfl, rfl⟩
          refine go_st (st' := [(.int (1 : Int32))]) rfl ?_
          refine go_iload C (pc' := 96) at_94 rfl rfl ?_
          refine go_icmpNo C (pc' := 99) at_96 (by decide) rfl ?_
          refine go_iconst C (pc' := 100) at_99 (z := (1 : Int32)) (by decide) rfl ?_
          refine go_goto C (pc' := 104) at_100 (by decide) (by decide) ?_
          exact go_retN C (by simp) (z' := (1 : Int32)) (by decide) at_104 (by decide) (by decide) rfl
        · refine go_ifYes C (pc' := 86) at_77 ((if0 _ _).trans (feq hc25).2) (by decide) (by decide) ?_
          refine go_iconst C (pc' := 87) at_86 (z := (0 : Int32)) (by decide) rfl ?_
          refine go_istore C (pc' := 89) at_87 (Ls' := #[(.val (.long x0)), .second, (.val (.long x1)), .second, (.val (.long x2)), .second, (.val (.long x3)), .second, (.val (.int x4)), (.val (.int (1 : Int32))), (.val (.int (0 : Int32))), (.val (.long x2)), .second, (.val (.ref b23)), (.val (.int (0 : Int32)))]) rfl rfl ?_
          refine go_aload C (pc' := 91) at_89 rfl rfl rfl ?_
          refine go_old fun O27 => ?_
          refine go_callV C (pc' := 94) (y' := (⟨"com/example/bitmend/bitmend/files/Recovery", "isComplete", "()Z"⟩ : MethodName)) (wd_26 hw) (wd_27 hw) (wd_29 hw) (wd_28 hw) (comp_met l Z a0 hw _ _ O27 b23 x2 (0 : Int32) (0 : Int32) U24 M24 (by rw [if_neg (fun q => hc25 ((lw_eq _ _).mpr q))])) (wd_30 hw) (wd_2 hw) (by decide) (by decide) (W := 0) (Nat.le_of_ble_eq_true rfl) (by decide) (by decide) (by decide) rfl (A23.keep K24) (argsL := []) (rest := []) pd_2 rfl rfl rfl at_91 rfl ?_
          rintro _ _ ⟨rfl, rfl⟩
          refine go_st (st' := [(.int (0 : Int32))]) rfl ?_
          refine go_iload C (pc' := 96) at_94 rfl rfl ?_
          refine go_icmpNo C (pc' := 99) at_96 (by decide) rfl ?_
          refine go_iconst C (pc' := 100) at_99 (z := (1 : Int32)) (by decide) rfl ?_
          refine go_goto C (pc' := 104) at_100 (by decide) (by decide) ?_
          exact go_retN C (by simp) (z' := (1 : Int32)) (by decide) at_104 (by decide) (by decide) rfl
      · refine go_ifNo C (pc' := 35) at_32 ((if0 _ _).trans (feq hc22).1) rfl ?_
        refine go_lconst C (pc' := 36) at_35 (z := (0 : Int64)) (by decide) rfl ?_
        refine go_goto C (pc' := 41) at_36 (by decide) (by decide) ?_
        refine go_lstore C (pc' := 43) at_41 (Ls' := #[(.val (.long x0)), .second, (.val (.long x1)), .second, (.val (.long x2)), .second, (.val (.long x3)), .second, (.val (.int x4)), (.val (.int (1 : Int32))), (.val (.int (0 : Int32))), (.val (.long (0 : Int64))), .second, .unset, .unset]) rfl rfl ?_
        refine go_new C (pc' := 46) (wd_0 hw) (wd_1 hw) (wd_2 hw) at_43 rfl (by decide) (by decide) ?_
        intro h28 b28 g28 n28 E28 A28 D28
        have sz_b28 := Nat.le_trans (Nat.le_refl _) (Nat.le_of_eq g28.symm)
        have F28_codewords : Fld Z h28 b28 "com/example/bitmend/bitmend/files/Recovery" "codewords" "J" (.long (0 : Int64)) := D28 (Or.inr (wd_15 hw)) (ty := .long) (by decide)
        have F28_corrected : Fld Z h28 b28 "com/example/bitmend/bitmend/files/Recovery" "corrected" "J" (.long (0 : Int64)) := D28 (Or.inr (wd_17 hw)) (ty := .long) (by decide)
        have F28_uncorrectable : Fld Z h28 b28 "com/example/bitmend/bitmend/files/Recovery" "uncorrectable" "J" (.long (0 : Int64)) := D28 (Or.inr (wd_19 hw)) (ty := .long) (by decide)
        have F28_firstUncorrectableOffset : Fld Z h28 b28 "com/example/bitmend/bitmend/files/Recovery" "firstUncorrectableOffset" "J" (.long (0 : Int64)) := D28 (Or.inr (wd_21 hw)) (ty := .long) (by decide)
        have F28_checksumChecked : Fld Z h28 b28 "com/example/bitmend/bitmend/files/Recovery" "checksumChecked" "Z" (.int (0 : Int32)) := D28 (Or.inr (wd_23 hw)) (ty := .boolean) (by decide)
        have F28_checksumMismatch : Fld Z h28 b28 "com/example/bitmend/bitmend/files/Recovery" "checksumMismatch" "Z" (.int (0 : Int32)) := D28 (Or.inr (wd_25 hw)) (ty := .boolean) (by decide)
        refine go_dup C (pc' := 47) at_46 rfl rfl ?_
        refine go_lloadN C (pc' := 48) at_47 rfl rfl ?_
        refine go_lloadN C (pc' := 49) at_48 rfl rfl ?_
        refine go_lload C (pc' := 51) at_49 rfl rfl ?_
        refine go_lload C (pc' := 53) at_51 rfl rfl ?_
        refine go_iload C (pc' := 55) at_53 rfl rfl ?_
        refine go_iload C (pc' := 57) at_55 rfl rfl ?_
        refine go_old fun O29 => ?_
        refine go_callC C (pc' := 60) (y' := (⟨"com/example/bitmend/bitmend/files/Recovery", "<init>", "(JJJJZZ)V"⟩ : MethodName)) (wd_3 hw) (wd_4 hw) rfl rfl (init_met l Z a0 hw _ _ O29 b28 x0 x1 (0 : Int64) x3 (1 : Int32) (0 : Int32) (by decide) (by decide) A28 F28_codewords F28_corrected F28_uncorrectable F28_firstUncorrectableOffset F28_checksumChecked F28_checksumMismatch n28) (wd_5 hw) (wd_2 hw) (by decide) (by decide) (W := 1) (Nat.le_of_ble_eq_true rfl) (by decide) (by decide) (by decide) rfl (a := b28) (argsL := [(.long x0), (.long x1), (.long (0 : Int64)), (.long x3), (.int (1 : Int32)), (.int (0 : Int32))]) (rest := [(.ref b28)]) pd_1 rfl rfl rfl at_57 rfl ?_
        rintro _ h29 ⟨rfl, K29, U29, M29⟩
        refine go_st (st' := [(.ref b28)]) rfl ?_
        refine go_astore C (pc' := 62) at_60 rfl (Ls' := #[(.val (.long x0)), .second, (.val (.long x1)), .second, (.val (.long x2)), .second, (.val (.long x3)), .second, (.val (.int x4)), (.val (.int (1 : Int32))), (.val (.int (0 : Int32))), (.val (.long (0 : Int64))), .second, (.val (.ref b28)), .unset]) rfl rfl ?_
        refine go_iload C (pc' := 64) at_62 rfl rfl ?_
        refine go_ifYes C (pc' := 73) at_64 (by decide) (by decide) (by decide) ?_
        refine go_lload C (pc' := 75) at_73 rfl rfl ?_
        refine go_lconst C (pc' := 76) at_75 (z := (0 : Int64)) (by decide) rfl ?_
        refine go_lcmp C (pc' := 77) at_76 rfl ?_
        by_cases hc30 : (lcmpW (0 : Int64) (0 : Int64)) = 0
        · refine go_ifNo C (pc' := 80) at_77 ((if0 _ _).trans (teq hc30).2) rfl ?_
          refine go_iconst C (pc' := 81) at_80 (z := (1 : Int32)) (by decide) rfl ?_
          refine go_istore C (pc' := 83) at_81 (Ls' := #[(.val (.long x0)), .second, (.val (.long x1)), .second, (.val (.long x2)), .second, (.val (.long x3)), .second, (.val (.int x4)), (.val (.int (1 : Int32))), (.val (.int (0 : Int32))), (.val (.long (0 : Int64))), .second, (.val (.ref b28)), (.val (.int (1 : Int32)))]) rfl rfl ?_
          refine go_goto C (pc' := 89) at_83 (by decide) (by decide) ?_
          refine go_aload C (pc' := 91) at_89 rfl rfl rfl ?_
          refine go_old fun O31 => ?_
          refine go_callV C (pc' := 94) (y' := (⟨"com/example/bitmend/bitmend/files/Recovery", "isComplete", "()Z"⟩ : MethodName)) (wd_26 hw) (wd_27 hw) (wd_29 hw) (wd_28 hw) (comp_met l Z a0 hw _ _ O31 b28 (0 : Int64) (0 : Int32) (1 : Int32) U29 M29 (by rw [if_pos ((lw_eq _ _).mp hc30)]; decide)) (wd_30 hw) (wd_2 hw) (by decide) (by decide) (W := 0) (Nat.le_of_ble_eq_true rfl) (by decide) (by decide) (by decide) rfl (A28.keep K29) (argsL := []) (rest := []) pd_2 rfl rfl rfl at_91 rfl ?_
          rintro _ _ ⟨rfl, rfl⟩
          refine go_st (st' := [(.int (1 : Int32))]) rfl ?_
          refine go_iload C (pc' := 96) at_94 rfl rfl ?_
          refine go_icmpNo C (pc' := 99) at_96 (by decide) rfl ?_
          refine go_iconst C (pc' := 100) at_99 (z := (1 : Int32)) (by decide) rfl ?_
          refine go_goto C (pc' := 104) at_100 (by decide) (by decide) ?_
          exact go_retN C (by simp) (z' := (1 : Int32)) (by decide) at_104 (by decide) (by decide) rfl
        · refine go_ifYes C (pc' := 86) at_77 ((if0 _ _).trans (feq hc30).2) (by decide) (by decide) ?_
          refine go_iconst C (pc' := 87) at_86 (z := (0 : Int32)) (by decide) rfl ?_
          refine go_istore C (pc' := 89) at_87 (Ls' := #[(.val (.long x0)), .second, (.val (.long x1)), .second, (.val (.long x2)), .second, (.val (.long x3)), .second, (.val (.int x4)), (.val (.int (1 : Int32))), (.val (.int (0 : Int32))), (.val (.long (0 : Int64))), .second, (.val (.ref b28)), (.val (.int (0 : Int32)))]) rfl rfl ?_
          refine go_aload C (pc' := 91) at_89 rfl rfl rfl ?_
          refine go_old fun O32 => ?_
          refine go_callV C (pc' := 94) (y' := (⟨"com/example/bitmend/bitmend/files/Recovery", "isComplete", "()Z"⟩ : MethodName)) (wd_26 hw) (wd_27 hw) (wd_29 hw) (wd_28 hw) (comp_met l Z a0 hw _ _ O32 b28 (0 : Int64) (0 : Int32) (0 : Int32) U29 M29 (by rw [if_neg (fun q => hc30 ((lw_eq _ _).mpr q))])) (wd_30 hw) (wd_2 hw) (by decide) (by decide) (W := 0) (Nat.le_of_ble_eq_true rfl) (by decide) (by decide) (by decide) rfl (A28.keep K29) (argsL := []) (rest := []) pd_2 rfl rfl rfl at_91 rfl ?_
          rintro _ _ ⟨rfl, rfl⟩
          refine go_st (st' := [(.int (0 : Int32))]) rfl ?_
          refine go_iload C (pc' := 96) at_94 rfl rfl ?_
          refine go_icmpNo C (pc' := 99) at_96 (by decide) rfl ?_
          refine go_iconst C (pc' := 100) at_99 (z := (1 : Int32)) (by decide) rfl ?_
          refine go_goto C (pc' := 104) at_100 (by decide) (by decide) ?_
          exact go_retN C (by simp) (z' := (1 : Int32)) (by decide) at_104 (by decide) (by decide) rfl
    · refine go_ifNo C (pc' := 21) at_18 ((if0 _ _).trans (feq hc21).1) rfl ?_
      refine go_iconst C (pc' := 22) at_21 (z := (1 : Int32)) (by decide) rfl ?_
      refine go_goto C (pc' := 26) at_22 (by decide) (by decide) ?_
      refine go_istore C (pc' := 28) at_26 (Ls' := #[(.val (.long x0)), .second, (.val (.long x1)), .second, (.val (.long x2)), .second, (.val (.long x3)), .second, (.val (.int x4)), (.val (.int (1 : Int32))), (.val (.int (1 : Int32))), .unset, .unset, .unset, .unset]) rfl rfl ?_
      refine go_iload C (pc' := 30) at_28 rfl rfl ?_
      refine go_iconst C (pc' := 31) at_30 (z := (4 : Int32)) (by decide) rfl ?_
      refine go_iand C (pc' := 32) at_31 rfl ?_
      by_cases hc33 : (x4 &&& (4 : Int32)) = 0
      · refine go_ifYes C (pc' := 39) at_32 ((if0 _ _).trans (teq hc33).1) (by decide) (by decide) ?_
        refine go_lload C (pc' := 41) at_39 rfl rfl ?_
        refine go_lstore C (pc' := 43) at_41 (Ls' := #[(.val (.long x0)), .second, (.val (.long x1)), .second, (.val (.long x2)), .second, (.val (.long x3)), .second, (.val (.int x4)), (.val (.int (1 : Int32))), (.val (.int (1 : Int32))), (.val (.long x2)), .second, .unset, .unset]) rfl rfl ?_
        refine go_new C (pc' := 46) (wd_0 hw) (wd_1 hw) (wd_2 hw) at_43 rfl (by decide) (by decide) ?_
        intro h34 b34 g34 n34 E34 A34 D34
        have sz_b34 := Nat.le_trans (Nat.le_refl _) (Nat.le_of_eq g34.symm)
        have F34_codewords : Fld Z h34 b34 "com/example/bitmend/bitmend/files/Recovery" "codewords" "J" (.long (0 : Int64)) := D34 (Or.inr (wd_15 hw)) (ty := .long) (by decide)
        have F34_corrected : Fld Z h34 b34 "com/example/bitmend/bitmend/files/Recovery" "corrected" "J" (.long (0 : Int64)) := D34 (Or.inr (wd_17 hw)) (ty := .long) (by decide)
        have F34_uncorrectable : Fld Z h34 b34 "com/example/bitmend/bitmend/files/Recovery" "uncorrectable" "J" (.long (0 : Int64)) := D34 (Or.inr (wd_19 hw)) (ty := .long) (by decide)
        have F34_firstUncorrectableOffset : Fld Z h34 b34 "com/example/bitmend/bitmend/files/Recovery" "firstUncorrectableOffset" "J" (.long (0 : Int64)) := D34 (Or.inr (wd_21 hw)) (ty := .long) (by decide)
        have F34_checksumChecked : Fld Z h34 b34 "com/example/bitmend/bitmend/files/Recovery" "checksumChecked" "Z" (.int (0 : Int32)) := D34 (Or.inr (wd_23 hw)) (ty := .boolean) (by decide)
        have F34_checksumMismatch : Fld Z h34 b34 "com/example/bitmend/bitmend/files/Recovery" "checksumMismatch" "Z" (.int (0 : Int32)) := D34 (Or.inr (wd_25 hw)) (ty := .boolean) (by decide)
        refine go_dup C (pc' := 47) at_46 rfl rfl ?_
        refine go_lloadN C (pc' := 48) at_47 rfl rfl ?_
        refine go_lloadN C (pc' := 49) at_48 rfl rfl ?_
        refine go_lload C (pc' := 51) at_49 rfl rfl ?_
        refine go_lload C (pc' := 53) at_51 rfl rfl ?_
        refine go_iload C (pc' := 55) at_53 rfl rfl ?_
        refine go_iload C (pc' := 57) at_55 rfl rfl ?_
        refine go_old fun O35 => ?_
        refine go_callC C (pc' := 60) (y' := (⟨"com/example/bitmend/bitmend/files/Recovery", "<init>", "(JJJJZZ)V"⟩ : MethodName)) (wd_3 hw) (wd_4 hw) rfl rfl (init_met l Z a0 hw _ _ O35 b34 x0 x1 x2 x3 (1 : Int32) (1 : Int32) (by decide) (by decide) A34 F34_codewords F34_corrected F34_uncorrectable F34_firstUncorrectableOffset F34_checksumChecked F34_checksumMismatch n34) (wd_5 hw) (wd_2 hw) (by decide) (by decide) (W := 1) (Nat.le_of_ble_eq_true rfl) (by decide) (by decide) (by decide) rfl (a := b34) (argsL := [(.long x0), (.long x1), (.long x2), (.long x3), (.int (1 : Int32)), (.int (1 : Int32))]) (rest := [(.ref b34)]) pd_1 rfl rfl rfl at_57 rfl ?_
        rintro _ h35 ⟨rfl, K35, U35, M35⟩
        refine go_st (st' := [(.ref b34)]) rfl ?_
        refine go_astore C (pc' := 62) at_60 rfl (Ls' := #[(.val (.long x0)), .second, (.val (.long x1)), .second, (.val (.long x2)), .second, (.val (.long x3)), .second, (.val (.int x4)), (.val (.int (1 : Int32))), (.val (.int (1 : Int32))), (.val (.long x2)), .second, (.val (.ref b34)), .unset]) rfl rfl ?_
        refine go_iload C (pc' := 64) at_62 rfl rfl ?_
        refine go_ifNo C (pc' := 67) at_64 (by decide) rfl ?_
        refine go_iconst C (pc' := 68) at_67 (z := (0 : Int32)) (by decide) rfl ?_
        refine go_istore C (pc' := 70) at_68 (Ls' := #[(.val (.long x0)), .second, (.val (.long x1)), .second, (.val (.long x2)), .second, (.val (.long x3)), .second, (.val (.int x4)), (.val (.int (1 : Int32))), (.val (.int (1 : Int32))), (.val (.long x2)), .second, (.val (.ref b34)), (.val (.int (0 : Int32)))]) rfl rfl ?_
        refine go_goto C (pc' := 89) at_70 (by decide) (by decide) ?_
        refine go_aload C (pc' := 91) at_89 rfl rfl rfl ?_
        refine go_old fun O36 => ?_
        refine go_callV C (pc' := 94) (y' := (⟨"com/example/bitmend/bitmend/files/Recovery", "isComplete", "()Z"⟩ : MethodName)) (wd_26 hw) (wd_27 hw) (wd_29 hw) (wd_28 hw) (comp_met l Z a0 hw _ _ O36 b34 x2 (1 : Int32) (0 : Int32) U35 M35 (by rw [if_neg (by decide : ¬ ((1 : Int32) = 0)), ite_self])) (wd_30 hw) (wd_2 hw) (by decide) (by decide) (W := 0) (Nat.le_of_ble_eq_true rfl) (by decide) (by decide) (by decide) rfl (A34.keep K35) (argsL := []) (rest := []) pd_2 rfl rfl rfl at_91 rfl ?_
        rintro _ _ ⟨rfl, rfl⟩
        refine go_st (st' := [(.int (0 : Int32))]) rfl ?_
        refine go_iload C (pc' := 96) at_94 rfl rfl ?_
        refine go_icmpNo C (pc' := 99) at_96 (by decide) rfl ?_
        refine go_iconst C (pc' := 100) at_99 (z := (1 : Int32)) (by decide) rfl ?_
        refine go_goto C (pc' := 104) at_100 (by decide) (by decide) ?_
        exact go_retN C (by simp) (z' := (1 : Int32)) (by decide) at_104 (by decide) (by decide) rfl
      · refine go_ifNo C (pc' := 35) at_32 ((if0 _ _).trans (feq hc33).1) rfl ?_
        refine go_lconst C (pc' := 36) at_35 (z := (0 : Int64)) (by decide) rfl ?_
        refine go_goto C (pc' := 41) at_36 (by decide) (by decide) ?_
        refine go_lstore C (pc' := 43) at_41 (Ls' := #[(.val (.long x0)), .second, (.val (.long x1)), .second, (.val (.long x2)), .second, (.val (.long x3)), .second, (.val (.int x4)), (.val (.int (1 : Int32))), (.val (.int (1 : Int32))), (.val (.long (0 : Int64))), .second, .unset, .unset]) rfl rfl ?_
        refine go_new C (pc' := 46) (wd_0 hw) (wd_1 hw) (wd_2 hw) at_43 rfl (by decide) (by decide) ?_
        intro h37 b37 g37 n37 E37 A37 D37
        have sz_b37 := Nat.le_trans (Nat.le_refl _) (Nat.le_of_eq g37.symm)
        have F37_codewords : Fld Z h37 b37 "com/example/bitmend/bitmend/files/Recovery" "codewords" "J" (.long (0 : Int64)) := D37 (Or.inr (wd_15 hw)) (ty := .long) (by decide)
        have F37_corrected : Fld Z h37 b37 "com/example/bitmend/bitmend/files/Recovery" "corrected" "J" (.long (0 : Int64)) := D37 (Or.inr (wd_17 hw)) (ty := .long) (by decide)
        have F37_uncorrectable : Fld Z h37 b37 "com/example/bitmend/bitmend/files/Recovery" "uncorrectable" "J" (.long (0 : Int64)) := D37 (Or.inr (wd_19 hw)) (ty := .long) (by decide)
        have F37_firstUncorrectableOffset : Fld Z h37 b37 "com/example/bitmend/bitmend/files/Recovery" "firstUncorrectableOffset" "J" (.long (0 : Int64)) := D37 (Or.inr (wd_21 hw)) (ty := .long) (by decide)
        have F37_checksumChecked : Fld Z h37 b37 "com/example/bitmend/bitmend/files/Recovery" "checksumChecked" "Z" (.int (0 : Int32)) := D37 (Or.inr (wd_23 hw)) (ty := .boolean) (by decide)
        have F37_checksumMismatch : Fld Z h37 b37 "com/example/bitmend/bitmend/files/Recovery" "checksumMismatch" "Z" (.int (0 : Int32)) := D37 (Or.inr (wd_25 hw)) (ty := .boolean) (by decide)
        refine go_dup C (pc' := 47) at_46 rfl rfl ?_
        refine go_lloadN C (pc' := 48) at_47 rfl rfl ?_
        refine go_lloadN C (pc' := 49) at_48 rfl rfl ?_
        refine go_lload C (pc' := 51) at_49 rfl rfl ?_
        refine go_lload C (pc' := 53) at_51 rfl rfl ?_
        refine go_iload C (pc' := 55) at_53 rfl rfl ?_
        refine go_iload C (pc' := 57) at_55 rfl rfl ?_
        refine go_old fun O38 => ?_
        refine go_callC C (pc' := 60) (y' := (⟨"com/example/bitmend/bitmend/files/Recovery", "<init>", "(JJJJZZ)V"⟩ : MethodName)) (wd_3 hw) (wd_4 hw) rfl rfl (init_met l Z a0 hw _ _ O38 b37 x0 x1 (0 : Int64) x3 (1 : Int32) (1 : Int32) (by decide) (by decide) A37 F37_codewords F37_corrected F37_uncorrectable F37_firstUncorrectableOffset F37_checksumChecked F37_checksumMismatch n37) (wd_5 hw) (wd_2 hw) (by decide) (by decide) (W := 1) (Nat.le_of_ble_eq_true rfl) (by decide) (by decide) (by decide) rfl (a := b37) (argsL := [(.long x0), (.long x1), (.long (0 : Int64)), (.long x3), (.int (1 : Int32)), (.int (1 : Int32))]) (rest := [(.ref b37)]) pd_1 rfl rfl rfl at_57 rfl ?_
        rintro _ h38 ⟨rfl, K38, U38, M38⟩
        refine go_st (st' := [(.ref b37)]) rfl ?_
        refine go_astore C (pc' := 62) at_60 rfl (Ls' := #[(.val (.long x0)), .second, (.val (.long x1)), .second, (.val (.long x2)), .second, (.val (.long x3)), .second, (.val (.int x4)), (.val (.int (1 : Int32))), (.val (.int (1 : Int32))), (.val (.long (0 : Int64))), .second, (.val (.ref b37)), .unset]) rfl rfl ?_
        refine go_iload C (pc' := 64) at_62 rfl rfl ?_
        refine go_ifNo C (pc' := 67) at_64 (by decide) rfl ?_
        refine go_iconst C (pc' := 68) at_67 (z := (0 : Int32)) (by decide) rfl ?_
        refine go_istore C (pc' := 70) at_68 (Ls' := #[(.val (.long x0)), .second, (.val (.long x1)), .second, (.val (.long x2)), .second, (.val (.long x3)), .second, (.val (.int x4)), (.val (.int (1 : Int32))), (.val (.int (1 : Int32))), (.val (.long (0 : Int64))), .second, (.val (.ref b37)), (.val (.int (0 : Int32)))]) rfl rfl ?_
        refine go_goto C (pc' := 89) at_70 (by decide) (by decide) ?_
        refine go_aload C (pc' := 91) at_89 rfl rfl rfl ?_
        refine go_old fun O39 => ?_
        refine go_callV C (pc' := 94) (y' := (⟨"com/example/bitmend/bitmend/files/Recovery", "isComplete", "()Z"⟩ : MethodName)) (wd_26 hw) (wd_27 hw) (wd_29 hw) (wd_28 hw) (comp_met l Z a0 hw _ _ O39 b37 (0 : Int64) (1 : Int32) (0 : Int32) U38 M38 (by rw [if_neg (by decide : ¬ ((1 : Int32) = 0)), ite_self])) (wd_30 hw) (wd_2 hw) (by decide) (by decide) (W := 0) (Nat.le_of_ble_eq_true rfl) (by decide) (by decide) (by decide) rfl (A37.keep K38) (argsL := []) (rest := []) pd_2 rfl rfl rfl at_91 rfl ?_
        rintro _ _ ⟨rfl, rfl⟩
        refine go_st (st' := [(.int (0 : Int32))]) rfl ?_
        refine go_iload C (pc' := 96) at_94 rfl rfl ?_
        refine go_icmpNo C (pc' := 99) at_96 (by decide) rfl ?_
        refine go_iconst C (pc' := 100) at_99 (z := (1 : Int32)) (by decide) rfl ?_
        refine go_goto C (pc' := 104) at_100 (by decide) (by decide) ?_
        exact go_retN C (by simp) (z' := (1 : Int32)) (by decide) at_104 (by decide) (by decide) rfl
set_option maxRecDepth 65536 in
set_option maxHeartbeats 40000000 in
theorem comes_1 {Post : Tables → Env → Array Value → State → Outcome → State → Prop} (hpost : ∀ tb e args s v u, (limb_1_1.after args s (.returned v) u = true ∧ limb_1_2.after args s (.returned v) u = true ∧ True) → FrameEnd s (.returned v) u (Jvm.fieldLocs frame_1_writes args s ++ Jvm.arrayLocs frame_1_arrays args s ++ Jvm.staticLocs frame_1_statics s) 16 128 → Post tb e args s (.returned v) u) :
    ArmFor flags0 classFile x code maxLocals ret World_1 tables_1 room_1 Calls_1 rest_1 Pre_1 Post := by
  intro l hfl _ _ p e ha hc hk s m args below hf hA hF happ hP
  obtain ⟨hcalls, hrest, hpre⟩ := hP
  obtain ⟨-, -, -, hnamed, -, -, -, hat⟩ := (Spec.applies_iff hf).mp happ
  obtain ⟨hg, hn⟩ := and_e (Cond.before_iff.mp (show (Jvm.Cond.and given_1 narrow_1).before args s = true from hpre))
  obtain ⟨hcount, g0⟩ := and_e hg
  obtain ⟨w0, w1, w2, w3, w4, rfl⟩ : ∃ w0 w1 w2 w3 w4 : Value, args = #[w0, w1, w2, w3, w4] := by
    have hs : args.size = 5 := by simpa [Cond.value, given_1] using hcount
    obtain ⟨L⟩ := args
    match L, hs with
    | [w0, w1, w2, w3, w4], _ => exact ⟨w0, w1, w2, w3, w4, rfl⟩
  have hw := fun d (hd : d ∈ tables_1) => atoms_spec (ws := Jvm.Cond.code x code maxLocals ret :: tables_1) hat d (List.mem_cons_of_mem _ hd)
  have hfit : Fit s := fun {y c} hc i hi => by
    obtain ⟨ha, rfl⟩ := Array.getElem?_eq_some_iff.mp hc
    have q := List.all_eq_true.mp ((Array.all_eq_true_iff_forall_mem.mp hF) _ (Array.getElem_mem ha)) i (List.mem_range.mpr hi)
    simpa [Array.getElem?_eq_getElem hi] using q
  obtain ⟨u0, g1⟩ := and_e g0
  obtain ⟨i0, e0⟩ := isL_v u0
  obtain rfl : w0 = (.long i0) := Option.some.inj e0
  obtain ⟨u1, g2⟩ := and_e g1
  obtain ⟨i1, e1⟩ := isL_v u1
  obtain rfl : w1 = (.long i1) := Option.some.inj e1
  obtain ⟨u2, g3⟩ := and_e g2
  obtain ⟨i2, e2⟩ := isL_v u2
  obtain rfl : w2 = (.long i2) := Option.some.inj e2
  obtain ⟨u3, g4⟩ := and_e g3
  obtain ⟨i3, e3⟩ := isL_v u3
  obtain rfl : w3 = (.long i3) := Option.some.inj e3
  obtain ⟨i4, e4⟩ := is_v g4
  obtain rfl : w4 = (.int i4) := Option.some.inj e4
  obtain ⟨n, o, h1, h2, h3, _, L, rfl, ⟨N, -, rfl⟩, hq⟩ := law_met l s _ hw i0 i1 i2 i3 i4   p e ha hc hk s m _ below hf ((Spec.applies_iff_loose hf).mp happ).1 ⟨rfl, State.Warmed39.refl s, rfl⟩ trivial
  exact ⟨n, _, h1, h2, h3, hpost _ _ _ _ _ _ ⟨Cond.after_iff.mpr rfl, Cond.after_iff.mpr (eq_i res_at (Term.int_eval (1)) rfl), trivial⟩ ⟨hq.1, hq.2.1, (hq.2.2.sift fun y hy => Or.inr (N y hy)).mono (by decide) (by decide)⟩⟩
theorem main_1_1 : Claimed_1_1 := comes_1 fun _ _ _ _ _ _ h hF => ⟨h.1, hF⟩
theorem main_1_2 : Claimed_1_2 := comes_1 fun _ _ _ _ _ _ h hF => ⟨h.2.1, hF⟩
end Jvm.Pilot.@@N@@
namespace Jvm.Pilot.@@N@@
open Jvm Jvm.ClassFile Sem Op Lib Jvm.Free Jvm.Stand Jvm.Pilot.@@N@@.Jvm.D
/-! MADE BY PROGRAM (witnessworld.py) out of the Statement's table words and the real class files: 10 classes; the members and pool entries that the words name. The judged class is class 1, her method 1. -/
namespace start1
open Jvm.ClassFile
def u (s : String) : CpInfo := .utf8 (stringToUtf16 s)
/-- a pool by its gaps: so many unusable entries, then the entry; so many at the end -/
def gap : Nat → List CpInfo → List CpInfo
  | 0, r => r
  | n + 1, r => .unusable :: gap n r
def poolList (es : List (Nat × CpInfo)) (last : Nat) : List CpInfo := es.foldr (fun e r => gap e.1 (e.2 :: r)) (gap last [])
def pool (es : List (Nat × CpInfo)) (last : Nat) : Array CpInfo := ⟨poolList es last⟩
def fileOf (pool : Array CpInfo) (this : Nat) (attrs : Array Attribute := #[]) (ms : Array MethodInfo := #[]) (fl : Nat := 33) (sup : Nat := 0) (ifs : Array Nat := #[]) (fds : Array FieldInfo := #[]) : ClassFile where
  minorVersion := 0
  majorVersion := 65
  constantPool := pool
  accessFlags := fl
  thisClass := this
  superClass := sup
  interfaces := ifs
  fields := fds
  methods := ms
  attributes := attrs
def plain (name : String) (sup : Option ClassId) : Class where
  name := name
  kind := .ordinary
  loader := none
  accessFlags := 33
  super := sup
  interfaces := #[]
  cf := none
  fields := #[]
  methods := #[]
  instanceTypes := #[]
  staticTypes := #[]
  resolved := #[]
  callSites := []
  init := .initialized
  statics := none
  mirror := none

def pool0 : Array CpInfo := pool [(5, u "<init>"), (0, u "()V"), (1, .class_ 10), (1, u "java/lang/Object")] 113

def k0c0 : Code := { maxStack := 0, maxLocals := 1, code := object_method_1_code, exceptionTable := #[], attributes := #[] }
def k0m0 : Method := { name := "<init>", desc := "()V", sig := { parameters := [], returnType := none }, accessFlags := 1, code := some k0c0 }
/-- java/lang/Object -/
def k0 : Class := { plain "java/lang/Object" none with
  accessFlags := 33
  interfaces := #[]
  cf := some (fileOf pool0 8 #[] #[{ accessFlags := 1, nameIndex := 5, descriptorIndex := 6, attributes := #[] }] 33 0 #[] #[])
  fields := #[]
  methods := #[k0m0]
  instanceTypes := #[]
  staticTypes := #[]
  resolved := Array.replicate 124 none
  statics := none }

def pool1 : Array CpInfo := pool [(2, .class_ 4), (1, u "java/lang/Object"), (0, u "<init>"), (0, u "()V"), (0, .class_ 8), (0, u "com/example/bitmend/bitmend/files/Recovery"), (0, .methodref 7 10), (0, .nameAndType 5 11), (0, u "(JJJJZZ)V"), (0, .methodref 7 13), (0, .nameAndType 14 15), (0, u "isComplete"), (0, u "()Z"), (0, .class_ 17), (0, u "com/example/bitmend/bitmend/files/RecoveryIsCompletePinLaw"), (2, u "law"), (0, u "(JJJJI)Z")] 3

def k1m0 : Method := { name := "<init>", desc := "()V", sig := { parameters := [], returnType := none }, accessFlags := 1, code := none }
def k1c1 : Code := { maxStack := 12, maxLocals := 15, code := code, exceptionTable := #[], attributes := #[] }
def k1m1 : Method := { name := "law", desc := "(JJJJI)Z", sig := { parameters := [.long, .long, .long, .long, .int], returnType := some .boolean }, accessFlags := 9, code := some k1c1 }
/-- com/example/bitmend/bitmend/files/RecoveryIsCompletePinLaw -/
def k1 : Class := { plain "com/example/bitmend/bitmend/files/RecoveryIsCompletePinLaw" (some 0) with
  accessFlags := 49
  interfaces := #[]
  cf := some (fileOf pool1 16 #[] #[{ accessFlags := 1, nameIndex := 5, descriptorIndex := 6, attributes := #[] }, { accessFlags := 9, nameIndex := 20, descriptorIndex := 21, attributes := #[] }] 49 2 #[] #[])
  fields := #[]
  methods := #[k1m0, k1m1]
  instanceTypes := #[]
  staticTypes := #[]
  resolved := Array.replicate 25 none
  statics := none }

def pool2 : Array CpInfo := pool [(1, .methodref 2 3), (0, .class_ 4), (0, .nameAndType 5 6), (0, u "java/lang/Object"), (0, u "<init>"), (0, u "()V"), (0, .class_ 8), (0, u "java/lang/Record")] 13

def k2c0 : Code := { maxStack := 1, maxLocals := 1, code := jdk_30_method_1_code, exceptionTable := #[], attributes := #[] }
def k2m0 : Method := { name := "<init>", desc := "()V", sig := { parameters := [], returnType := none }, accessFlags := 4, code := some k2c0 }
/-- java/lang/Record -/
def k2 : Class := { plain "java/lang/Record" (some 0) with
  accessFlags := 1057
  interfaces := #[]
  cf := some (fileOf pool2 7 #[] #[{ accessFlags := 4, nameIndex := 5, descriptorIndex := 6, attributes := #[] }] 1057 2 #[] #[])
  fields := #[]
  methods := #[k2m0]
  instanceTypes := #[]
  staticTypes := #[]
  resolved := Array.replicate 22 none
  statics := none }

def pool3 : Array CpInfo := pool [(1, .methodref 2 3), (0, .class_ 4), (0, .nameAndType 5 6), (0, u "java/lang/Record"), (0, u "<init>"), (0, u "()V"), (0, .fieldref 8 9), (0, .class_ 10), (0, .nameAndType 11 12), (0, u "com/example/bitmend/bitmend/files/Recovery"), (0, u "codewords"), (0, u "J"), (0, .fieldref 8 14), (0, .nameAndType 15 12), (0, u "corrected"), (0, .fieldref 8 17), (0, .nameAndType 18 12), (0, u "uncorrectable"), (0, .fieldref 8 20), (0, .nameAndType 21 12), (0, u "firstUncorrectableOffset"), (0, .fieldref 8 23), (0, .nameAndType 24 25), (0, u "checksumChecked"), (0, u "Z"), (0, .fieldref 8 27), (0, .nameAndType 28 25), (0, u "checksumMismatch"), (12, u "(JJJJZZ)V"), (3, u "isComplete"), (0, u "()Z")] 30

def k3c0 : Code := { maxStack := 3, maxLocals := 11, code := prog_52_method_1_code, exceptionTable := #[], attributes := #[] }
def k3m0 : Method := { name := "<init>", desc := "(JJJJZZ)V", sig := { parameters := [.long, .long, .long, .long, .boolean, .boolean], returnType := none }, accessFlags := 1, code := some k3c0 }
def k3c1 : Code := { maxStack := 4, maxLocals := 1, code := prog_52_method_2_code, exceptionTable := #[], attributes := #[] }
def k3m1 : Method := { name := "isComplete", desc := "()Z", sig := { parameters := [], returnType := some .boolean }, accessFlags := 1, code := some k3c1 }
/-- com/example/bitmend/bitmend/files/Recovery -/
def k3 : Class := { plain "com/example/bitmend/bitmend/files/Recovery" (some 2) with
  accessFlags := 49
  interfaces := #[]
  cf := some (fileOf pool3 8 #[] #[{ accessFlags := 1, nameIndex := 5, descriptorIndex := 41, attributes := #[] }, { accessFlags := 1, nameIndex := 45, descriptorIndex := 46, attributes := #[] }] 49 2 #[] #[{ accessFlags := 18, nameIndex := 11, descriptorIndex := 12, attributes := #[] }, { accessFlags := 18, nameIndex := 15, descriptorIndex := 12, attributes := #[] }, { accessFlags := 18, nameIndex := 18, descriptorIndex := 12, attributes := #[] }, { accessFlags := 18, nameIndex := 21, descriptorIndex := 12, attributes := #[] }, { accessFlags := 18, nameIndex := 24, descriptorIndex := 25, attributes := #[] }, { accessFlags := 18, nameIndex := 28, descriptorIndex := 25, attributes := #[] }])
  fields := #[{ name := "codewords", type := .long, accessFlags := 18, slot := 0, constantValue := 0 }, { name := "corrected", type := .long, accessFlags := 18, slot := 1, constantValue := 0 }, { name := "uncorrectable", type := .long, accessFlags := 18, slot := 2, constantValue := 0 }, { name := "firstUncorrectableOffset", type := .long, accessFlags := 18, slot := 3, constantValue := 0 }, { name := "checksumChecked", type := .boolean, accessFlags := 18, slot := 4, constantValue := 0 }, { name := "checksumMismatch", type := .boolean, accessFlags := 18, slot := 5, constantValue := 0 }]
  methods := #[k3m0, k3m1]
  instanceTypes := #[.long, .long, .long, .long, .boolean, .boolean]
  staticTypes := #[]
  resolved := Array.replicate 77 none
  statics := none }

def pool4 : Array CpInfo := pool [(1, u "java/lang/Cloneable"), (0, .class_ 1), (0, u "java/lang/Object"), (0, .class_ 3)] 3

/-- java/lang/Cloneable -/
def k4 : Class := { plain "java/lang/Cloneable" (some 0) with
  accessFlags := 1537
  interfaces := #[]
  cf := some (fileOf pool4 2 #[] #[] 1537 4 #[] #[])
  fields := #[]
  methods := #[]
  instanceTypes := #[]
  staticTypes := #[]
  resolved := Array.replicate 8 none
  statics := none }

def pool5 : Array CpInfo := pool [(1, u "java/io/Serializable"), (0, .class_ 1), (0, u "java/lang/Object"), (0, .class_ 3)] 3

/-- java/io/Serializable -/
def k5 : Class := { plain "java/io/Serializable" (some 0) with
  accessFlags := 1537
  interfaces := #[]
  cf := some (fileOf pool5 2 #[] #[] 1537 4 #[] #[])
  fields := #[]
  methods := #[]
  instanceTypes := #[]
  staticTypes := #[]
  resolved := Array.replicate 8 none
  statics := none }

/-- the primitive byte -/
def k6 : Class := { plain "byte" none with kind := .primitive 'B', accessFlags := 0x411 }
/-- [B -/
def k7 : Class := { plain "[B" (some 0) with kind := .array 6 .byte, interfaces := #[4, 5], accessFlags := 1041 }

/-- the primitive int -/
def k8 : Class := { plain "int" none with kind := .primitive 'I', accessFlags := 0x411 }
/-- [I -/
def k9 : Class := { plain "[I" (some 0) with kind := .array 8 .int, interfaces := #[4, 5], accessFlags := 1041 }

def heap : Heap := #[]
def classes : Array Class := #[k0, k1, k2, k3, k4, k5, k6, k7, k8, k9]
def interned : List (Array UInt16 × Addr) := []
def slotsUsed : Nat := 0
def theMethod : MethodId := ⟨1, 1⟩
def args0 : Array Value := #[.long 3, .long 4, .long 5, .long 6, .int 7]
def aboutOver (below : List Frame) : State where
  vm := { classes := classes, interned := interned.toArray }
  heap := heap
  slotsUsed := slotsUsed
  threads := #[{ frames := .invoking theMethod args0 :: below }]
def below0 : List Frame := [.native { method := ⟨0, 0⟩, args := #[] }]
def about1 : State := aboutOver below0
def p0 : Program := .bare "" "" ""
def e0 : Env := launch0.env 0 0 0
theorem w_frames : about1.frames = Frame.invoking theMethod args0 :: below0 := rfl
set_option maxRecDepth 65536 in
theorem w_args : argsFit about1.vm theMethod args0 = true := by decide +kernel
set_option maxRecDepth 65536 in
theorem w_heap : heapFits about1 = true := by decide +kernel
set_option maxRecDepth 65536 in
theorem w_runnable : about1.curStatus? = some .runnable := by decide +kernel
set_option maxRecDepth 65536 in
theorem w_alone : about1.alone = true := by decide +kernel
set_option maxRecDepth 65536 in
theorem w_named : about1.methodNamed? x = some theMethod := by decide +kernel
set_option maxRecDepth 65536 in
theorem w_hears : about1.hears theMethod below0 = true := by decide +kernel
set_option maxRecDepth 65536 in
theorem w_ripe : about1.ripe theMethod args0 below0 = true := by decide +kernel
theorem w_running : about1.status = .running := rfl
set_option maxRecDepth 65536 in
theorem w_room : about1.hasRoom e0.platform room_1 = true :=
  launch0.hasRoom_least _ room_1 (by decide +kernel) (by decide +kernel) (by decide +kernel) (by decide +kernel) (by decide +kernel) (by decide +kernel)
theorem allAtoms_all (ts : List Jvm.Cond) (a : Array Jvm.Value) (st : Jvm.State) : (allAtoms ts).before a st = ts.all (fun c => c.before a st) := by
  induction ts with
  | nil => rfl
  | cons c t ih =>
    show (Jvm.Cond.and c (allAtoms t)).before a st = _
    rw [Jvm.Cond.before_and, ih, List.all_cons]
def words1 : List Jvm.Cond := Jvm.Cond.code x code maxLocals ret :: tables_1
/-- a 'code' word, met by the world's own term for the bytes: nothing is compared byte by byte -/
theorem code_word {y : MethodName} {bytes : ByteArray} {mx : Nat} {rt : Option FieldType} {a : Array Value} {s : State} {m : MethodId} {meth : Method} {c : Code} (h1 : s.methodNamed? y = some m) (h2 : s.vm.method? m = some meth) (h3 : meth.code = some c) (h4 : c.code = bytes)
    (h5 : (c.maxLocals == mx && c.exceptionTable.isEmpty && decide (c.maxStack ≤ mostOperands) && decide (meth.sig.returnType = rt) && !meth.locks && decide (parseMethodDescriptor y.desc = some meth.sig)) = true) : (Jvm.Cond.code y bytes mx rt).before a s = true := by
  simp only [Bool.and_eq_true, beq_iff_eq, Bool.not_eq_true', decide_eq_true_eq] at h5
  obtain ⟨⟨⟨⟨⟨g1, g2⟩, g3⟩, g4⟩, g5⟩, g6⟩ := h5
  simp [Cond.before, Cond.holds, Cond.value, h1, h2, h3, h4, g1, g2, g3, g4, g5, g6]
def isCode : Jvm.Cond → Bool
  | .code _ _ _ _ => true
  | _ => false
theorem all_split {L : List Jvm.Cond} {P : Jvm.Cond → Bool} (h1 : L.all (fun c => isCode c || P c) = true) (h2 : ∀ c ∈ L.filter isCode, P c = true) : L.all P = true := by
  refine List.all_eq_true.mpr fun c hc => ?_
  have h := List.all_eq_true.mp h1 c hc
  rcases Bool.eq_false_or_eq_true (isCode c) with hi | hi
  · exact h2 c (List.mem_filter.mpr ⟨hc, hi⟩)
  · simpa [hi] using h
set_option maxRecDepth 65536 in
theorem w_c0 : (Jvm.Cond.code x code maxLocals ret).before args0 about1 = true := code_word (m := ⟨1, 1⟩) (meth := k1m1) (c := k1c1) (by decide +kernel) rfl rfl rfl (by decide +kernel)
set_option maxRecDepth 65536 in
theorem w_c1 : (Jvm.Cond.code ({ cls := "com/example/bitmend/bitmend/files/Recovery", name := "<init>", desc := "(JJJJZZ)V" } : Jvm.MethodName) prog_52_method_1_code (11 : Nat) (Option.none : Option Jvm.ClassFile.FieldType)).before args0 about1 = true := code_word (m := ⟨3, 0⟩) (meth := k3m0) (c := k3c0) (by decide +kernel) rfl rfl rfl (by decide +kernel)
set_option maxRecDepth 65536 in
theorem w_c2 : (Jvm.Cond.code ({ cls := "java/lang/Record", name := "<init>", desc := "()V" } : Jvm.MethodName) jdk_30_method_1_code (1 : Nat) (Option.none : Option Jvm.ClassFile.FieldType)).before args0 about1 = true := code_word (m := ⟨2, 0⟩) (meth := k2m0) (c := k2c0) (by decide +kernel) rfl rfl rfl (by decide +kernel)
set_option maxRecDepth 65536 in
theorem w_c3 : (Jvm.Cond.code ({ cls := "java/lang/Object", name := "<init>", desc := "()V" } : Jvm.MethodName) object_method_1_code (1 : Nat) (Option.none : Option Jvm.ClassFile.FieldType)).before args0 about1 = true := code_word (m := ⟨0, 0⟩) (meth := k0m0) (c := k0c0) (by decide +kernel) rfl rfl rfl (by decide +kernel)
set_option maxRecDepth 65536 in
theorem w_c4 : (Jvm.Cond.code ({ cls := "com/example/bitmend/bitmend/files/Recovery", name := "isComplete", desc := "()Z" } : Jvm.MethodName) prog_52_method_2_code (1 : Nat) (Option.some Jvm.ClassFile.FieldType.boolean)).before args0 about1 = true := code_word (m := ⟨3, 1⟩) (meth := k3m1) (c := k3c1) (by decide +kernel) rfl rfl rfl (by decide +kernel)
def codes1 : List Jvm.Cond := [Jvm.Cond.code x code maxLocals ret, Jvm.Cond.code ({ cls := "com/example/bitmend/bitmend/files/Recovery", name := "<init>", desc := "(JJJJZZ)V" } : Jvm.MethodName) prog_52_method_1_code (11 : Nat) (Option.none : Option Jvm.ClassFile.FieldType), Jvm.Cond.code ({ cls := "java/lang/Record", name := "<init>", desc := "()V" } : Jvm.MethodName) jdk_30_method_1_code (1 : Nat) (Option.none : Option Jvm.ClassFile.FieldType), Jvm.Cond.code ({ cls := "java/lang/Object", name := "<init>", desc := "()V" } : Jvm.MethodName) object_method_1_code (1 : Nat) (Option.none : Option Jvm.ClassFile.FieldType), Jvm.Cond.code ({ cls := "com/example/bitmend/bitmend/files/Recovery", name := "isComplete", desc := "()Z" } : Jvm.MethodName) prog_52_method_2_code (1 : Nat) (Option.some Jvm.ClassFile.FieldType.boolean)]
set_option maxRecDepth 65536 in
theorem codes_eq : words1.filter isCode = codes1 := rfl
theorem w_codes : ∀ c ∈ words1.filter isCode, c.before args0 about1 = true := by
  rw [codes_eq]
  intro c hc
  simp only [codes1, List.mem_cons, List.not_mem_nil, or_false] at hc
  rcases hc with rfl | rfl | rfl | rfl | rfl
  · exact w_c0
  · exact w_c1
  · exact w_c2
  · exact w_c3
  · exact w_c4
set_option maxRecDepth 65536 in
theorem w_t1 : (words1.take 24).all (fun c => isCode c || c.before args0 about1) = true := by decide +kernel
set_option maxRecDepth 65536 in
theorem w_t2 : (words1.drop 24).all (fun c => isCode c || c.before args0 about1) = true := by decide +kernel
theorem w_tables : (allAtoms (Jvm.Cond.code x code maxLocals ret :: tables_1)).before args0 about1 = true := by
  rw [allAtoms_all]
  show words1.all (fun c => c.before args0 about1) = true
  refine all_split ?_ w_codes
  rw [← List.take_append_drop 24 words1, List.all_append, w_t1, w_t2]
  rfl
set_option maxRecDepth 65536 in
theorem w_case : (Jvm.Cond.and given_1 narrow_1).before args0 about1 = true := by decide +kernel
theorem w_applies : (headSpec (Jvm.Cond.code x code maxLocals ret :: tables_1) room_1).applies x e0.platform about1 = true :=
  (Spec.applies_iff w_frames).mpr ⟨w_running, w_runnable, w_alone, w_named, w_hears, w_ripe, w_room, w_tables⟩
theorem atStart : AtStart classFile x code maxLocals ret World_1 tables_1 room_1 Calls_1 rest_1 Pre_1 launch0 p0 e0 about1 theMethod args0 below0 :=
  ⟨lists_1, trivial, launch0.admits_env _ _ _, launch0.least_env, fairChoices_fair.cas, fairChoices_fair.clock, w_frames, w_args, w_heap, w_applies, trivial, trivial, w_case⟩
end start1
theorem witness_1 : WitnessClaimed_1 := ⟨start1.p0, start1.e0, start1.about1, start1.theMethod, start1.args0, start1.below0, start1.atStart⟩
end Jvm.Pilot.@@N@@
