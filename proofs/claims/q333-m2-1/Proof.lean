import JvmDerived
import JvmDerived.Pilot.@@N@@Statement
import JvmDerived.Pilot.@@N@@Code
set_option linter.unusedVariables false
set_option linter.unusedSimpArgs false
namespace Jvm.Pilot.@@N@@
open Jvm Jvm.ClassFile Sem Op Lib Jvm.Free Jvm.Stand Jvm.LawKit Jvm.RoadKit Bundle Jvm.Pilot.@@N@@.Jvm.D
/-- from t the run comes to an end of which P holds -/
def Goes (tb : Tables) (e : Env) (below : List Frame) (P : Outcome → State → Prop) (t : State) : Prop := ∃ s₂ o, Steps tb e below t s₂ ∧ s₂.status = .running ∧ Ended s₂ below o ∧ P o s₂
theorem Goes.on {tb : Tables} {e : Env} {below : List Frame} {P : Outcome → State → Prop} {t t' : State} (h : ∀ target, Steps tb e below t' target → Steps tb e below t target) (k : Goes tb e below P t') : Goes tb e below P t := by
  obtain ⟨s₂, o, h1, h2⟩ := k
  exact ⟨s₂, o, h _ h1, h2⟩
theorem Goes.to {tb : Tables} {e : Env} {below : List Frame} {P : Outcome → State → Prop} {t t' : State} (h : Steps tb e below t t') (k : Goes tb e below P t') : Goes tb e below P t := k.on fun _ q => h.trans q
/-- what a body's end says -/
def Ends (s : State) (Q : Option Value → Heap → List Loc → Prop) (C S : Nat) (o : Outcome) (U : State) : Prop := ∃ v L, o = .returned v ∧ Q v U.heap L ∧ FrameEnd s o U L C S
/-- a body's contract -/
def Met (l : Launch) (Z : State) (y : MethodName) (bytes : ByteArray) (maxL : Nat) (ret : Option FieldType) (rm : Room) (ws : List Jvm.Cond) (as' : Array Value) (h0 : Heap) (Q : Option Value → Heap → List Loc → Prop) : Prop :=
  MetFree l y (head1 (Jvm.Cond.code y bytes maxL ret :: ws) rm) (fun a U => a = as' ∧ Z.Warmed39 U.vm ∧ U.heap = h0) (fun _ _ _ _ _ => True) (fun _ U o U' => ∃ v L, o = .returned v ∧ Q v U'.heap L ∧ FrameEnd U o U' L rm.cells rm.slots)
section Own
variable {p : Program} {l : Launch} {e : Env} {R : Room} {s : State} {m : MethodId} {args : Array Value} {below : List Frame} {meth : Method} {c : Code} {T : State} {locs : List Loc} {cells slots cells' slots' : Nat} {Z : State} {a0 : Array Value} {h : Heap} {P : Outcome → State → Prop} {pc pc' : Nat} {L L' : Array Slot} {S : List Value}
theorem met_of {y : MethodName} {bytes : ByteArray} {maxL : Nat} {ret : Option FieldType} {rm : Room} {ws : List Jvm.Cond} {as' : Array Value} {h0 : Heap} {Q : Option Value → Heap → List Loc → Prop} {L0 : Array Slot}
    (hpn : plainFor y = true) (hef : ∀ m, entryFrame m as' maxL = mkF m 0 L0 [])
    (body : ∀ (p : Program) (e : Env) (s : State) (m : MethodId) (below : List Frame) (meth : Method) (c : Code) (T : State), p.tables.exec = Jvm.exec → c.code = bytes → c.maxLocals = maxL → s.vm.findClass y.cls = some m.cls → meth.name = y.name → meth.sig.returnType = ret → meth.locks = false → Z.Warmed39 s.vm → Stand p l e rm s m as' below meth c T [] 0 0 → T.heap = h0 → Goes p.tables e below (Ends s Q rm.cells rm.slots) (T.setTop (mkF m 0 L0 []))) :
    Met l Z y bytes maxL ret rm ws as' h0 Q := by
  refine MetFree.of_bodySF hpn hisR ?_
  intro p e s m args below meth c s₁ Bd hml0 hP hK
  obtain ⟨rfl, hZ, hh⟩ := hP
  have e0 : s₁.heap = h0 := by rw [← hh, Bd.state]; rfl
  obtain ⟨s₂, o, h1, h2, h3, h4⟩ := body p e s m below meth c s₁ Bd.exec Bd.bytes hml0 (findClass_of_methodNamed Bd.named) (name_of_methodNamed Bd.named Bd.method).1 Bd.returns (BodyLoose.notSynchronized Bd) hZ (Stand.of_body Bd) e0
  exact ⟨s₂, o, castTop (hef m) h1, h2, h3, h4⟩
theorem o_cat {v : Value} (h : v.isRef = true) : v.category = 1 := by rcases ref_cases h with rfl | ⟨a, rfl⟩ <;> rfl
theorem o_nar {C : String} {v : Value} (h : v.isRef = true) : narrow (.object C) v = v := by rcases ref_cases h with rfl | ⟨a, rfl⟩ <;> rfl
theorem o_fit {C : String} {v : Value} (h : v.isRef = true) : fits (.object C) v = true := by rcases ref_cases h with rfl | ⟨a, rfl⟩ <;> rfl
theorem o_nar01 {z : Int32} (h : z = 0 ∨ z = 1) : narrow .boolean (.int z) = .int z := by rcases h with rfl | rfl <;> rfl
theorem o_fit01 {z : Int32} (h : z = 0 ∨ z = 1) : fits .boolean (.int z) = true := by rcases h with rfl | rfl <;> rfl
theorem o_ret (X : Stand p l e R s m args below meth c T locs cells slots) (hx : p.tables.exec = Jvm.exec) (hlk : meth.locks = false) {w : Value} {t : FieldType} {i : Instr} {Q : Option Value → Heap → List Loc → Prop} {C Sl : Nat} (hret : meth.sig.returnType = some t) (hn : narrow t w = w)
    (hi : (i = .ireturn ∧ (t = .int ∨ t = .boolean ∨ t = .byte ∨ t = .char ∨ t = .short) ∧ ∃ z, w = .int z) ∨ (i = .lreturn ∧ t = .long ∧ ∃ z, w = .long z) ∨ (i = .dreturn ∧ t = .double ∧ ∃ z, w = .double z) ∨ (i = .freturn ∧ t = .float ∧ ∃ z, w = .float z) ∨ (i = .areturn ∧ t.isReference = true ∧ w.isRef = true))
    (hd : decode c.code pc = .ok (i, 1)) (hC : cells ≤ C) (hS : slots ≤ Sl) (eT : T.heap = h) (hq : Q (some w) h locs) : Goes p.tables e below (Ends s Q C Sl) (T.setTop (mkF m pc L (w :: S))) := by
  subst eT
  obtain ⟨fs, hr, hrun, hended, hW, hsame⟩ := X.leave (v := some w) (fun h => by rw [hret] at h; cases h) hlk
  exact ⟨_, _, retOut X hx hret hn hi hd hr, hrun, hended, _, _, rfl, hq, ⟨_, rfl⟩, hW, hsame.mono hC hS⟩
theorem o_retV (X : Stand p l e R s m args below meth c T locs cells slots) (hx : p.tables.exec = Jvm.exec) (hlk : meth.locks = false) {Q : Option Value → Heap → List Loc → Prop} {C Sl : Nat} (hret : meth.sig.returnType = none) (hd : decode c.code pc = .ok (.return_, 1)) (hC : cells ≤ C) (hS : slots ≤ Sl) (eT : T.heap = h) (hq : Q none h locs) :
    Goes p.tables e below (Ends s Q C Sl) (T.setTop (mkF m pc L [])) := by
  subst eT
  obtain ⟨fs, hr, hrun, hended, hW, hsame⟩ := X.leave (v := none) (fun _ => rfl) hlk
  exact ⟨_, _, X.returnOut hx hret hd hr, hrun, hended, _, _, rfl, hq, ⟨_, rfl⟩, hW, hsame.mono hC hS⟩
theorem o_iloadN (X : Stand p l e R s m args below meth c T locs cells slots) (hx : p.tables.exec = Jvm.exec) {k : Fin 4} {v : Int32} (hd : decode c.code pc = .ok (.iload_n k, 1)) (hl : L[k.val]? = some (.val (.int v))) (hp : pc + 1 = pc') (kk : Goes p.tables e below P (T.setTop (mkF m pc' L (.int v :: S)))) : Goes p.tables e below P (T.setTop (mkF m pc L S)) := by
  subst hp; exact kk.on fun _ k => XS.iloadN X.here hx rfl hd hl k
theorem o_iload (X : Stand p l e R s m args below meth c T locs cells slots) (hx : p.tables.exec = Jvm.exec) {k : Nat} {v : Int32} (hd : decode c.code pc = .ok (.iload k, 2)) (hl : L[k]? = some (.val (.int v))) (hp : pc + 2 = pc') (kk : Goes p.tables e below P (T.setTop (mkF m pc' L (.int v :: S)))) : Goes p.tables e below P (T.setTop (mkF m pc L S)) := by
  subst hp; exact kk.on fun _ k => XS.iload X.here hx rfl hd hl k
theorem o_istoreN (X : Stand p l e R s m args below meth c T locs cells slots) (hx : p.tables.exec = Jvm.exec) {k : Fin 4} {x : Int32} (hd : decode c.code pc = .ok (.istore_n k, 1)) (hl : storeLocals L k.val (.int x) = some L') (hp : pc + 1 = pc') (kk : Goes p.tables e below P (T.setTop (mkF m pc' L' S))) : Goes p.tables e below P (T.setTop (mkF m pc L (.int x :: S))) := by
  subst hp; exact kk.on fun _ k => XS.istoreN X.here hx rfl hd rfl hl k
theorem o_istore (X : Stand p l e R s m args below meth c T locs cells slots) (hx : p.tables.exec = Jvm.exec) {k : Nat} {x : Int32} (hd : decode c.code pc = .ok (.istore k, 2)) (hl : storeLocals L k (.int x) = some L') (hp : pc + 2 = pc') (kk : Goes p.tables e below P (T.setTop (mkF m pc' L' S))) : Goes p.tables e below P (T.setTop (mkF m pc L (.int x :: S))) := by
  subst hp; exact kk.on fun _ k => XS.istore X.here hx rfl hd rfl hl k
theorem o_lloadN (X : Stand p l e R s m args below meth c T locs cells slots) (hx : p.tables.exec = Jvm.exec) {k : Fin 4} {v : Int64} (hd : decode c.code pc = .ok (.lload_n k, 1)) (hl : L[k.val]? = some (.val (.long v))) (hp : pc + 1 = pc') (kk : Goes p.tables e below P (T.setTop (mkF m pc' L (.long v :: S)))) : Goes p.tables e below P (T.setTop (mkF m pc L S)) := by
  subst hp; exact kk.on fun _ k => XS.lloadN X.here hx rfl hd hl k
theorem o_lload (X : Stand p l e R s m args below meth c T locs cells slots) (hx : p.tables.exec = Jvm.exec) {k : Nat} {v : Int64} (hd : decode c.code pc = .ok (.lload k, 2)) (hl : L[k]? = some (.val (.long v))) (hp : pc + 2 = pc') (kk : Goes p.tables e below P (T.setTop (mkF m pc' L (.long v :: S)))) : Goes p.tables e below P (T.setTop (mkF m pc L S)) := by
  subst hp; exact kk.on fun _ k => XS.lload X.here hx rfl hd hl k
theorem o_lstoreN (X : Stand p l e R s m args below meth c T locs cells slots) (hx : p.tables.exec = Jvm.exec) {k : Fin 4} {x : Int64} (hd : decode c.code pc = .ok (.lstore_n k, 1)) (hl : storeLocals L k.val (.long x) = some L') (hp : pc + 1 = pc') (kk : Goes p.tables e below P (T.setTop (mkF m pc' L' S))) : Goes p.tables e below P (T.setTop (mkF m pc L (.long x :: S))) := by
  subst hp; exact kk.on fun _ k => XS.lstoreN X.here hx rfl hd rfl hl k
theorem o_lstore (X : Stand p l e R s m args below meth c T locs cells slots) (hx : p.tables.exec = Jvm.exec) {k : Nat} {x : Int64} (hd : decode c.code pc = .ok (.lstore k, 2)) (hl : storeLocals L k (.long x) = some L') (hp : pc + 2 = pc') (kk : Goes p.tables e below P (T.setTop (mkF m pc' L' S))) : Goes p.tables e below P (T.setTop (mkF m pc L (.long x :: S))) := by
  subst hp; exact kk.on fun _ k => XS.lstore X.here hx rfl hd rfl hl k
theorem o_aloadN (X : Stand p l e R s m args below meth c T locs cells slots) (hx : p.tables.exec = Jvm.exec) {k : Fin 4} {v : Value} (hd : decode c.code pc = .ok (.aload_n k, 1)) (hl : L[k.val]? = some (.val v)) (hv : v.isRef = true) (hp : pc + 1 = pc') (kk : Goes p.tables e below P (T.setTop (mkF m pc' L (v :: S)))) : Goes p.tables e below P (T.setTop (mkF m pc L S)) := by
  subst hp; exact kk.on fun _ k => XS.aloadN X.here hx rfl hd hl hv k
theorem o_aload (X : Stand p l e R s m args below meth c T locs cells slots) (hx : p.tables.exec = Jvm.exec) {k : Nat} {v : Value} (hd : decode c.code pc = .ok (.aload k, 2)) (hl : L[k]? = some (.val v)) (hv : v.isRef = true) (hp : pc + 2 = pc') (kk : Goes p.tables e below P (T.setTop (mkF m pc' L (v :: S)))) : Goes p.tables e below P (T.setTop (mkF m pc L S)) := by
  subst hp; exact kk.on fun _ k => XS.aload X.here hx rfl hd hl hv k
theorem o_astoreN (X : Stand p l e R s m args below meth c T locs cells slots) (hx : p.tables.exec = Jvm.exec) {k : Fin 4} {x : Value} (hd : decode c.code pc = .ok (.astore_n k, 1)) (hv : x.isRef = true) (hl : storeLocals L k.val x = some L') (hp : pc + 1 = pc') (kk : Goes p.tables e below P (T.setTop (mkF m pc' L' S))) : Goes p.tables e below P (T.setTop (mkF m pc L (x :: S))) := by
  subst hp; exact kk.on fun _ k => XS.astoreN X.here hx rfl hd rfl hv hl k
theorem o_astore (X : Stand p l e R s m args below meth c T locs cells slots) (hx : p.tables.exec = Jvm.exec) {k : Nat} {x : Value} (hd : decode c.code pc = .ok (.astore k, 2)) (hv : x.isRef = true) (hl : storeLocals L k x = some L') (hp : pc + 2 = pc') (kk : Goes p.tables e below P (T.setTop (mkF m pc' L' S))) : Goes p.tables e below P (T.setTop (mkF m pc L (x :: S))) := by
  subst hp; exact kk.on fun _ k => XS.astore X.here hx rfl hd rfl hv hl k
theorem o_iconst (X : Stand p l e R s m args below meth c T locs cells slots) (hx : p.tables.exec = Jvm.exec) {i : Int} {v : Int32} (hd : decode c.code pc = .ok (.iconst i, 1)) (hv : Int32.ofInt i = v) (hp : pc + 1 = pc') (kk : Goes p.tables e below P (T.setTop (mkF m pc' L (.int v :: S)))) : Goes p.tables e below P (T.setTop (mkF m pc L S)) := by
  subst hp; subst hv; exact kk.on fun _ k => XS.iconst X.here hx rfl hd  k
theorem o_bipush (X : Stand p l e R s m args below meth c T locs cells slots) (hx : p.tables.exec = Jvm.exec) {i : Int} {v : Int32} (hd : decode c.code pc = .ok (.bipush i, 2)) (hv : (Int8.ofInt i).toInt32 = v) (hp : pc + 2 = pc') (kk : Goes p.tables e below P (T.setTop (mkF m pc' L (.int v :: S)))) : Goes p.tables e below P (T.setTop (mkF m pc L S)) := by
  subst hp; subst hv; exact kk.on fun _ k => XS.bipush X.here hx rfl hd  k
theorem o_sipush (X : Stand p l e R s m args below meth c T locs cells slots) (hx : p.tables.exec = Jvm.exec) {i : Int} {v : Int32} (hd : decode c.code pc = .ok (.sipush i, 3)) (hv : (Int16.ofInt i).toInt32 = v) (hp : pc + 3 = pc') (kk : Goes p.tables e below P (T.setTop (mkF m pc' L (.int v :: S)))) : Goes p.tables e below P (T.setTop (mkF m pc L S)) := by
  subst hp; subst hv; exact kk.on fun _ k => XS.sipush X.here hx rfl hd  k
theorem o_lconst (X : Stand p l e R s m args below meth c T locs cells slots) (hx : p.tables.exec = Jvm.exec) {k : Fin 2} {v : Int64} (hd : decode c.code pc = .ok (.lconst k, 1)) (hv : Int64.ofNat k = v) (hp : pc + 1 = pc') (kk : Goes p.tables e below P (T.setTop (mkF m pc' L (.long v :: S)))) : Goes p.tables e below P (T.setTop (mkF m pc L S)) := by
  subst hp; subst hv; exact kk.on fun _ k => XS.lconst X.here hx rfl hd  k
theorem o_aconstNull (X : Stand p l e R s m args below meth c T locs cells slots) (hx : p.tables.exec = Jvm.exec)  (hd : decode c.code pc = .ok (.aconst_null, 1)) (hp : pc + 1 = pc') (kk : Goes p.tables e below P (T.setTop (mkF m pc' L (.null :: S)))) : Goes p.tables e below P (T.setTop (mkF m pc L S)) := by
  subst hp; exact kk.on fun _ k => XS.aconstNull X.here hx rfl hd  k
theorem o_iadd (X : Stand p l e R s m args below meth c T locs cells slots) (hx : p.tables.exec = Jvm.exec) {x y : Int32} (hd : decode c.code pc = .ok (.iadd, 1)) (hp : pc + 1 = pc') (kk : Goes p.tables e below P (T.setTop (mkF m pc' L (.int (x + y) :: S)))) : Goes p.tables e below P (T.setTop (mkF m pc L (.int y :: .int x :: S))) := by
  subst hp; exact kk.on fun _ k => XS.iadd X.here hx rfl hd rfl k
theorem o_isub (X : Stand p l e R s m args below meth c T locs cells slots) (hx : p.tables.exec = Jvm.exec) {x y : Int32} (hd : decode c.code pc = .ok (.isub, 1)) (hp : pc + 1 = pc') (kk : Goes p.tables e below P (T.setTop (mkF m pc' L (.int (x - y) :: S)))) : Goes p.tables e below P (T.setTop (mkF m pc L (.int y :: .int x :: S))) := by
  subst hp; exact kk.on fun _ k => XS.isub X.here hx rfl hd rfl k
theorem o_imul (X : Stand p l e R s m args below meth c T locs cells slots) (hx : p.tables.exec = Jvm.exec) {x y : Int32} (hd : decode c.code pc = .ok (.imul, 1)) (hp : pc + 1 = pc') (kk : Goes p.tables e below P (T.setTop (mkF m pc' L (.int (x * y) :: S)))) : Goes p.tables e below P (T.setTop (mkF m pc L (.int y :: .int x :: S))) := by
  subst hp; exact kk.on fun _ k => XS.imul X.here hx rfl hd rfl k
theorem o_iand (X : Stand p l e R s m args below meth c T locs cells slots) (hx : p.tables.exec = Jvm.exec) {x y : Int32} (hd : decode c.code pc = .ok (.iand, 1)) (hp : pc + 1 = pc') (kk : Goes p.tables e below P (T.setTop (mkF m pc' L (.int (x &&& y) :: S)))) : Goes p.tables e below P (T.setTop (mkF m pc L (.int y :: .int x :: S))) := by
  subst hp; exact kk.on fun _ k => XS.iand X.here hx rfl hd rfl k
theorem o_ior (X : Stand p l e R s m args below meth c T locs cells slots) (hx : p.tables.exec = Jvm.exec) {x y : Int32} (hd : decode c.code pc = .ok (.ior, 1)) (hp : pc + 1 = pc') (kk : Goes p.tables e below P (T.setTop (mkF m pc' L (.int (x ||| y) :: S)))) : Goes p.tables e below P (T.setTop (mkF m pc L (.int y :: .int x :: S))) := by
  subst hp; exact kk.on fun _ k => XS.ior X.here hx rfl hd rfl k
theorem o_ixor (X : Stand p l e R s m args below meth c T locs cells slots) (hx : p.tables.exec = Jvm.exec) {x y : Int32} (hd : decode c.code pc = .ok (.ixor, 1)) (hp : pc + 1 = pc') (kk : Goes p.tables e below P (T.setTop (mkF m pc' L (.int (x ^^^ y) :: S)))) : Goes p.tables e below P (T.setTop (mkF m pc L (.int y :: .int x :: S))) := by
  subst hp; exact kk.on fun _ k => XS.ixor X.here hx rfl hd rfl k
theorem o_ishl (X : Stand p l e R s m args below meth c T locs cells slots) (hx : p.tables.exec = Jvm.exec) {x y : Int32} (hd : decode c.code pc = .ok (.ishl, 1)) (hp : pc + 1 = pc') (kk : Goes p.tables e below P (T.setTop (mkF m pc' L (.int (x <<< (y &&& 31)) :: S)))) : Goes p.tables e below P (T.setTop (mkF m pc L (.int y :: .int x :: S))) := by
  subst hp; exact kk.on fun _ k => XS.ishl X.here hx rfl hd rfl k
theorem o_ishr (X : Stand p l e R s m args below meth c T locs cells slots) (hx : p.tables.exec = Jvm.exec) {x y : Int32} (hd : decode c.code pc = .ok (.ishr, 1)) (hp : pc + 1 = pc') (kk : Goes p.tables e below P (T.setTop (mkF m pc' L (.int (x >>> (y &&& 31)) :: S)))) : Goes p.tables e below P (T.setTop (mkF m pc L (.int y :: .int x :: S))) := by
  subst hp; exact kk.on fun _ k => XS.ishr X.here hx rfl hd rfl k
theorem o_iushr (X : Stand p l e R s m args below meth c T locs cells slots) (hx : p.tables.exec = Jvm.exec) {x y : Int32} (hd : decode c.code pc = .ok (.iushr, 1)) (hp : pc + 1 = pc') (kk : Goes p.tables e below P (T.setTop (mkF m pc' L (.int ((x.toUInt32 >>> (y &&& 31).toUInt32).toInt32) :: S)))) : Goes p.tables e below P (T.setTop (mkF m pc L (.int y :: .int x :: S))) := by
  subst hp; exact kk.on fun _ k => XS.iushr X.here hx rfl hd rfl k
theorem o_ladd (X : Stand p l e R s m args below meth c T locs cells slots) (hx : p.tables.exec = Jvm.exec) {x y : Int64} (hd : decode c.code pc = .ok (.ladd, 1)) (hp : pc + 1 = pc') (kk : Goes p.tables e below P (T.setTop (mkF m pc' L (.long (x + y) :: S)))) : Goes p.tables e below P (T.setTop (mkF m pc L (.long y :: .long x :: S))) := by
  subst hp; exact kk.on fun _ k => XS.ladd X.here hx rfl hd rfl k
theorem o_lsub (X : Stand p l e R s m args below meth c T locs cells slots) (hx : p.tables.exec = Jvm.exec) {x y : Int64} (hd : decode c.code pc = .ok (.lsub, 1)) (hp : pc + 1 = pc') (kk : Goes p.tables e below P (T.setTop (mkF m pc' L (.long (x - y) :: S)))) : Goes p.tables e below P (T.setTop (mkF m pc L (.long y :: .long x :: S))) := by
  subst hp; exact kk.on fun _ k => XS.lsub X.here hx rfl hd rfl k
theorem o_lmul (X : Stand p l e R s m args below meth c T locs cells slots) (hx : p.tables.exec = Jvm.exec) {x y : Int64} (hd : decode c.code pc = .ok (.lmul, 1)) (hp : pc + 1 = pc') (kk : Goes p.tables e below P (T.setTop (mkF m pc' L (.long (x * y) :: S)))) : Goes p.tables e below P (T.setTop (mkF m pc L (.long y :: .long x :: S))) := by
  subst hp; exact kk.on fun _ k => XS.lmul X.here hx rfl hd rfl k
theorem o_land (X : Stand p l e R s m args below meth c T locs cells slots) (hx : p.tables.exec = Jvm.exec) {x y : Int64} (hd : decode c.code pc = .ok (.land, 1)) (hp : pc + 1 = pc') (kk : Goes p.tables e below P (T.setTop (mkF m pc' L (.long (x &&& y) :: S)))) : Goes p.tables e below P (T.setTop (mkF m pc L (.long y :: .long x :: S))) := by
  subst hp; exact kk.on fun _ k => XS.land X.here hx rfl hd rfl k
theorem o_lor (X : Stand p l e R s m args below meth c T locs cells slots) (hx : p.tables.exec = Jvm.exec) {x y : Int64} (hd : decode c.code pc = .ok (.lor, 1)) (hp : pc + 1 = pc') (kk : Goes p.tables e below P (T.setTop (mkF m pc' L (.long (x ||| y) :: S)))) : Goes p.tables e below P (T.setTop (mkF m pc L (.long y :: .long x :: S))) := by
  subst hp; exact kk.on fun _ k => XS.lor X.here hx rfl hd rfl k
theorem o_lxor (X : Stand p l e R s m args below meth c T locs cells slots) (hx : p.tables.exec = Jvm.exec) {x y : Int64} (hd : decode c.code pc = .ok (.lxor, 1)) (hp : pc + 1 = pc') (kk : Goes p.tables e below P (T.setTop (mkF m pc' L (.long (x ^^^ y) :: S)))) : Goes p.tables e below P (T.setTop (mkF m pc L (.long y :: .long x :: S))) := by
  subst hp; exact kk.on fun _ k => XS.lxor X.here hx rfl hd rfl k
theorem o_lshl (X : Stand p l e R s m args below meth c T locs cells slots) (hx : p.tables.exec = Jvm.exec) {x : Int64} {y : Int32} (hd : decode c.code pc = .ok (.lshl, 1)) (hp : pc + 1 = pc') (kk : Goes p.tables e below P (T.setTop (mkF m pc' L (.long (x <<< (y &&& 0x3f).toInt64) :: S)))) : Goes p.tables e below P (T.setTop (mkF m pc L (.int y :: .long x :: S))) := by
  subst hp; exact kk.on fun _ k => XS.lshl X.here hx rfl hd rfl k
theorem o_lshr (X : Stand p l e R s m args below meth c T locs cells slots) (hx : p.tables.exec = Jvm.exec) {x : Int64} {y : Int32} (hd : decode c.code pc = .ok (.lshr, 1)) (hp : pc + 1 = pc') (kk : Goes p.tables e below P (T.setTop (mkF m pc' L (.long (x >>> (y &&& 0x3f).toInt64) :: S)))) : Goes p.tables e below P (T.setTop (mkF m pc L (.int y :: .long x :: S))) := by
  subst hp; exact kk.on fun _ k => XS.lshr X.here hx rfl hd rfl k
theorem o_lushr (X : Stand p l e R s m args below meth c T locs cells slots) (hx : p.tables.exec = Jvm.exec) {x : Int64} {y : Int32} (hd : decode c.code pc = .ok (.lushr, 1)) (hp : pc + 1 = pc') (kk : Goes p.tables e below P (T.setTop (mkF m pc' L (.long ((x.toUInt64 >>> (y &&& 0x3f).toInt64.toUInt64).toInt64) :: S)))) : Goes p.tables e below P (T.setTop (mkF m pc L (.int y :: .long x :: S))) := by
  subst hp; exact kk.on fun _ k => XS.lushr X.here hx rfl hd rfl k
theorem o_idiv (X : Stand p l e R s m args below meth c T locs cells slots) (hx : p.tables.exec = Jvm.exec) {x y : Int32} (hd : decode c.code pc = .ok (.idiv, 1)) (hy : y ≠ 0) (hp : pc + 1 = pc') (kk : Goes p.tables e below P (T.setTop (mkF m pc' L (.int (x / y) :: S)))) : Goes p.tables e below P (T.setTop (mkF m pc L (.int y :: .int x :: S))) := by
  subst hp; exact kk.on fun _ k => XS.idiv X.here hx rfl hd rfl hy k
theorem o_ldiv (X : Stand p l e R s m args below meth c T locs cells slots) (hx : p.tables.exec = Jvm.exec) {x y : Int64} (hd : decode c.code pc = .ok (.ldiv, 1)) (hy : y ≠ 0) (hp : pc + 1 = pc') (kk : Goes p.tables e below P (T.setTop (mkF m pc' L (.long (x / y) :: S)))) : Goes p.tables e below P (T.setTop (mkF m pc L (.long y :: .long x :: S))) := by
  subst hp; exact kk.on fun _ k => XS.ldiv X.here hx rfl hd rfl hy k
theorem o_lrem (X : Stand p l e R s m args below meth c T locs cells slots) (hx : p.tables.exec = Jvm.exec) {x y : Int64} (hd : decode c.code pc = .ok (.lrem, 1)) (hy : y ≠ 0) (hp : pc + 1 = pc') (kk : Goes p.tables e below P (T.setTop (mkF m pc' L (.long (x - (x / y) * y) :: S)))) : Goes p.tables e below P (T.setTop (mkF m pc L (.long y :: .long x :: S))) := by
  subst hp; exact kk.on fun _ k => XS.lrem X.here hx rfl hd rfl hy k
theorem o_irem (X : Stand p l e R s m args below meth c T locs cells slots) (hx : p.tables.exec = Jvm.exec) {x y : Int32} (hd : decode c.code pc = .ok (.irem, 1)) (hy : y ≠ 0) (hp : pc + 1 = pc') (kk : Goes p.tables e below P (T.setTop (mkF m pc' L (.int (x % y) :: S)))) : Goes p.tables e below P (T.setTop (mkF m pc L (.int y :: .int x :: S))) := by
  subst hp; exact kk.on fun _ k => iremM X hx rfl hd rfl hy k
theorem o_i2l (X : Stand p l e R s m args below meth c T locs cells slots) (hx : p.tables.exec = Jvm.exec) {x : Int32} (hd : decode c.code pc = .ok (.i2l, 1)) (hp : pc + 1 = pc') (kk : Goes p.tables e below P (T.setTop (mkF m pc' L (.long (x.toInt64) :: S)))) : Goes p.tables e below P (T.setTop (mkF m pc L (.int x :: S))) := by
  subst hp; exact kk.on fun _ k => XS.i2l X.here hx rfl hd rfl k
theorem o_l2i (X : Stand p l e R s m args below meth c T locs cells slots) (hx : p.tables.exec = Jvm.exec) {x : Int64} (hd : decode c.code pc = .ok (.l2i, 1)) (hp : pc + 1 = pc') (kk : Goes p.tables e below P (T.setTop (mkF m pc' L (.int (x.toInt32) :: S)))) : Goes p.tables e below P (T.setTop (mkF m pc L (.long x :: S))) := by
  subst hp; exact kk.on fun _ k => XS.l2i X.here hx rfl hd rfl k
theorem o_i2b (X : Stand p l e R s m args below meth c T locs cells slots) (hx : p.tables.exec = Jvm.exec) {x : Int32} (hd : decode c.code pc = .ok (.i2b, 1)) (hp : pc + 1 = pc') (kk : Goes p.tables e below P (T.setTop (mkF m pc' L (.int (x.toInt8.toInt32) :: S)))) : Goes p.tables e below P (T.setTop (mkF m pc L (.int x :: S))) := by
  subst hp; exact kk.on fun _ k => XS.i2b X.here hx rfl hd rfl k
theorem o_i2s (X : Stand p l e R s m args below meth c T locs cells slots) (hx : p.tables.exec = Jvm.exec) {x : Int32} (hd : decode c.code pc = .ok (.i2s, 1)) (hp : pc + 1 = pc') (kk : Goes p.tables e below P (T.setTop (mkF m pc' L (.int (x.toInt16.toInt32) :: S)))) : Goes p.tables e below P (T.setTop (mkF m pc L (.int x :: S))) := by
  subst hp; exact kk.on fun _ k => XS.i2s X.here hx rfl hd rfl k
theorem o_i2c (X : Stand p l e R s m args below meth c T locs cells slots) (hx : p.tables.exec = Jvm.exec) {x : Int32} (hd : decode c.code pc = .ok (.i2c, 1)) (hp : pc + 1 = pc') (kk : Goes p.tables e below P (T.setTop (mkF m pc' L (.int (x.toUInt32.toUInt16.toUInt32.toInt32) :: S)))) : Goes p.tables e below P (T.setTop (mkF m pc L (.int x :: S))) := by
  subst hp; exact kk.on fun _ k => XS.i2c X.here hx rfl hd rfl k
theorem o_ineg (X : Stand p l e R s m args below meth c T locs cells slots) (hx : p.tables.exec = Jvm.exec) {x : Int32} (hd : decode c.code pc = .ok (.ineg, 1)) (hp : pc + 1 = pc') (kk : Goes p.tables e below P (T.setTop (mkF m pc' L (.int (-x) :: S)))) : Goes p.tables e below P (T.setTop (mkF m pc L (.int x :: S))) := by
  subst hp; exact kk.on fun _ k => XS.ineg X.here hx rfl hd rfl k
theorem o_lneg (X : Stand p l e R s m args below meth c T locs cells slots) (hx : p.tables.exec = Jvm.exec) {x : Int64} (hd : decode c.code pc = .ok (.lneg, 1)) (hp : pc + 1 = pc') (kk : Goes p.tables e below P (T.setTop (mkF m pc' L (.long (-x) :: S)))) : Goes p.tables e below P (T.setTop (mkF m pc L (.long x :: S))) := by
  subst hp; exact kk.on fun _ k => XS.lneg X.here hx rfl hd rfl k
theorem o_lcmp (X : Stand p l e R s m args below meth c T locs cells slots) (hx : p.tables.exec = Jvm.exec) {x y : Int64} (hd : decode c.code pc = .ok (.lcmp, 1)) (hp : pc + 1 = pc') (kk : Goes p.tables e below P (T.setTop (mkF m pc' L (.int (lcmpW x y) :: S)))) : Goes p.tables e below P (T.setTop (mkF m pc L (.long y :: .long x :: S))) := by
  subst hp; exact kk.on fun _ k => XS.lcmp X.here hx rfl hd rfl k
theorem o_dup (X : Stand p l e R s m args below meth c T locs cells slots) (hx : p.tables.exec = Jvm.exec) {x : Value} (hd : decode c.code pc = .ok (.dup, 1)) (hc : x.category = 1) (hp : pc + 1 = pc') (kk : Goes p.tables e below P (T.setTop (mkF m pc' L (x :: x :: S)))) : Goes p.tables e below P (T.setTop (mkF m pc L (x :: S))) := by
  subst hp; exact kk.on fun _ k => XS.dup X.here hx rfl hd rfl hc k
theorem o_pop (X : Stand p l e R s m args below meth c T locs cells slots) (hx : p.tables.exec = Jvm.exec) {x : Value} (hd : decode c.code pc = .ok (.pop, 1)) (hc : x.category = 1) (hp : pc + 1 = pc') (kk : Goes p.tables e below P (T.setTop (mkF m pc' L S))) : Goes p.tables e below P (T.setTop (mkF m pc L (x :: S))) := by
  subst hp; exact kk.on fun _ k => XS.pop X.here hx rfl hd rfl hc k
theorem o_dupX1 (X : Stand p l e R s m args below meth c T locs cells slots) (hx : p.tables.exec = Jvm.exec) {x y : Value} (hd : decode c.code pc = .ok (.dup_x1, 1)) (hc : x.category = 1) (hc2 : y.category = 1) (hp : pc + 1 = pc') (kk : Goes p.tables e below P (T.setTop (mkF m pc' L (x :: y :: x :: S)))) : Goes p.tables e below P (T.setTop (mkF m pc L (x :: y :: S))) := by
  subst hp; exact kk.on fun _ k => XS.dupX1 X.here hx rfl hd rfl hc hc2 k
theorem o_iinc (X : Stand p l e R s m args below meth c T locs cells slots) (hx : p.tables.exec = Jvm.exec) {k : Nat} {cst : Int} {x v : Int32} (hd : decode c.code pc = .ok (.iinc k cst, 3)) (hl : L[k]? = some (.val (.int x))) (hv : x + Int32.ofInt cst = v) (hl' : storeLocals L k (.int v) = some L') (hp : pc + 3 = pc') (kk : Goes p.tables e below P (T.setTop (mkF m pc' L' S))) : Goes p.tables e below P (T.setTop (mkF m pc L S)) := by
  subst hp; subst hv; exact kk.on fun _ k => XS.iinc X.here hx rfl hd hl hl' k
theorem o_goto (X : Stand p l e R s m args below meth c T locs cells slots) (hx : p.tables.exec = Jvm.exec)  {o : Int} (hd : decode c.code pc = .ok (.goto o, 3)) (ho : 0 ≤ (pc : Int) + o) (hp : ((pc : Int) + o).toNat = pc') (kk : Goes p.tables e below P (T.setTop (mkF m pc' L S))) : Goes p.tables e below P (T.setTop (mkF m pc L S)) :=
  kk.on fun _ k => XS.goto X.here hx rfl (pc0 := pc) rfl hd  ho hp k
theorem o_ifYes (X : Stand p l e R s m args below meth c T locs cells slots) (hx : p.tables.exec = Jvm.exec) {cd : ClassFile.Cond} {x : Int32} {o : Int} (hd : decode c.code pc = .ok (.ifCond cd o, 3)) (hc : ifCond.holds cd x = true) (ho : 0 ≤ (pc : Int) + o) (hp : ((pc : Int) + o).toNat = pc') (kk : Goes p.tables e below P (T.setTop (mkF m pc' L S))) : Goes p.tables e below P (T.setTop (mkF m pc L (.int x :: S))) :=
  kk.on fun _ k => XS.ifYes X.here hx rfl (pc0 := pc) rfl hd rfl hc ho hp k
theorem o_icmpYes (X : Stand p l e R s m args below meth c T locs cells slots) (hx : p.tables.exec = Jvm.exec) {cd : ClassFile.Cond} {x y : Int32} {o : Int} (hd : decode c.code pc = .ok (.if_icmp cd o, 3)) (hc : if_icmp.holds cd x y = true) (ho : 0 ≤ (pc : Int) + o) (hp : ((pc : Int) + o).toNat = pc') (kk : Goes p.tables e below P (T.setTop (mkF m pc' L S))) : Goes p.tables e below P (T.setTop (mkF m pc L (.int y :: .int x :: S))) :=
  kk.on fun _ k => XS.icmpYes X.here hx rfl (pc0 := pc) rfl hd rfl hc ho hp k
theorem o_ifnullYes (X : Stand p l e R s m args below meth c T locs cells slots) (hx : p.tables.exec = Jvm.exec)  {o : Int} (hd : decode c.code pc = .ok (.ifnull o, 3)) (ho : 0 ≤ (pc : Int) + o) (hp : ((pc : Int) + o).toNat = pc') (kk : Goes p.tables e below P (T.setTop (mkF m pc' L S))) : Goes p.tables e below P (T.setTop (mkF m pc L (.null :: S))) :=
  kk.on fun _ k => XS.ifnullYes X.here hx rfl (pc0 := pc) rfl hd rfl ho hp k
theorem o_ifnonnullYes (X : Stand p l e R s m args below meth c T locs cells slots) (hx : p.tables.exec = Jvm.exec) {b : Addr} {o : Int} (hd : decode c.code pc = .ok (.ifnonnull o, 3)) (ho : 0 ≤ (pc : Int) + o) (hp : ((pc : Int) + o).toNat = pc') (kk : Goes p.tables e below P (T.setTop (mkF m pc' L S))) : Goes p.tables e below P (T.setTop (mkF m pc L (.ref b :: S))) :=
  kk.on fun _ k => XS.ifnonnullYes X.here hx rfl (pc0 := pc) rfl hd rfl ho hp k
theorem o_ifNo (X : Stand p l e R s m args below meth c T locs cells slots) (hx : p.tables.exec = Jvm.exec) {cd : ClassFile.Cond} {o : Int} {x : Int32} (hd : decode c.code pc = .ok (.ifCond cd o, 3)) (hc : ifCond.holds cd x = false) (hp : pc + 3 = pc') (kk : Goes p.tables e below P (T.setTop (mkF m pc' L S))) : Goes p.tables e below P (T.setTop (mkF m pc L (.int x :: S))) := by
  subst hp; exact kk.on fun _ k => XS.ifNo X.here hx rfl hd rfl hc k
theorem o_icmpNo (X : Stand p l e R s m args below meth c T locs cells slots) (hx : p.tables.exec = Jvm.exec) {cd : ClassFile.Cond} {o : Int} {x y : Int32} (hd : decode c.code pc = .ok (.if_icmp cd o, 3)) (hc : if_icmp.holds cd x y = false) (hp : pc + 3 = pc') (kk : Goes p.tables e below P (T.setTop (mkF m pc' L S))) : Goes p.tables e below P (T.setTop (mkF m pc L (.int y :: .int x :: S))) := by
  subst hp; exact kk.on fun _ k => XS.icmpNo X.here hx rfl hd rfl hc k
theorem o_ifnullNo (X : Stand p l e R s m args below meth c T locs cells slots) (hx : p.tables.exec = Jvm.exec) {o : Int} {b : Addr} (hd : decode c.code pc = .ok (.ifnull o, 3)) (hp : pc + 3 = pc') (kk : Goes p.tables e below P (T.setTop (mkF m pc' L S))) : Goes p.tables e below P (T.setTop (mkF m pc L (.ref b :: S))) := by
  subst hp; exact kk.on fun _ k => XS.ifnullNo X.here hx rfl hd rfl k
theorem o_ifnonnullNo (X : Stand p l e R s m args below meth c T locs cells slots) (hx : p.tables.exec = Jvm.exec) {o : Int} (hd : decode c.code pc = .ok (.ifnonnull o, 3)) (hp : pc + 3 = pc') (kk : Goes p.tables e below P (T.setTop (mkF m pc' L S))) : Goes p.tables e below P (T.setTop (mkF m pc L (.null :: S))) := by
  subst hp; exact kk.on fun _ k => XS.ifnonnullNo X.here hx rfl hd rfl k
theorem o_acmp (X : Stand p l e R s m args below meth c T locs cells slots) (hx : p.tables.exec = Jvm.exec) {cd : ACond} {x y : Value} {o : Int} {same : Bool} (hd : decode c.code pc = .ok (.if_acmp cd o, 3)) (h1 : x.isRef = true) (h2 : y.isRef = true) (hq : decide (x = y) = same) (ho : 0 ≤ (pc : Int) + o) (hp : pc' = if acV cd same = true then ((pc : Int) + o).toNat else pc + 3) (kk : Goes p.tables e below P (T.setTop (mkF m pc' L S))) : Goes p.tables e below P (T.setTop (mkF m pc L (y :: x :: S))) :=
  kk.on fun _ k => Jvm.RoadKit.acmp (g := mkF m pc L (y :: x :: S)) X hx rfl h1 h2 (pc0 := pc) (pc' := pc') (same := same) rfl hd rfl hq ho hp k
theorem o_tswIn (X : Stand p l e R s m args below meth c T locs cells slots) (hx : p.tables.exec = Jvm.exec) {dflt low high : Int} {offs : Array Int} {len : Nat} {o : Int} {i : Int32} (hd : decode c.code pc = .ok (.tableswitch dflt low high offs, len)) (hin : ¬ (i.toInt < low ∨ i.toInt > high)) (hoff : offs[(i.toInt - low).toNat]? = some o) (ho : 0 ≤ (pc : Int) + o) (hp : ((pc : Int) + o).toNat = pc') (kk : Goes p.tables e below P (T.setTop (mkF m pc' L S))) : Goes p.tables e below P (T.setTop (mkF m pc L (.int i :: S))) :=
  kk.on fun _ k => XS.tswIn X.here hx rfl (pc0 := pc) rfl hd rfl hin hoff ho hp k
theorem o_tswOut (X : Stand p l e R s m args below meth c T locs cells slots) (hx : p.tables.exec = Jvm.exec) {dflt low high : Int} {offs : Array Int} {len : Nat} {i : Int32} (hd : decode c.code pc = .ok (.tableswitch dflt low high offs, len)) (hout : i.toInt < low ∨ i.toInt > high) (ho : 0 ≤ (pc : Int) + dflt) (hp : ((pc : Int) + dflt).toNat = pc') (kk : Goes p.tables e below P (T.setTop (mkF m pc' L S))) : Goes p.tables e below P (T.setTop (mkF m pc L (.int i :: S))) :=
  kk.on fun _ k => XS.tswOut X.here hx rfl (pc0 := pc) rfl hd rfl hout ho hp k
theorem o_getF (X : Stand p l e R s m args below meth c T locs cells slots) (hx : p.tables.exec = Jvm.exec) (hZ : Z.Warmed39 s.vm) {own R0 O n d host : String} {index : Nat} (hown : s.vm.findClass own = some m.cls) (w : (Cond.fieldLink own index R0 n d).before a0 Z = true ∨ (Cond.fieldLinkNest own index R0 n d host).before a0 Z = true) (via : Via Z R0 O n d) (eT : T.heap = h) {a : Addr} {v : Value} (F : Fld Z h a O n d v) (hd : decode c.code pc = .ok (.getfield index, 3)) (hp : pc + 3 = pc')
    (kk : ∀ T', Stand p l e R s m args below meth c T' locs cells slots → T'.heap = h → Goes p.tables e below P (T'.setTop (mkF m pc' L (v :: S)))) : Goes p.tables e below P (T.setTop (mkF m pc L (.ref a :: S))) := by
  subst hp
  obtain ⟨T', X', e', st⟩ := getF X hx hZ hown w via eT F (g := mkF m pc L (.ref a :: S)) rfl rfl hd
  exact (kk T' X' e').on st
theorem o_getS (X : Stand p l e R s m args below meth c T locs cells slots) (hx : p.tables.exec = Jvm.exec) (hZ : Z.Warmed39 s.vm) {own R0 O n d host : String} {index : Nat} (hown : s.vm.findClass own = some m.cls) (w : (Cond.fieldLink own index R0 n d).before a0 Z = true ∨ (Cond.fieldLinkNest own index R0 n d host).before a0 Z = true) (via : Via Z R0 O n d) (eT : T.heap = h) {v : Value} (F : Sta Z h O n d v) (hd : decode c.code pc = .ok (.getstatic index, 3)) (hp : pc + 3 = pc')
    (kk : ∀ T', Stand p l e R s m args below meth c T' locs cells slots → T'.heap = h → Goes p.tables e below P (T'.setTop (mkF m pc' L (v :: S)))) : Goes p.tables e below P (T.setTop (mkF m pc L S)) := by
  subst hp
  obtain ⟨T', X', e', st⟩ := getS2 X hx hZ hown w via eT F (g := mkF m pc L S) rfl hd
  exact (kk T' X' e').on st
theorem o_putF (X : Stand p l e R s m args below meth c T locs cells slots) (hx : p.tables.exec = Jvm.exec) (hZ : Z.Warmed39 s.vm) {own R0 O n d host C : String} {index kk0 : Nat} {ty : FieldType} (hown : s.vm.findClass own = some m.cls) (w : (Cond.fieldLink own index R0 n d).before a0 Z = true ∨ (Cond.fieldLinkNest own index R0 n d host).before a0 Z = true) (via : Via Z R0 O n d) (eT : T.heap = h) {a : Addr} {v old : Value} (F : Fld Z h a O n d old) (E : Exa Z h a C) (Lw : (Cond.lays C O n d).before a0 Z = true ∨ ((Cond.laysFinal C O n d).before a0 Z = true ∧ own = O ∧ meth.name = "<init>")) (wi : (Cond.instantiable C kk0).before a0 Z = true)
    (hty : parseFieldDescriptor d = some ty) (hn : narrow ty v = v) (hf : fits ty v = true) (hd : decode c.code pc = .ok (.putfield index, 3)) (hp : pc + 3 = pc')
    (kk : ∀ T' h', Stand p l e R s m args below meth c T' (locs ++ [⟨a, Jvm.RoadKit.slotOf Z O n d⟩]) cells slots → T'.heap = h' → Wr h h' a (Jvm.RoadKit.slotOf Z O n d) v → Goes p.tables e below P (T'.setTop (mkF m pc' L S))) : Goes p.tables e below P (T.setTop (mkF m pc L (v :: .ref a :: S))) := by
  subst hp
  obtain ⟨T', h', X', e', W', st⟩ := putF X hx hZ hown w via eT F E Lw wi hty hn hf (g := mkF m pc L (v :: .ref a :: S)) rfl rfl hd
  exact (kk T' h' X' e' W').on st
theorem o_new (X : Stand p l e R s m args below meth c T locs cells slots) (hx : p.tables.exec = Jvm.exec) (hZ : Z.Warmed39 s.vm) {own C : String} {index n : Nat} (hown : s.vm.findClass own = some m.cls) (w : (Cond.classLink own index C).before a0 Z = true) (wi : (Cond.instantiable C n).before a0 Z = true) (wz : (Cond.initialized C).before a0 Z = true) (eT : T.heap = h) (hd : decode c.code pc = .ok (.new index, 3)) (hc : cells + 1 ≤ R.cells) (hl : slots + n ≤ R.slots) (hc' : cells + 1 = cells') (hs' : slots + n = slots') (hp : pc + 3 = pc')
    (kk : ∀ T' h' b, b = h.size → Stand p l e R s m args below meth c T' locs cells' slots' → T'.heap = h' → Ext h h' → Exa Z h' b C → (∀ {O nm d : String} {ty : FieldType}, Laid Z a0 C O nm d → parseFieldDescriptor d = some ty → Fld Z h' b O nm d (defaultValue ty)) → Goes p.tables e below P (T'.setTop (mkF m pc' L (.ref b :: S)))) : Goes p.tables e below P (T.setTop (mkF m pc L S)) := by
  subst hp hc' hs'
  obtain ⟨T', h', X', e', E', A', D', -, st⟩ := newO X hx hZ hown w wi wz eT (g := mkF m pc L S) rfl hd hc hl
  exact (kk T' h' _ rfl X' e' E' A' D').on st
theorem o_newP (X : Stand p l e R s m args below meth c T locs cells slots) (hx : p.tables.exec = Jvm.exec) (hZ : Z.Warmed39 s.vm) {aty : ArrayType} (w : (Cond.arrayClass (newarray.typeOf aty)).before a0 Z = true) (eT : T.heap = h) (hd : decode c.code pc = .ok (.newarray aty, 2)) {n : Int32} (hn : ¬ n < 0) {cap : Nat} (hcap : n.toNatClampNeg ≤ cap) (hb : cap * 8 ≤ 536870912) (hc : cells + 1 ≤ R.cells) (hl : slots + cap ≤ R.slots) (hc' : cells + 1 = cells') (hs' : slots + cap = slots') (hp : pc + 2 = pc')
    (kk : ∀ T' h' k b, b = h.size → Stand p l e R s m args below meth c T' locs cells' slots' → T'.heap = h' → Ext h h' → Arr Z h' b (newA k (newarray.typeOf aty) n) (newarray.typeOf aty) → Goes p.tables e below P (T'.setTop (mkF m pc' L (.ref b :: S)))) : Goes p.tables e below P (T.setTop (mkF m pc L (.int n :: S))) := by
  subst hp hc' hs'
  obtain ⟨T', h', k, X', e', E', A', st⟩ := newP X hx hZ w eT (g := mkF m pc L (.int n :: S)) rfl hd rfl hn hcap hb hc hl
  exact (kk T' h' k _ rfl X' e' E' A').on st
theorem o_initO (X : Stand p l e R s m args below meth c T locs cells slots) (hx : p.tables.exec = Jvm.exec) (hZ : Z.Warmed39 s.vm) {own : String} {idx : Nat} (hown : s.vm.findClass own = some m.cls) (w1 : (Cond.methodLink own idx Lib.objectInit).before a0 Z = true) (w2 : (Cond.instanceMethod Lib.objectInit).before a0 Z = true) (w3 : (Cond.code Lib.objectInit ⟨#[0xb1]⟩ 1 none).before a0 Z = true) (eT : T.heap = h) (hsize : L.size = c.maxLocals) {a : Addr} (hd : decode c.code pc = .ok (.invokespecial idx, 3)) (hf : 1 ≤ R.frames) {W : Nat} (hW : (S.map fun v => v.category).sum = W) (hl : W + 12 ≤ R.locals) (hp : pc + 3 = pc')
    (kk : ∀ T', Stand p l e R s m args below meth c T' locs cells slots → T'.heap = h → Goes p.tables e below P (T'.setTop (mkF m pc' L S))) : Goes p.tables e below P (T.setTop (mkF m pc L (.ref a :: S))) := by
  subst hp
  obtain ⟨T', X', e', st⟩ := initO X hx hZ hown w1 w2 w3 eT (g := mkF m pc L (.ref a :: S)) rfl hsize rfl hd hf (W := W) (by rw [← hW]; show 2 * 0 + _ ≤ _; omega) hl
  exact (kk T' X' e').on st
theorem o_stI (X : Stand p l e R s m args below meth c T locs cells slots) (hx : p.tables.exec = Jvm.exec) (hZ : Z.Warmed39 s.vm) (eT : T.heap = h) {a : Addr} {kc : ClassId} {z : Int32} {vs : List Value} {dv : Value} (A : Arv Z h a kc .int z vs dv) {j : Int32} {x : Int32} {i : Nat} (hj : ¬ j < 0 ∧ j < z) (hi : j.toNatClampNeg = i) (hv : i < vs.length) (hd : decode c.code pc = .ok (.iastore, 1)) (hp : pc + 1 = pc')
    (kk : ∀ T' h', Stand p l e R s m args below meth c T' (locs ++ [⟨a, i⟩]) cells slots → T'.heap = h' → Wr h h' a i (.int x) → Arv Z h' a kc .int z (vs.set i (.int x)) dv → Goes p.tables e below P (T'.setTop (mkF m pc' L S))) : Goes p.tables e below P (T.setTop (mkF m pc L ((.int x) :: .int j :: .ref a :: S))) := by
  subst hp
  obtain ⟨cl, A1, q1, S1, N1, H1, G1⟩ := A
  obtain ⟨T', h', X', e', W', st⟩ := stI X hx hZ eT A1 (j := j) (x := x) (inb_of S1 hj) (g := mkF m pc L ((.int x) :: .int j :: .ref a :: S)) rfl rfl hd
  have V' := Arv.set A1 q1 S1 N1 H1 G1 (rfl) W' i hi hv
  rw [hi] at X' W'
  exact (kk T' h' X' e' W' V').on st
theorem o_stJ (X : Stand p l e R s m args below meth c T locs cells slots) (hx : p.tables.exec = Jvm.exec) (hZ : Z.Warmed39 s.vm) (eT : T.heap = h) {a : Addr} {kc : ClassId} {z : Int32} {vs : List Value} {dv : Value} (A : Arv Z h a kc .long z vs dv) {j : Int32} {x : Int64} {i : Nat} (hj : ¬ j < 0 ∧ j < z) (hi : j.toNatClampNeg = i) (hv : i < vs.length) (hd : decode c.code pc = .ok (.lastore, 1)) (hp : pc + 1 = pc')
    (kk : ∀ T' h', Stand p l e R s m args below meth c T' (locs ++ [⟨a, i⟩]) cells slots → T'.heap = h' → Wr h h' a i (.long x) → Arv Z h' a kc .long z (vs.set i (.long x)) dv → Goes p.tables e below P (T'.setTop (mkF m pc' L S))) : Goes p.tables e below P (T.setTop (mkF m pc L ((.long x) :: .int j :: .ref a :: S))) := by
  subst hp
  obtain ⟨cl, A1, q1, S1, N1, H1, G1⟩ := A
  obtain ⟨T', h', X', e', W', st⟩ := stJ X hx hZ eT A1 (j := j) (x := x) (inb_of S1 hj) (g := mkF m pc L ((.long x) :: .int j :: .ref a :: S)) rfl rfl hd
  have V' := Arv.set A1 q1 S1 N1 H1 G1 (rfl) W' i hi hv
  rw [hi] at X' W'
  exact (kk T' h' X' e' W' V').on st
theorem o_stC (X : Stand p l e R s m args below meth c T locs cells slots) (hx : p.tables.exec = Jvm.exec) (hZ : Z.Warmed39 s.vm) (eT : T.heap = h) {a : Addr} {kc : ClassId} {z : Int32} {vs : List Value} {dv : Value} (A : Arv Z h a kc .char z vs dv) {j : Int32} {x : Int32} {i : Nat} (hj : ¬ j < 0 ∧ j < z) (hi : j.toNatClampNeg = i) (hv : i < vs.length) (hd : decode c.code pc = .ok (.castore, 1)) (hp : pc + 1 = pc')
    (kk : ∀ T' h', Stand p l e R s m args below meth c T' (locs ++ [⟨a, i⟩]) cells slots → T'.heap = h' → Wr h h' a i (.int (nar .char x)) → Arv Z h' a kc .char z (vs.set i (.int (nar .char x))) dv → Goes p.tables e below P (T'.setTop (mkF m pc' L S))) : Goes p.tables e below P (T.setTop (mkF m pc L ((.int x) :: .int j :: .ref a :: S))) := by
  subst hp
  obtain ⟨cl, A1, q1, S1, N1, H1, G1⟩ := A
  obtain ⟨T', h', X', e', W', st⟩ := stC X hx hZ eT A1 (j := j) (x := x) (inb_of S1 hj) (g := mkF m pc L ((.int x) :: .int j :: .ref a :: S)) rfl rfl hd
  have V' := Arv.set A1 q1 S1 N1 H1 G1 (fits_nar_char _) W' i hi hv
  rw [hi] at X' W'
  exact (kk T' h' X' e' W' V').on st
theorem o_stB (X : Stand p l e R s m args below meth c T locs cells slots) (hx : p.tables.exec = Jvm.exec) (hZ : Z.Warmed39 s.vm) (eT : T.heap = h) {a : Addr} {kc : ClassId} {z : Int32} {vs : List Value} {dv : Value} (A : Arv Z h a kc .byte z vs dv) {j : Int32} {x : Int32} {i : Nat} (hj : ¬ j < 0 ∧ j < z) (hi : j.toNatClampNeg = i) (hv : i < vs.length) (hd : decode c.code pc = .ok (.bastore, 1)) (hp : pc + 1 = pc')
    (kk : ∀ T' h', Stand p l e R s m args below meth c T' (locs ++ [⟨a, i⟩]) cells slots → T'.heap = h' → Wr h h' a i (.int (nar .byte x)) → Arv Z h' a kc .byte z (vs.set i (.int (nar .byte x))) dv → Goes p.tables e below P (T'.setTop (mkF m pc' L S))) : Goes p.tables e below P (T.setTop (mkF m pc L ((.int x) :: .int j :: .ref a :: S))) := by
  subst hp
  obtain ⟨cl, A1, q1, S1, N1, H1, G1⟩ := A
  obtain ⟨T', h', X', e', W', st⟩ := stB X hx hZ eT A1 (j := j) (x := x) (inb_of S1 hj) (g := mkF m pc L ((.int x) :: .int j :: .ref a :: S)) rfl rfl hd
  have V' := Arv.set A1 q1 S1 N1 H1 G1 (fits_nar_byte _) W' i hi hv
  rw [hi] at X' W'
  exact (kk T' h' X' e' W' V').on st
theorem o_stZ (X : Stand p l e R s m args below meth c T locs cells slots) (hx : p.tables.exec = Jvm.exec) (hZ : Z.Warmed39 s.vm) (eT : T.heap = h) {a : Addr} {kc : ClassId} {z : Int32} {vs : List Value} {dv : Value} (A : Arv Z h a kc .boolean z vs dv) {j : Int32} {x : Int32} {i : Nat} (hj : ¬ j < 0 ∧ j < z) (hi : j.toNatClampNeg = i) (hv : i < vs.length) (hd : decode c.code pc = .ok (.bastore, 1)) (hp : pc + 1 = pc')
    (kk : ∀ T' h', Stand p l e R s m args below meth c T' (locs ++ [⟨a, i⟩]) cells slots → T'.heap = h' → Wr h h' a i (.int (nar .boolean x)) → Arv Z h' a kc .boolean z (vs.set i (.int (nar .boolean x))) dv → Goes p.tables e below P (T'.setTop (mkF m pc' L S))) : Goes p.tables e below P (T.setTop (mkF m pc L ((.int x) :: .int j :: .ref a :: S))) := by
  subst hp
  obtain ⟨cl, A1, q1, S1, N1, H1, G1⟩ := A
  obtain ⟨T', h', X', e', W', st⟩ := stZ X hx hZ eT A1 (j := j) (x := x) (inb_of S1 hj) (g := mkF m pc L ((.int x) :: .int j :: .ref a :: S)) rfl rfl hd
  have V' := Arv.set A1 q1 S1 N1 H1 G1 (fits_nar_bool _) W' i hi hv
  rw [hi] at X' W'
  exact (kk T' h' X' e' W' V').on st
theorem o_stD (X : Stand p l e R s m args below meth c T locs cells slots) (hx : p.tables.exec = Jvm.exec) (hZ : Z.Warmed39 s.vm) (eT : T.heap = h) {a : Addr} {kc : ClassId} {z : Int32} {vs : List Value} {dv : Value} (A : Arv Z h a kc .double z vs dv) {j : Int32} {x : UInt64} {i : Nat} (hj : ¬ j < 0 ∧ j < z) (hi : j.toNatClampNeg = i) (hv : i < vs.length) (hd : decode c.code pc = .ok (.dastore, 1)) (hp : pc + 1 = pc')
    (kk : ∀ T' h', Stand p l e R s m args below meth c T' (locs ++ [⟨a, i⟩]) cells slots → T'.heap = h' → Wr h h' a i (.double x) → Arv Z h' a kc .double z (vs.set i (.double x)) dv → Goes p.tables e below P (T'.setTop (mkF m pc' L S))) : Goes p.tables e below P (T.setTop (mkF m pc L ((.double x) :: .int j :: .ref a :: S))) := by
  subst hp
  obtain ⟨cl, A1, q1, S1, N1, H1, G1⟩ := A
  obtain ⟨T', h', X', e', W', st⟩ := stD X hx hZ eT A1 (j := j) (x := x) (inb_of S1 hj) (g := mkF m pc L ((.double x) :: .int j :: .ref a :: S)) rfl rfl hd
  have V' := Arv.set A1 q1 S1 N1 H1 G1 (rfl) W' i hi hv
  rw [hi] at X' W'
  exact (kk T' h' X' e' W' V').on st
theorem o_castY (X : Stand p l e R s m args below meth c T locs cells slots) (hx : p.tables.exec = Jvm.exec) (hZ : Z.Warmed39 s.vm) {own K : String} {index : Nat} (hown : s.vm.findClass own = some m.cls) (w : (Cond.classLink own index K).before a0 Z = true) (eT : T.heap = h) {a : Addr} (F : Ins Z h a K true) (hd : decode c.code pc = .ok (.checkcast index, 3)) (hp : pc + 3 = pc')
    (kk : ∀ T', Stand p l e R s m args below meth c T' locs cells slots → T'.heap = h → Goes p.tables e below P (T'.setTop (mkF m pc' L (.ref a :: S)))) : Goes p.tables e below P (T.setTop (mkF m pc L (.ref a :: S))) := by
  subst hp
  obtain ⟨T', X', e', st⟩ := castY X hx hZ hown w eT F (g := mkF m pc L (.ref a :: S)) rfl rfl hd
  exact (kk T' X' e').on st
theorem o_instY (X : Stand p l e R s m args below meth c T locs cells slots) (hx : p.tables.exec = Jvm.exec) (hZ : Z.Warmed39 s.vm) {own K : String} {index : Nat} (hown : s.vm.findClass own = some m.cls) (w : (Cond.classLink own index K).before a0 Z = true) (eT : T.heap = h) {a : Addr} (F : Ins Z h a K true) (hd : decode c.code pc = .ok (.instanceof index, 3)) (hp : pc + 3 = pc')
    (kk : ∀ T', Stand p l e R s m args below meth c T' locs cells slots → T'.heap = h → Goes p.tables e below P (T'.setTop (mkF m pc' L (.int 1 :: S)))) : Goes p.tables e below P (T.setTop (mkF m pc L (.ref a :: S))) := by
  subst hp
  obtain ⟨T', X', e', st⟩ := instY X hx hZ hown w eT F (g := mkF m pc L (.ref a :: S)) rfl rfl hd
  exact (kk T' X' e').on st
theorem o_instNo (X : Stand p l e R s m args below meth c T locs cells slots) (hx : p.tables.exec = Jvm.exec) (hZ : Z.Warmed39 s.vm) {own K C : String} {index : Nat} (hown : s.vm.findClass own = some m.cls) (w : (Cond.classLink own index K).before a0 Z = true) (eT : T.heap = h) {a : Addr} (E : Exa Z h a C) (F : ∃ c t, Z.vm.findClass C = some c ∧ Z.vm.findClass K = some t ∧ Z.vm.assignable c t = false) (hd : decode c.code pc = .ok (.instanceof index, 3)) (hp : pc + 3 = pc')
    (kk : ∀ T', Stand p l e R s m args below meth c T' locs cells slots → T'.heap = h → Goes p.tables e below P (T'.setTop (mkF m pc' L (.int 0 :: S)))) : Goes p.tables e below P (T.setTop (mkF m pc L (.ref a :: S))) := by
  subst hp
  obtain ⟨T', X', e', st⟩ := instNo X hx hZ hown w eT E F (g := mkF m pc L (.ref a :: S)) rfl rfl hd
  exact (kk T' X' e').on st
theorem o_static (X : Stand p l e R s m args below meth c T locs cells slots) (hx : p.tables.exec = Jvm.exec) (hZ : Z.Warmed39 s.vm) {own : String} {index : Nat} {y : MethodName} {bytes : ByteArray} {maxL : Nat} {ret : Option FieldType} (hown : s.vm.findClass own = some m.cls) (w1 : (Cond.methodLink own index y).before a0 Z = true) (w2 : (Cond.static y).before a0 Z = true) (hy : y.cls ≠ "java/lang/invoke/MethodHandle" ∧ y.cls ≠ "java/lang/invoke/VarHandle") {rm : Room} {as' : Array Value} {Q : Option Value → Heap → List Loc → Prop} (hM : Met l Z y bytes maxL ret rm [] as' h Q) (hwc : (Cond.code y bytes maxL ret).before a0 Z = true) (hwi : (Cond.initialized y.cls).before a0 Z = true) (eT : T.heap = h) (hsize : L.size = c.maxLocals) {argsL rest : List Value} {W : Nat} {ps : List FieldType} {rr : Option FieldType} (hpd : parseMethodDescriptor y.desc = some ⟨ps, rr⟩) (hlen : argsL.length = ps.length) (hst : S = argsL.reverse ++ rest) (has : as' = (argsL).toArray) (hW : (rest.map fun v => v.category).sum = W) (hd : decode c.code pc = .ok (.invokestatic index, 3)) (hf : rm.frames + 1 ≤ R.frames) (hlo : W + (maxL + 11) + rm.locals ≤ R.locals) (hc : cells + rm.cells ≤ R.cells) (hs : slots + rm.slots ≤ R.slots) (hc' : cells + rm.cells = cells') (hs' : slots + rm.slots = slots') (hp : pc + 3 = pc')
    (kk : ∀ v T' h' Lc, Stand p l e R s m args below meth c T' (locs ++ Lc) cells' slots' → T'.heap = h' → Q v h' Lc → Goes p.tables e below P (T'.setTop (mkF m pc' L (v.toList ++ rest)))) : Goes p.tables e below P (T.setTop (mkF m pc L S)) := by
  subst hp hc' hs' hst has
  obtain ⟨_, _, ⟨T1, L1, k1, n1⟩, -, X1, ⟨Lc, hQ, l1, y1, z1⟩, st⟩ := Jvm.LawKit.callS X hx hown (mvT hZ w1) (mvT hZ w2) (mvT hZ hwi) (mvT hZ hwc) hy (backOf (W := W) hM hZ hwc hwi hf hlo) (g := mkF m pc L (argsL.reverse ++ rest)) rfl hsize (argsL := argsL) (rest := rest) (lenOf hpd hlen) rfl (by rw [← hW]; show 2 * 0 + _ ≤ _; omega) hd (fun _ _ => ⟨rfl, eT, hc, hs⟩)
  dsimp only [Pt.U, Pt.locs, Pt.cells, Pt.slots] at X1 l1 y1 z1 st hQ
  subst l1 y1 z1
  exact (kk _ _ _ _ X1 rfl hQ).on st
theorem o_special (X : Stand p l e R s m args below meth c T locs cells slots) (hx : p.tables.exec = Jvm.exec) (hZ : Z.Warmed39 s.vm) {own : String} {index : Nat} {y : MethodName} {bytes : ByteArray} {maxL : Nat} {ret : Option FieldType} (hr : ret = none) (hy1 : y.name = "<init>") (hown : s.vm.findClass own = some m.cls) (w1 : (Cond.methodLink own index y).before a0 Z = true) (w2 : (Cond.instanceMethod y).before a0 Z = true) (hy : y.cls ≠ "java/lang/invoke/MethodHandle" ∧ y.cls ≠ "java/lang/invoke/VarHandle") {a : Addr} {rm : Room} {as' : Array Value} {Q : Option Value → Heap → List Loc → Prop} (hM : Met l Z y bytes maxL ret rm [] as' h Q) (hwc : (Cond.code y bytes maxL ret).before a0 Z = true) (hwi : (Cond.initialized y.cls).before a0 Z = true) (eT : T.heap = h) (hsize : L.size = c.maxLocals) {argsL rest : List Value} {W : Nat} {ps : List FieldType} {rr : Option FieldType} (hpd : parseMethodDescriptor y.desc = some ⟨ps, rr⟩) (hlen : argsL.length = ps.length) (hst : S = argsL.reverse ++ .ref a :: rest) (has : as' = (.ref a :: argsL).toArray) (hW : (rest.map fun v => v.category).sum = W) (hd : decode c.code pc = .ok (.invokespecial index, 3)) (hf : rm.frames + 1 ≤ R.frames) (hlo : W + (maxL + 11) + rm.locals ≤ R.locals) (hc : cells + rm.cells ≤ R.cells) (hs : slots + rm.slots ≤ R.slots) (hc' : cells + rm.cells = cells') (hs' : slots + rm.slots = slots') (hp : pc + 3 = pc')
    (kk : ∀ v T' h' Lc, Stand p l e R s m args below meth c T' (locs ++ Lc) cells' slots' → T'.heap = h' → Q v h' Lc → Goes p.tables e below P (T'.setTop (mkF m pc' L (v.toList ++ rest)))) : Goes p.tables e below P (T.setTop (mkF m pc L S)) := by
  subst hp hc' hs' hst has hr
  obtain ⟨_, _, ⟨T1, L1, k1, n1⟩, -, X1, ⟨Lc, hQ, l1, y1, z1⟩, st⟩ := X.specialBack hx hy1 hown (mvT hZ w1) (mvT hZ w2) (mvT hZ hwc) hy (backOf (W := W) hM hZ hwc hwi hf hlo) (g := mkF m pc L (argsL.reverse ++ .ref a :: rest)) rfl hsize (Steps.refl _) (a := a) (argsL := argsL) (rest := rest) (lenOf hpd hlen) rfl (by rw [← hW]; show 2 * 0 + _ ≤ _; omega) hd (fun _ _ => ⟨rfl, eT, hc, hs⟩)
  dsimp only [Pt.U, Pt.locs, Pt.cells, Pt.slots] at X1 l1 y1 z1 st hQ
  subst l1 y1 z1
  exact (kk _ _ _ _ X1 rfl hQ).to st
theorem o_virtual (X : Stand p l e R s m args below meth c T locs cells slots) (hx : p.tables.exec = Jvm.exec) (hZ : Z.Warmed39 s.vm) {own C : String} {index : Nat} {y z : MethodName} {bytes : ByteArray} {maxL : Nat} {ret : Option FieldType} (hown : s.vm.findClass own = some m.cls) (w1 : (Cond.methodLink own index y).before a0 Z = true) (w2 : (Cond.declares y).before a0 Z = true) (hnf : NotFace s y) (w3 : (Cond.selects C y z).before a0 Z = true) (w4 : (Cond.instanceMethod z).before a0 Z = true) (hy : y.cls ≠ "java/lang/invoke/MethodHandle" ∧ y.cls ≠ "java/lang/invoke/VarHandle") {a : Addr} (E : Exa Z h a C) {rm : Room} {as' : Array Value} {Q : Option Value → Heap → List Loc → Prop} (hM : Met l Z z bytes maxL ret rm [] as' h Q) (hwc : (Cond.code z bytes maxL ret).before a0 Z = true) (hwi : (Cond.initialized z.cls).before a0 Z = true) (eT : T.heap = h) (hsize : L.size = c.maxLocals) {argsL rest : List Value} {W : Nat} {ps : List FieldType} {rr : Option FieldType} (hpd : parseMethodDescriptor y.desc = some ⟨ps, rr⟩) (hlen : argsL.length = ps.length) (hst : S = argsL.reverse ++ .ref a :: rest) (has : as' = (.ref a :: argsL).toArray) (hW : (rest.map fun v => v.category).sum = W) (hd : decode c.code pc = .ok (.invokevirtual index, 3)) (hf : rm.frames + 1 ≤ R.frames) (hlo : W + (maxL + 11) + rm.locals ≤ R.locals) (hc : cells + rm.cells ≤ R.cells) (hs : slots + rm.slots ≤ R.slots) (hc' : cells + rm.cells = cells') (hs' : slots + rm.slots = slots') (hp : pc + 3 = pc')
    (kk : ∀ v T' h' Lc, Stand p l e R s m args below meth c T' (locs ++ Lc) cells' slots' → T'.heap = h' → Q v h' Lc → Goes p.tables e below P (T'.setTop (mkF m pc' L (v.toList ++ rest)))) : Goes p.tables e below P (T.setTop (mkF m pc L S)) := by
  subst hp hc' hs' hst has
  obtain ⟨cq, kq, qa, qb, qc⟩ := isOf (T := T) hZ eT E
  obtain ⟨_, _, ⟨T1, L1, k1, n1⟩, -, X1, ⟨Lc, hQ, l1, y1, z1⟩, st⟩ := X.virtualBack hx hown (mvT hZ w1) (mvT hZ w2) hnf (mvT hZ w3) (mvT hZ w4) hy (backOf (W := W) hM hZ hwc hwi hf hlo) qa qc (g := mkF m pc L (argsL.reverse ++ .ref a :: rest)) rfl hsize (Steps.refl _) (argsL := argsL) (rest := rest) (lenOf hpd hlen) rfl (by rw [← hW]; show 2 * 0 + _ ≤ _; omega) hd (fun _ _ => ⟨rfl, eT, hc, hs⟩)
  dsimp only [Pt.U, Pt.locs, Pt.cells, Pt.slots] at X1 l1 y1 z1 st hQ
  subst l1 y1 z1
  exact (kk _ _ _ _ X1 rfl hQ).to st
theorem o_iface (X : Stand p l e R s m args below meth c T locs cells slots) (hx : p.tables.exec = Jvm.exec) (hZ : Z.Warmed39 s.vm) {own C : String} {index count : Nat} {xi y : MethodName} {bytes : ByteArray} {maxL : Nat} {ret : Option FieldType} (hown : s.vm.findClass own = some m.cls) (w1 : (Cond.methodLink own index xi).before a0 Z = true) (w2 : (Cond.declares xi).before a0 Z = true) (w3 : (Cond.interfaceMethod xi.cls xi.cls xi.name xi.desc).before args s = true) (w4 : (Cond.selects C xi y).before a0 Z = true) (w5 : (Cond.instanceMethod y).before a0 Z = true) (w6 : (Cond.publicMethod y).before a0 Z = true) (w7 : (Cond.unhidden C xi.name xi.desc).before a0 Z = true) (w8 : (Cond.castable C xi.cls).before a0 Z = true) (hy : xi.cls ≠ "java/lang/invoke/MethodHandle" ∧ xi.cls ≠ "java/lang/invoke/VarHandle") {a : Addr} (E : Exa Z h a C) {rm : Room} {as' : Array Value} {Q : Option Value → Heap → List Loc → Prop} (hM : Met l Z y bytes maxL ret rm [] as' h Q) (hwc : (Cond.code y bytes maxL ret).before a0 Z = true) (hwi : (Cond.initialized y.cls).before a0 Z = true) (eT : T.heap = h) (hsize : L.size = c.maxLocals) {argsL rest : List Value} {W : Nat} {ps : List FieldType} {rr : Option FieldType} (hpd : parseMethodDescriptor xi.desc = some ⟨ps, rr⟩) (hlen : argsL.length = ps.length) (hst : S = argsL.reverse ++ .ref a :: rest) (has : as' = (.ref a :: argsL).toArray) (hW : (rest.map fun v => v.category).sum = W) (hd : decode c.code pc = .ok (.invokeinterface index count, 5)) (hf : rm.frames + 1 ≤ R.frames) (hlo : W + (maxL + 11) + rm.locals ≤ R.locals) (hc : cells + rm.cells ≤ R.cells) (hs : slots + rm.slots ≤ R.slots) (hc' : cells + rm.cells = cells') (hs' : slots + rm.slots = slots') (hp : pc + 5 = pc')
    (kk : ∀ v T' h' Lc, Stand p l e R s m args below meth c T' (locs ++ Lc) cells' slots' → T'.heap = h' → Q v h' Lc → Goes p.tables e below P (T'.setTop (mkF m pc' L (v.toList ++ rest)))) : Goes p.tables e below P (T.setTop (mkF m pc L S)) := by
  subst hp hc' hs' hst has
  obtain ⟨cq, kq, qa, qb, qc⟩ := isOf (T := T) hZ eT E
  obtain ⟨_, _, ⟨T1, L1, k1, n1⟩, -, X1, ⟨Lc, hQ, l1, y1, z1⟩, st⟩ := X.interfaceBack hx hown (mvT hZ w1) (mvT hZ w2) w3 (mvT hZ w4) (mvT hZ w5) (mvT hZ w6) (mvT hZ w7) (mvT hZ w8) hy (backOf (W := W) hM hZ hwc hwi hf hlo) qa qb qc (g := mkF m pc L (argsL.reverse ++ .ref a :: rest)) rfl hsize (Steps.refl _) (argsL := argsL) (rest := rest) (lenOf hpd hlen) rfl (by rw [← hW]; show 2 * 0 + _ ≤ _; omega) hd (fun _ _ => ⟨rfl, eT, hc, hs⟩)
  dsimp only [Pt.U, Pt.locs, Pt.cells, Pt.slots] at X1 l1 y1 z1 st hQ
  subst l1 y1 z1
  exact (kk _ _ _ _ X1 rfl hQ).to st
theorem o_virtualUp (X : Stand p l e R s m args below meth c T locs cells slots) (hx : p.tables.exec = Jvm.exec) (hZ : Z.Warmed39 s.vm) {own C owner : String} {index : Nat} {x y : MethodName} {bytes : ByteArray} {maxL : Nat} {ret : Option FieldType} (hown : s.vm.findClass own = some m.cls) (w1 : (Cond.methodLink own index x).before a0 Z = true) (w2 : (Cond.sameMethod x.cls owner x.name x.desc).before a0 Z = true) (w2' : (Cond.declares ⟨owner, x.name, x.desc⟩).before a0 Z = true) (w3 : (Cond.selects C x y).before a0 Z = true) (w4 : (Cond.instanceMethod y).before a0 Z = true) (hy : owner ≠ "java/lang/invoke/MethodHandle" ∧ owner ≠ "java/lang/invoke/VarHandle") {a : Addr} (E : Exa Z h a C) {rm : Room} {as' : Array Value} {Q : Option Value → Heap → List Loc → Prop} (hM : Met l Z y bytes maxL ret rm [] as' h Q) (hwc : (Cond.code y bytes maxL ret).before a0 Z = true) (hwi : (Cond.initialized y.cls).before a0 Z = true) (eT : T.heap = h) (hsize : L.size = c.maxLocals) {argsL rest : List Value} {W : Nat} {ps : List FieldType} {rr : Option FieldType} (hpd : parseMethodDescriptor x.desc = some ⟨ps, rr⟩) (hlen : argsL.length = ps.length) (hst : S = argsL.reverse ++ .ref a :: rest) (has : as' = (.ref a :: argsL).toArray) (hW : (rest.map fun v => v.category).sum = W) (hd : decode c.code pc = .ok (.invokevirtual index, 3)) (hf : rm.frames + 1 ≤ R.frames) (hlo : W + (maxL + 11) + rm.locals ≤ R.locals) (hc : cells + rm.cells ≤ R.cells) (hs : slots + rm.slots ≤ R.slots) (hc' : cells + rm.cells = cells') (hs' : slots + rm.slots = slots') (hp : pc + 3 = pc')
    (kk : ∀ v T' h' Lc, Stand p l e R s m args below meth c T' (locs ++ Lc) cells' slots' → T'.heap = h' → Q v h' Lc → Goes p.tables e below P (T'.setTop (mkF m pc' L (v.toList ++ rest)))) : Goes p.tables e below P (T.setTop (mkF m pc L S)) := by
  subst hp hc' hs' hst has
  obtain ⟨cq, kq, qa, qb, qc⟩ := isOf (T := T) hZ eT E
  obtain ⟨_, _, ⟨T1, L1, k1, n1⟩, -, X1, ⟨Lc, hQ, l1, y1, z1⟩, st⟩ := X.virtualBackUp hx hown (mvT hZ w1) (mvT hZ w2) (mvT hZ w2') hy (mvT hZ w3) (mvT hZ w4) (backOf (W := W) hM hZ hwc hwi hf hlo) qa qc (g := mkF m pc L (argsL.reverse ++ .ref a :: rest)) rfl hsize (Steps.refl _) (argsL := argsL) (rest := rest) (lenOf hpd hlen) rfl (by rw [← hW]; show 2 * 0 + _ ≤ _; omega) hd (fun _ _ => ⟨rfl, eT, hc, hs⟩)
  dsimp only [Pt.U, Pt.locs, Pt.cells, Pt.slots] at X1 l1 y1 z1 st hQ
  subst l1 y1 z1
  exact (kk _ _ _ _ X1 rfl hQ).to st
theorem o_alen (X : Stand p l e R s m args below meth c T locs cells slots) (hx : p.tables.exec = Jvm.exec) (hZ : Z.Warmed39 s.vm) (eT : T.heap = h) {a : Addr} {kc : ClassId} {ty : FieldType} {z : Int32} {vs : List Value} {dv : Value} (A : Arv Z h a kc ty z vs dv) (hd : decode c.code pc = .ok (.arraylength, 1)) (hp : pc + 1 = pc') (kk : Goes p.tables e below P (T.setTop (mkF m pc' L (.int z :: S)))) : Goes p.tables e below P (T.setTop (mkF m pc L (.ref a :: S))) := by
  subst hp
  obtain ⟨cl, A1, q1, S1, N1, H1, G1⟩ := A
  rw [← len_of S1 N1] at kk
  exact kk.on fun _ k => X.arraylength hx (by rw [eT]; exact A1.1) (State.isArrayOf_alike hZ.alike A1.2.1) (g := mkF m pc L (.ref a :: S)) rfl rfl hd _ k
theorem o_iaload (X : Stand p l e R s m args below meth c T locs cells slots) (hx : p.tables.exec = Jvm.exec) (hZ : Z.Warmed39 s.vm) (eT : T.heap = h) {a : Addr} {kc : ClassId} {z : Int32} {vs : List Value} {dv v : Value} (A : Arv Z h a kc .int z vs dv) {j : Int32} (hj : ¬ j < 0 ∧ j < z) (hv : vs.getD j.toNatClampNeg dv = v) (hd : decode c.code pc = .ok (.iaload, 1)) (hp : pc + 1 = pc') (kk : Goes p.tables e below P (T.setTop (mkF m pc' L (v :: S)))) : Goes p.tables e below P (T.setTop (mkF m pc L (.int j :: .ref a :: S))) := by
  subst hp
  obtain ⟨cl, A1, q1, S1, N1, H1, G1⟩ := A
  have hin := inb_of S1 hj
  exact kk.on fun _ k => X.iaload hx (j := j) (v := v) (by rw [eT]; exact A1.1) (State.isArrayOf_alike hZ.alike A1.2.1) A1.2.2 hin (H1.at hin hv) (g := mkF m pc L (.int j :: .ref a :: S)) rfl rfl hd _ k
theorem o_laload (X : Stand p l e R s m args below meth c T locs cells slots) (hx : p.tables.exec = Jvm.exec) (hZ : Z.Warmed39 s.vm) (eT : T.heap = h) {a : Addr} {kc : ClassId} {z : Int32} {vs : List Value} {dv v : Value} (A : Arv Z h a kc .long z vs dv) {j : Int32} (hj : ¬ j < 0 ∧ j < z) (hv : vs.getD j.toNatClampNeg dv = v) (hd : decode c.code pc = .ok (.laload, 1)) (hp : pc + 1 = pc') (kk : Goes p.tables e below P (T.setTop (mkF m pc' L (v :: S)))) : Goes p.tables e below P (T.setTop (mkF m pc L (.int j :: .ref a :: S))) := by
  subst hp
  obtain ⟨cl, A1, q1, S1, N1, H1, G1⟩ := A
  have hin := inb_of S1 hj
  exact kk.on fun _ k => X.laload hx (j := j) (v := v) (by rw [eT]; exact A1.1) (State.isArrayOf_alike hZ.alike A1.2.1) A1.2.2 hin (H1.at hin hv) (g := mkF m pc L (.int j :: .ref a :: S)) rfl rfl hd _ k
theorem o_caload (X : Stand p l e R s m args below meth c T locs cells slots) (hx : p.tables.exec = Jvm.exec) (hZ : Z.Warmed39 s.vm) (eT : T.heap = h) {a : Addr} {kc : ClassId} {z : Int32} {vs : List Value} {dv v : Value} (A : Arv Z h a kc .char z vs dv) {j : Int32} (hj : ¬ j < 0 ∧ j < z) (hv : vs.getD j.toNatClampNeg dv = v) (hd : decode c.code pc = .ok (.caload, 1)) (hp : pc + 1 = pc') (kk : Goes p.tables e below P (T.setTop (mkF m pc' L (v :: S)))) : Goes p.tables e below P (T.setTop (mkF m pc L (.int j :: .ref a :: S))) := by
  subst hp
  obtain ⟨cl, A1, q1, S1, N1, H1, G1⟩ := A
  have hin := inb_of S1 hj
  exact kk.on fun _ k => X.caload hx (j := j) (v := v) (by rw [eT]; exact A1.1) (State.isArrayOf_alike hZ.alike A1.2.1) A1.2.2 hin (H1.at hin hv) (g := mkF m pc L (.int j :: .ref a :: S)) rfl rfl hd _ k
theorem o_baloadBytes (X : Stand p l e R s m args below meth c T locs cells slots) (hx : p.tables.exec = Jvm.exec) (hZ : Z.Warmed39 s.vm) (eT : T.heap = h) {a : Addr} {kc : ClassId} {z : Int32} {vs : List Value} {dv v : Value} (A : Arv Z h a kc .byte z vs dv) {j : Int32} (hj : ¬ j < 0 ∧ j < z) (hv : vs.getD j.toNatClampNeg dv = v) (hd : decode c.code pc = .ok (.baload, 1)) (hp : pc + 1 = pc') (kk : Goes p.tables e below P (T.setTop (mkF m pc' L (v :: S)))) : Goes p.tables e below P (T.setTop (mkF m pc L (.int j :: .ref a :: S))) := by
  subst hp
  obtain ⟨cl, A1, q1, S1, N1, H1, G1⟩ := A
  have hin := inb_of S1 hj
  exact kk.on fun _ k => X.baloadBytes hx (j := j) (v := v) (by rw [eT]; exact A1.1) (State.isArrayOf_alike hZ.alike A1.2.1) A1.2.2 hin (H1.at hin hv) (g := mkF m pc L (.int j :: .ref a :: S)) rfl rfl hd _ k
theorem o_daload (X : Stand p l e R s m args below meth c T locs cells slots) (hx : p.tables.exec = Jvm.exec) (hZ : Z.Warmed39 s.vm) (eT : T.heap = h) {a : Addr} {kc : ClassId} {z : Int32} {vs : List Value} {dv v : Value} (A : Arv Z h a kc .double z vs dv) {j : Int32} (hj : ¬ j < 0 ∧ j < z) (hv : vs.getD j.toNatClampNeg dv = v) (hd : decode c.code pc = .ok (.daload, 1)) (hp : pc + 1 = pc') (kk : Goes p.tables e below P (T.setTop (mkF m pc' L (v :: S)))) : Goes p.tables e below P (T.setTop (mkF m pc L (.int j :: .ref a :: S))) := by
  subst hp
  obtain ⟨cl, A1, q1, S1, N1, H1, G1⟩ := A
  have hin := inb_of S1 hj
  exact kk.on fun _ k => X.daload hx (j := j) (v := v) (by rw [eT]; exact A1.1) (State.isArrayOf_alike hZ.alike A1.2.1) A1.2.2 hin (H1.at hin hv) (g := mkF m pc L (.int j :: .ref a :: S)) rfl rfl hd _ k
end Own
theorem own_eq {tA tB zA zB x r : Int32} {s t u s2 t2 u2 wA wB : Int64} (bA : tA = 0 ∨ tA = 1) (bB : tB = 0 ∨ tB = 1)
    (hA : tA = 0 ∧ zA = 0 ∧ wA = 0 ∨ ¬ (tA = 0) ∧ zA = 1 ∧ wA = u) (hB : tB = 0 ∧ zB = 0 ∧ wB = 0 ∨ ¬ (tB = 0) ∧ zB = 1 ∧ wB = u2)
    (hx : x = 1 ∧ (s = s2 ∧ t = t2 ∧ tA = tB ∧ (tA = 0 ∨ u = u2)) ∨ x = 0 ∧ ¬ (s = s2 ∧ t = t2 ∧ tA = tB ∧ (tA = 0 ∨ u = u2)))
    (hr : r = 1 ∧ (s = s2 ∧ t = t2 ∧ zA = zB ∧ wA = wB) ∨ r = 0 ∧ ¬ (s = s2 ∧ t = t2 ∧ zA = zB ∧ wA = wB)) : r = x := by
  have e : (s = s2 ∧ t = t2 ∧ zA = zB ∧ wA = wB) ↔ (s = s2 ∧ t = t2 ∧ tA = tB ∧ (tA = 0 ∨ u = u2)) := by
    rcases bA with rfl | rfl <;> rcases bB with rfl | rfl <;> simp_all
  rw [e] at hr
  rcases hx with ⟨rfl, h1⟩ | ⟨rfl, h1⟩ <;> rcases hr with ⟨rfl, h2⟩ | ⟨rfl, h2⟩
  · rfl
  · exact absurd h1 h2
  · exact absurd h2 h1
  · rfl
theorem own_sym {r zA zB : Int32} {s t s2 t2 wA wB : Int64} (hr : r = 1 ∧ (s2 = s ∧ t2 = t ∧ zB = zA ∧ wB = wA) ∨ r = 0 ∧ ¬ (s2 = s ∧ t2 = t ∧ zB = zA ∧ wB = wA)) :
    r = 1 ∧ (s = s2 ∧ t = t2 ∧ zA = zB ∧ wA = wB) ∨ r = 0 ∧ ¬ (s = s2 ∧ t = t2 ∧ zA = zB ∧ wA = wB) := by
  rcases hr with ⟨h, a, b, c, d⟩ | ⟨h, n⟩
  · exact Or.inl ⟨h, a.symm, b.symm, c.symm, d.symm⟩
  · exact Or.inr ⟨h, fun ⟨a, b, c, d⟩ => n ⟨a.symm, b.symm, c.symm, d.symm⟩⟩
theorem own_sub {args : Array Value} {Z : State} {j : Int32} (nn : ¬ j < 0) : (Jvm.Term.sub (Jvm.Term.index 0) (Jvm.Term.int 128)).eval args Z none [j.toNatClampNeg] Z = some (.int (j - 128)) := by
  have e : (Jvm.Term.index 0).eval args Z none [j.toNatClampNeg] Z = some (.int j) := idx_at nn
  simp only [Term.eval] at e ⊢
  rw [e]; rfl
theorem own_len {args : Array Value} {Z : State} {t : Term} {a : Addr} {c : Cell} {ty : FieldType} (e : t.eval args Z none [] Z = some (.ref a)) (A : Arr Z Z.heap a c ty) (h : (Jvm.Cond.eq (Jvm.Term.length t) (Jvm.Term.int (256 : Int32))).value args Z none Z [] = some true) : c.slots.size = 256 := by
  have q := A.fin (Vm.Alike.refl _)
  by_cases hl : c.slots.size < 2 ^ 31
  · have e1 := len_f e q hl
    have e2 := gotT (Cond.eq_ints e1 (Term.int_eval (256))) h
    have e3 := len_toInt hl
    rw [e2] at e3
    have : (256 : Int32).toInt = 256 := rfl
    omega
  · simp [Cond.value, Term.eval, e, q, hl] at h
theorem wd0 {Z : State} {a0 : Array Value} (hw : ∀ d ∈ tables_1, d.before a0 Z = true) : (Jvm.Cond.methodLink "com/example/rillgraph/rillgraph/core/input/SnapEdgeEqualsPinLaw" (15 : Nat) ({ cls := "com/example/rillgraph/rillgraph/core/input/SnapEdgeEqualsPinLaw", name := "make", desc := "(JJZJ)Lcom/example/rillgraph/rillgraph/core/input/SnapEdge;" } : Jvm.MethodName)).before a0 Z = true := hw _ (List.mem_of_getElem? (i := 0) rfl)
theorem wd1 {Z : State} {a0 : Array Value} (hw : ∀ d ∈ tables_1, d.before a0 Z = true) : (Jvm.Cond.static ({ cls := "com/example/rillgraph/rillgraph/core/input/SnapEdgeEqualsPinLaw", name := "make", desc := "(JJZJ)Lcom/example/rillgraph/rillgraph/core/input/SnapEdge;" } : Jvm.MethodName)).before a0 Z = true := hw _ (List.mem_of_getElem? (i := 1) rfl)
theorem wd2 {Z : State} {a0 : Array Value} (hw : ∀ d ∈ tables_1, d.before a0 Z = true) : (Jvm.Cond.initialized "com/example/rillgraph/rillgraph/core/input/SnapEdgeEqualsPinLaw").before a0 Z = true := hw _ (List.mem_of_getElem? (i := 2) rfl)
theorem wd3 {Z : State} {a0 : Array Value} (hw : ∀ d ∈ tables_1, d.before a0 Z = true) : (Jvm.Cond.code ({ cls := "com/example/rillgraph/rillgraph/core/input/SnapEdgeEqualsPinLaw", name := "make", desc := "(JJZJ)Lcom/example/rillgraph/rillgraph/core/input/SnapEdge;" } : Jvm.MethodName) method_2_code (7 : Nat) (Option.some (Jvm.ClassFile.FieldType.object "com/example/rillgraph/rillgraph/core/input/SnapEdge"))).before a0 Z = true := hw _ (List.mem_of_getElem? (i := 3) rfl)
theorem wd4 {Z : State} {a0 : Array Value} (hw : ∀ d ∈ tables_1, d.before a0 Z = true) : (Jvm.Cond.classLink "com/example/rillgraph/rillgraph/core/input/SnapEdgeEqualsPinLaw" (7 : Nat) "com/example/rillgraph/rillgraph/core/input/SnapEdge").before a0 Z = true := hw _ (List.mem_of_getElem? (i := 4) rfl)
theorem wd5 {Z : State} {a0 : Array Value} (hw : ∀ d ∈ tables_1, d.before a0 Z = true) : (Jvm.Cond.instantiable "com/example/rillgraph/rillgraph/core/input/SnapEdge" (4 : Nat)).before a0 Z = true := hw _ (List.mem_of_getElem? (i := 5) rfl)
theorem wd6 {Z : State} {a0 : Array Value} (hw : ∀ d ∈ tables_1, d.before a0 Z = true) : (Jvm.Cond.initialized "com/example/rillgraph/rillgraph/core/input/SnapEdge").before a0 Z = true := hw _ (List.mem_of_getElem? (i := 6) rfl)
theorem wd7 {Z : State} {a0 : Array Value} (hw : ∀ d ∈ tables_1, d.before a0 Z = true) : (Jvm.Cond.methodLink "com/example/rillgraph/rillgraph/core/input/SnapEdgeEqualsPinLaw" (12 : Nat) ({ cls := "com/example/rillgraph/rillgraph/core/input/SnapEdge", name := "<init>", desc := "(JJ)V" } : Jvm.MethodName)).before a0 Z = true := hw _ (List.mem_of_getElem? (i := 7) rfl)
theorem wd8 {Z : State} {a0 : Array Value} (hw : ∀ d ∈ tables_1, d.before a0 Z = true) : (Jvm.Cond.instanceMethod ({ cls := "com/example/rillgraph/rillgraph/core/input/SnapEdge", name := "<init>", desc := "(JJ)V" } : Jvm.MethodName)).before a0 Z = true := hw _ (List.mem_of_getElem? (i := 8) rfl)
theorem wd9 {Z : State} {a0 : Array Value} (hw : ∀ d ∈ tables_1, d.before a0 Z = true) : (Jvm.Cond.code ({ cls := "com/example/rillgraph/rillgraph/core/input/SnapEdge", name := "<init>", desc := "(JJ)V" } : Jvm.MethodName) prog_58_method_1_code (5 : Nat) (Option.none : Option Jvm.ClassFile.FieldType)).before a0 Z = true := hw _ (List.mem_of_getElem? (i := 9) rfl)
theorem wd10 {Z : State} {a0 : Array Value} (hw : ∀ d ∈ tables_1, d.before a0 Z = true) : (Jvm.Cond.methodLink "com/example/rillgraph/rillgraph/core/input/SnapEdge" (1 : Nat) ({ cls := "com/example/rillgraph/rillgraph/core/input/SnapEdge", name := "<init>", desc := "(JJZJ)V" } : Jvm.MethodName)).before a0 Z = true := hw _ (List.mem_of_getElem? (i := 10) rfl)
theorem wd11 {Z : State} {a0 : Array Value} (hw : ∀ d ∈ tables_1, d.before a0 Z = true) : (Jvm.Cond.instanceMethod ({ cls := "com/example/rillgraph/rillgraph/core/input/SnapEdge", name := "<init>", desc := "(JJZJ)V" } : Jvm.MethodName)).before a0 Z = true := hw _ (List.mem_of_getElem? (i := 11) rfl)
theorem wd12 {Z : State} {a0 : Array Value} (hw : ∀ d ∈ tables_1, d.before a0 Z = true) : (Jvm.Cond.code ({ cls := "com/example/rillgraph/rillgraph/core/input/SnapEdge", name := "<init>", desc := "(JJZJ)V" } : Jvm.MethodName) prog_58_method_3_code (8 : Nat) (Option.none : Option Jvm.ClassFile.FieldType)).before a0 Z = true := hw _ (List.mem_of_getElem? (i := 12) rfl)
theorem wd13 {Z : State} {a0 : Array Value} (hw : ∀ d ∈ tables_1, d.before a0 Z = true) : (Jvm.Cond.methodLink "com/example/rillgraph/rillgraph/core/input/SnapEdge" (7 : Nat) ({ cls := "java/lang/Object", name := "<init>", desc := "()V" } : Jvm.MethodName)).before a0 Z = true := hw _ (List.mem_of_getElem? (i := 13) rfl)
theorem wd14 {Z : State} {a0 : Array Value} (hw : ∀ d ∈ tables_1, d.before a0 Z = true) : (Jvm.Cond.instanceMethod ({ cls := "java/lang/Object", name := "<init>", desc := "()V" } : Jvm.MethodName)).before a0 Z = true := hw _ (List.mem_of_getElem? (i := 14) rfl)
theorem wd15 {Z : State} {a0 : Array Value} (hw : ∀ d ∈ tables_1, d.before a0 Z = true) : (Jvm.Cond.code ({ cls := "java/lang/Object", name := "<init>", desc := "()V" } : Jvm.MethodName) object_method_1_code (1 : Nat) (Option.none : Option Jvm.ClassFile.FieldType)).before a0 Z = true := hw _ (List.mem_of_getElem? (i := 15) rfl)
theorem wd16 {Z : State} {a0 : Array Value} (hw : ∀ d ∈ tables_1, d.before a0 Z = true) : (Jvm.Cond.fieldLink "com/example/rillgraph/rillgraph/core/input/SnapEdge" (12 : Nat) "com/example/rillgraph/rillgraph/core/input/SnapEdge" "source" "J").before a0 Z = true := hw _ (List.mem_of_getElem? (i := 16) rfl)
theorem wd17 {Z : State} {a0 : Array Value} (hw : ∀ d ∈ tables_1, d.before a0 Z = true) : (Jvm.Cond.laysFinal "com/example/rillgraph/rillgraph/core/input/SnapEdge" "com/example/rillgraph/rillgraph/core/input/SnapEdge" "source" "J").before a0 Z = true := hw _ (List.mem_of_getElem? (i := 17) rfl)
theorem wd18 {Z : State} {a0 : Array Value} (hw : ∀ d ∈ tables_1, d.before a0 Z = true) : (Jvm.Cond.fieldLink "com/example/rillgraph/rillgraph/core/input/SnapEdge" (16 : Nat) "com/example/rillgraph/rillgraph/core/input/SnapEdge" "target" "J").before a0 Z = true := hw _ (List.mem_of_getElem? (i := 18) rfl)
theorem wd19 {Z : State} {a0 : Array Value} (hw : ∀ d ∈ tables_1, d.before a0 Z = true) : (Jvm.Cond.laysFinal "com/example/rillgraph/rillgraph/core/input/SnapEdge" "com/example/rillgraph/rillgraph/core/input/SnapEdge" "target" "J").before a0 Z = true := hw _ (List.mem_of_getElem? (i := 19) rfl)
theorem wd20 {Z : State} {a0 : Array Value} (hw : ∀ d ∈ tables_1, d.before a0 Z = true) : (Jvm.Cond.fieldLink "com/example/rillgraph/rillgraph/core/input/SnapEdge" (19 : Nat) "com/example/rillgraph/rillgraph/core/input/SnapEdge" "timed" "Z").before a0 Z = true := hw _ (List.mem_of_getElem? (i := 20) rfl)
theorem wd21 {Z : State} {a0 : Array Value} (hw : ∀ d ∈ tables_1, d.before a0 Z = true) : (Jvm.Cond.laysFinal "com/example/rillgraph/rillgraph/core/input/SnapEdge" "com/example/rillgraph/rillgraph/core/input/SnapEdge" "timed" "Z").before a0 Z = true := hw _ (List.mem_of_getElem? (i := 21) rfl)
theorem wd22 {Z : State} {a0 : Array Value} (hw : ∀ d ∈ tables_1, d.before a0 Z = true) : (Jvm.Cond.fieldLink "com/example/rillgraph/rillgraph/core/input/SnapEdge" (23 : Nat) "com/example/rillgraph/rillgraph/core/input/SnapEdge" "timestamp" "J").before a0 Z = true := hw _ (List.mem_of_getElem? (i := 22) rfl)
theorem wd23 {Z : State} {a0 : Array Value} (hw : ∀ d ∈ tables_1, d.before a0 Z = true) : (Jvm.Cond.laysFinal "com/example/rillgraph/rillgraph/core/input/SnapEdge" "com/example/rillgraph/rillgraph/core/input/SnapEdge" "timestamp" "J").before a0 Z = true := hw _ (List.mem_of_getElem? (i := 23) rfl)
theorem wd24 {Z : State} {a0 : Array Value} (hw : ∀ d ∈ tables_1, d.before a0 Z = true) : (Jvm.Cond.methodLink "com/example/rillgraph/rillgraph/core/input/SnapEdgeEqualsPinLaw" (21 : Nat) ({ cls := "com/example/rillgraph/rillgraph/core/input/SnapEdge", name := "equals", desc := "(Ljava/lang/Object;)Z" } : Jvm.MethodName)).before a0 Z = true := hw _ (List.mem_of_getElem? (i := 24) rfl)
theorem wd25 {Z : State} {a0 : Array Value} (hw : ∀ d ∈ tables_1, d.before a0 Z = true) : (Jvm.Cond.declares ({ cls := "com/example/rillgraph/rillgraph/core/input/SnapEdge", name := "equals", desc := "(Ljava/lang/Object;)Z" } : Jvm.MethodName)).before a0 Z = true := hw _ (List.mem_of_getElem? (i := 25) rfl)
theorem wd26 {Z : State} {a0 : Array Value} (hw : ∀ d ∈ tables_1, d.before a0 Z = true) : (Jvm.Cond.instanceMethod ({ cls := "com/example/rillgraph/rillgraph/core/input/SnapEdge", name := "equals", desc := "(Ljava/lang/Object;)Z" } : Jvm.MethodName)).before a0 Z = true := hw _ (List.mem_of_getElem? (i := 26) rfl)
theorem wd27 {Z : State} {a0 : Array Value} (hw : ∀ d ∈ tables_1, d.before a0 Z = true) : (Jvm.Cond.selects "com/example/rillgraph/rillgraph/core/input/SnapEdge" ({ cls := "com/example/rillgraph/rillgraph/core/input/SnapEdge", name := "equals", desc := "(Ljava/lang/Object;)Z" } : Jvm.MethodName) ({ cls := "com/example/rillgraph/rillgraph/core/input/SnapEdge", name := "equals", desc := "(Ljava/lang/Object;)Z" } : Jvm.MethodName)).before a0 Z = true := hw _ (List.mem_of_getElem? (i := 27) rfl)
theorem wd28 {Z : State} {a0 : Array Value} (hw : ∀ d ∈ tables_1, d.before a0 Z = true) : (Jvm.Cond.code ({ cls := "com/example/rillgraph/rillgraph/core/input/SnapEdge", name := "equals", desc := "(Ljava/lang/Object;)Z" } : Jvm.MethodName) prog_58_method_9_code (3 : Nat) (Option.some Jvm.ClassFile.FieldType.boolean)).before a0 Z = true := hw _ (List.mem_of_getElem? (i := 28) rfl)
theorem wd29 {Z : State} {a0 : Array Value} (hw : ∀ d ∈ tables_1, d.before a0 Z = true) : (Jvm.Cond.classLink "com/example/rillgraph/rillgraph/core/input/SnapEdge" (2 : Nat) "com/example/rillgraph/rillgraph/core/input/SnapEdge").before a0 Z = true := hw _ (List.mem_of_getElem? (i := 29) rfl)
theorem wd31 {Z : State} {a0 : Array Value} (hw : ∀ d ∈ tables_1, d.before a0 Z = true) : (Jvm.Cond.methodLink "com/example/rillgraph/rillgraph/core/input/SnapEdgeEqualsPinLaw" (9 : Nat) ({ cls := "com/example/rillgraph/rillgraph/core/input/SnapEdge", name := "<init>", desc := "(JJJ)V" } : Jvm.MethodName)).before a0 Z = true := hw _ (List.mem_of_getElem? (i := 31) rfl)
theorem wd32 {Z : State} {a0 : Array Value} (hw : ∀ d ∈ tables_1, d.before a0 Z = true) : (Jvm.Cond.instanceMethod ({ cls := "com/example/rillgraph/rillgraph/core/input/SnapEdge", name := "<init>", desc := "(JJJ)V" } : Jvm.MethodName)).before a0 Z = true := hw _ (List.mem_of_getElem? (i := 32) rfl)
theorem wd33 {Z : State} {a0 : Array Value} (hw : ∀ d ∈ tables_1, d.before a0 Z = true) : (Jvm.Cond.code ({ cls := "com/example/rillgraph/rillgraph/core/input/SnapEdge", name := "<init>", desc := "(JJJ)V" } : Jvm.MethodName) prog_58_method_2_code (7 : Nat) (Option.none : Option Jvm.ClassFile.FieldType)).before a0 Z = true := hw _ (List.mem_of_getElem? (i := 33) rfl)
theorem wd34 {Z : State} {a0 : Array Value} (hw : ∀ d ∈ tables_1, d.before a0 Z = true) : (Jvm.Cond.methodLink "com/example/rillgraph/rillgraph/core/input/SnapEdgeEqualsPinLaw" (25 : Nat) ({ cls := "java/lang/Long", name := "valueOf", desc := "(J)Ljava/lang/Long;" } : Jvm.MethodName)).before a0 Z = true := hw _ (List.mem_of_getElem? (i := 34) rfl)
theorem wd35 {Z : State} {a0 : Array Value} (hw : ∀ d ∈ tables_1, d.before a0 Z = true) : (Jvm.Cond.static ({ cls := "java/lang/Long", name := "valueOf", desc := "(J)Ljava/lang/Long;" } : Jvm.MethodName)).before a0 Z = true := hw _ (List.mem_of_getElem? (i := 35) rfl)
theorem wd36 {Z : State} {a0 : Array Value} (hw : ∀ d ∈ tables_1, d.before a0 Z = true) : (Jvm.Cond.initialized "java/lang/Long").before a0 Z = true := hw _ (List.mem_of_getElem? (i := 36) rfl)
theorem wd37 {Z : State} {a0 : Array Value} (hw : ∀ d ∈ tables_1, d.before a0 Z = true) : (Jvm.Cond.code ({ cls := "java/lang/Long", name := "valueOf", desc := "(J)Ljava/lang/Long;" } : Jvm.MethodName) jdk_35_method_24_code (3 : Nat) (Option.some (Jvm.ClassFile.FieldType.object "java/lang/Long"))).before a0 Z = true := hw _ (List.mem_of_getElem? (i := 37) rfl)
theorem wd38 {Z : State} {a0 : Array Value} (hw : ∀ d ∈ tables_1, d.before a0 Z = true) : (Jvm.Cond.constantLong "java/lang/Long" (230 : Nat) (-128 : Int64)).before a0 Z = true := hw _ (List.mem_of_getElem? (i := 38) rfl)
theorem wd39 {Z : State} {a0 : Array Value} (hw : ∀ d ∈ tables_1, d.before a0 Z = true) : (Jvm.Cond.constantLong "java/lang/Long" (232 : Nat) (127 : Int64)).before a0 Z = true := hw _ (List.mem_of_getElem? (i := 39) rfl)
theorem wd40 {Z : State} {a0 : Array Value} (hw : ∀ d ∈ tables_1, d.before a0 Z = true) : (Jvm.Cond.classLink "java/lang/Long" (1 : Nat) "java/lang/Long").before a0 Z = true := hw _ (List.mem_of_getElem? (i := 40) rfl)
theorem wd41 {Z : State} {a0 : Array Value} (hw : ∀ d ∈ tables_1, d.before a0 Z = true) : (Jvm.Cond.instantiable "java/lang/Long" (1 : Nat)).before a0 Z = true := hw _ (List.mem_of_getElem? (i := 41) rfl)
theorem wd42 {Z : State} {a0 : Array Value} (hw : ∀ d ∈ tables_1, d.before a0 Z = true) : (Jvm.Cond.methodLink "java/lang/Long" (240 : Nat) ({ cls := "java/lang/Long", name := "<init>", desc := "(J)V" } : Jvm.MethodName)).before a0 Z = true := hw _ (List.mem_of_getElem? (i := 42) rfl)
theorem wd43 {Z : State} {a0 : Array Value} (hw : ∀ d ∈ tables_1, d.before a0 Z = true) : (Jvm.Cond.instanceMethod ({ cls := "java/lang/Long", name := "<init>", desc := "(J)V" } : Jvm.MethodName)).before a0 Z = true := hw _ (List.mem_of_getElem? (i := 43) rfl)
theorem wd45 {Z : State} {a0 : Array Value} (hw : ∀ d ∈ tables_1, d.before a0 Z = true) : (Jvm.Cond.code ({ cls := "java/lang/Long", name := "<init>", desc := "(J)V" } : Jvm.MethodName) jdk_35_method_26_code (3 : Nat) (Option.none : Option Jvm.ClassFile.FieldType)).before a0 Z = true := hw _ (List.mem_of_getElem? (i := 45) rfl)
theorem wd46 {Z : State} {a0 : Array Value} (hw : ∀ d ∈ tables_1, d.before a0 Z = true) : (Jvm.Cond.methodLink "java/lang/Long" (270 : Nat) ({ cls := "java/lang/Number", name := "<init>", desc := "()V" } : Jvm.MethodName)).before a0 Z = true := hw _ (List.mem_of_getElem? (i := 46) rfl)
theorem wd47 {Z : State} {a0 : Array Value} (hw : ∀ d ∈ tables_1, d.before a0 Z = true) : (Jvm.Cond.instanceMethod ({ cls := "java/lang/Number", name := "<init>", desc := "()V" } : Jvm.MethodName)).before a0 Z = true := hw _ (List.mem_of_getElem? (i := 47) rfl)
theorem wd50 {Z : State} {a0 : Array Value} (hw : ∀ d ∈ tables_1, d.before a0 Z = true) : (Jvm.Cond.initialized "java/lang/Number").before a0 Z = true := hw _ (List.mem_of_getElem? (i := 50) rfl)
theorem wd51 {Z : State} {a0 : Array Value} (hw : ∀ d ∈ tables_1, d.before a0 Z = true) : (Jvm.Cond.code ({ cls := "java/lang/Number", name := "<init>", desc := "()V" } : Jvm.MethodName) jdk_18_method_1_code (1 : Nat) (Option.none : Option Jvm.ClassFile.FieldType)).before a0 Z = true := hw _ (List.mem_of_getElem? (i := 51) rfl)
theorem wd52 {Z : State} {a0 : Array Value} (hw : ∀ d ∈ tables_1, d.before a0 Z = true) : (Jvm.Cond.methodLink "java/lang/Number" (1 : Nat) ({ cls := "java/lang/Object", name := "<init>", desc := "()V" } : Jvm.MethodName)).before a0 Z = true := hw _ (List.mem_of_getElem? (i := 52) rfl)
theorem wd53 {Z : State} {a0 : Array Value} (hw : ∀ d ∈ tables_1, d.before a0 Z = true) : (Jvm.Cond.fieldLink "java/lang/Long" (273 : Nat) "java/lang/Long" "value" "J").before a0 Z = true := hw _ (List.mem_of_getElem? (i := 53) rfl)
theorem wd54 {Z : State} {a0 : Array Value} (hw : ∀ d ∈ tables_1, d.before a0 Z = true) : (Jvm.Cond.laysFinal "java/lang/Long" "java/lang/Long" "value" "J").before a0 Z = true := hw _ (List.mem_of_getElem? (i := 54) rfl)
theorem wd55 {Z : State} {a0 : Array Value} (hw : ∀ d ∈ tables_1, d.before a0 Z = true) : (Jvm.Cond.superclass "java/lang/Long" "java/lang/Number").before a0 Z = true := hw _ (List.mem_of_getElem? (i := 55) rfl)
theorem wd56 {Z : State} {a0 : Array Value} (hw : ∀ d ∈ tables_1, d.before a0 Z = true) : (Jvm.Cond.superclass "java/lang/Number" "java/lang/Object").before a0 Z = true := hw _ (List.mem_of_getElem? (i := 56) rfl)
theorem wd57 {Z : State} {a0 : Array Value} (hw : ∀ d ∈ tables_1, d.before a0 Z = true) : (Jvm.Cond.noSuperclass "java/lang/Object").before a0 Z = true := hw _ (List.mem_of_getElem? (i := 57) rfl)
theorem wd58 {Z : State} {a0 : Array Value} (hw : ∀ d ∈ tables_1, d.before a0 Z = true) : (Jvm.Cond.fieldLink "java/lang/Long" (234 : Nat) "java/lang/Long$LongCache" "cache" "[Ljava/lang/Long;").before a0 Z = true := hw _ (List.mem_of_getElem? (i := 58) rfl)
theorem d1_0 : decode method_2_code 0 = .ok (.iload 4, 2) := by decide +kernel
theorem d1_2 : decode method_2_code 2 = .ok (.ifCond .eq 15, 3) := by decide +kernel
theorem d1_5 : decode method_2_code 5 = .ok (.new 7, 3) := by decide +kernel
theorem d1_8 : decode method_2_code 8 = .ok (.dup, 1) := by decide +kernel
theorem d1_9 : decode method_2_code 9 = .ok (.lload_n 0, 1) := by decide +kernel
theorem d1_10 : decode method_2_code 10 = .ok (.lload_n 2, 1) := by decide +kernel
theorem d1_11 : decode method_2_code 11 = .ok (.lload 5, 2) := by decide +kernel
theorem d1_13 : decode method_2_code 13 = .ok (.invokespecial 9, 3) := by decide +kernel
theorem d1_16 : decode method_2_code 16 = .ok (.areturn, 1) := by decide +kernel
theorem d1_17 : decode method_2_code 17 = .ok (.new 7, 3) := by decide +kernel
theorem d1_20 : decode method_2_code 20 = .ok (.dup, 1) := by decide +kernel
theorem d1_21 : decode method_2_code 21 = .ok (.lload_n 0, 1) := by decide +kernel
theorem d1_22 : decode method_2_code 22 = .ok (.lload_n 2, 1) := by decide +kernel
theorem d1_23 : decode method_2_code 23 = .ok (.invokespecial 12, 3) := by decide +kernel
theorem d1_26 : decode method_2_code 26 = .ok (.areturn, 1) := by decide +kernel
theorem d2_0 : decode prog_58_method_1_code 0 = .ok (.aload_n 0, 1) := by decide +kernel
theorem d2_1 : decode prog_58_method_1_code 1 = .ok (.lload_n 1, 1) := by decide +kernel
theorem d2_2 : decode prog_58_method_1_code 2 = .ok (.lload_n 3, 1) := by decide +kernel
theorem d2_3 : decode prog_58_method_1_code 3 = .ok (.iconst 0, 1) := by decide +kernel
theorem d2_4 : decode prog_58_method_1_code 4 = .ok (.lconst 0, 1) := by decide +kernel
theorem d2_5 : decode prog_58_method_1_code 5 = .ok (.invokespecial 1, 3) := by decide +kernel
theorem d2_8 : decode prog_58_method_1_code 8 = .ok (.return_, 1) := by decide +kernel
theorem d3_0 : decode prog_58_method_3_code 0 = .ok (.aload_n 0, 1) := by decide +kernel
theorem d3_1 : decode prog_58_method_3_code 1 = .ok (.invokespecial 7, 3) := by decide +kernel
theorem d3_4 : decode prog_58_method_3_code 4 = .ok (.aload_n 0, 1) := by decide +kernel
theorem d3_5 : decode prog_58_method_3_code 5 = .ok (.lload_n 1, 1) := by decide +kernel
theorem d3_6 : decode prog_58_method_3_code 6 = .ok (.putfield 12, 3) := by decide +kernel
theorem d3_9 : decode prog_58_method_3_code 9 = .ok (.aload_n 0, 1) := by decide +kernel
theorem d3_10 : decode prog_58_method_3_code 10 = .ok (.lload_n 3, 1) := by decide +kernel
theorem d3_11 : decode prog_58_method_3_code 11 = .ok (.putfield 16, 3) := by decide +kernel
theorem d3_14 : decode prog_58_method_3_code 14 = .ok (.aload_n 0, 1) := by decide +kernel
theorem d3_15 : decode prog_58_method_3_code 15 = .ok (.iload 5, 2) := by decide +kernel
theorem d3_17 : decode prog_58_method_3_code 17 = .ok (.putfield 19, 3) := by decide +kernel
theorem d3_20 : decode prog_58_method_3_code 20 = .ok (.aload_n 0, 1) := by decide +kernel
theorem d3_21 : decode prog_58_method_3_code 21 = .ok (.lload 6, 2) := by decide +kernel
theorem d3_23 : decode prog_58_method_3_code 23 = .ok (.putfield 23, 3) := by decide +kernel
theorem d3_26 : decode prog_58_method_3_code 26 = .ok (.return_, 1) := by decide +kernel
theorem d5_0 : decode prog_58_method_9_code 0 = .ok (.aload_n 0, 1) := by decide +kernel
theorem d5_1 : decode prog_58_method_9_code 1 = .ok (.aload_n 1, 1) := by decide +kernel
theorem d5_2 : decode prog_58_method_9_code 2 = .ok (.if_acmp .ne 5, 3) := by decide +kernel
theorem d5_5 : decode prog_58_method_9_code 5 = .ok (.iconst 1, 1) := by decide +kernel
theorem d5_6 : decode prog_58_method_9_code 6 = .ok (.ireturn, 1) := by decide +kernel
theorem d5_7 : decode prog_58_method_9_code 7 = .ok (.aload_n 1, 1) := by decide +kernel
theorem d5_8 : decode prog_58_method_9_code 8 = .ok (.instanceof 2, 3) := by decide +kernel
theorem d5_11 : decode prog_58_method_9_code 11 = .ok (.ifCond .ne 5, 3) := by decide +kernel
theorem d5_14 : decode prog_58_method_9_code 14 = .ok (.iconst 0, 1) := by decide +kernel
theorem d5_15 : decode prog_58_method_9_code 15 = .ok (.ireturn, 1) := by decide +kernel
theorem d5_16 : decode prog_58_method_9_code 16 = .ok (.aload_n 1, 1) := by decide +kernel
theorem d5_17 : decode prog_58_method_9_code 17 = .ok (.checkcast 2, 3) := by decide +kernel
theorem d5_20 : decode prog_58_method_9_code 20 = .ok (.astore_n 2, 1) := by decide +kernel
theorem d5_21 : decode prog_58_method_9_code 21 = .ok (.aload_n 0, 1) := by decide +kernel
theorem d5_22 : decode prog_58_method_9_code 22 = .ok (.getfield 12, 3) := by decide +kernel
theorem d5_25 : decode prog_58_method_9_code 25 = .ok (.aload_n 2, 1) := by decide +kernel
theorem d5_26 : decode prog_58_method_9_code 26 = .ok (.getfield 12, 3) := by decide +kernel
theorem d5_29 : decode prog_58_method_9_code 29 = .ok (.lcmp, 1) := by decide +kernel
theorem d5_30 : decode prog_58_method_9_code 30 = .ok (.ifCond .ne 42, 3) := by decide +kernel
theorem d5_33 : decode prog_58_method_9_code 33 = .ok (.aload_n 0, 1) := by decide +kernel
theorem d5_34 : decode prog_58_method_9_code 34 = .ok (.getfield 16, 3) := by decide +kernel
theorem d5_37 : decode prog_58_method_9_code 37 = .ok (.aload_n 2, 1) := by decide +kernel
theorem d5_38 : decode prog_58_method_9_code 38 = .ok (.getfield 16, 3) := by decide +kernel
theorem d5_41 : decode prog_58_method_9_code 41 = .ok (.lcmp, 1) := by decide +kernel
theorem d5_42 : decode prog_58_method_9_code 42 = .ok (.ifCond .ne 30, 3) := by decide +kernel
theorem d5_45 : decode prog_58_method_9_code 45 = .ok (.aload_n 0, 1) := by decide +kernel
theorem d5_46 : decode prog_58_method_9_code 46 = .ok (.getfield 19, 3) := by decide +kernel
theorem d5_49 : decode prog_58_method_9_code 49 = .ok (.aload_n 2, 1) := by decide +kernel
theorem d5_50 : decode prog_58_method_9_code 50 = .ok (.getfield 19, 3) := by decide +kernel
theorem d5_53 : decode prog_58_method_9_code 53 = .ok (.if_icmp .ne 19, 3) := by decide +kernel
theorem d5_56 : decode prog_58_method_9_code 56 = .ok (.aload_n 0, 1) := by decide +kernel
theorem d5_57 : decode prog_58_method_9_code 57 = .ok (.getfield 23, 3) := by decide +kernel
theorem d5_60 : decode prog_58_method_9_code 60 = .ok (.aload_n 2, 1) := by decide +kernel
theorem d5_61 : decode prog_58_method_9_code 61 = .ok (.getfield 23, 3) := by decide +kernel
theorem d5_64 : decode prog_58_method_9_code 64 = .ok (.lcmp, 1) := by decide +kernel
theorem d5_65 : decode prog_58_method_9_code 65 = .ok (.ifCond .ne 7, 3) := by decide +kernel
theorem d5_68 : decode prog_58_method_9_code 68 = .ok (.iconst 1, 1) := by decide +kernel
theorem d5_69 : decode prog_58_method_9_code 69 = .ok (.goto 4, 3) := by decide +kernel
theorem d5_72 : decode prog_58_method_9_code 72 = .ok (.iconst 0, 1) := by decide +kernel
theorem d5_73 : decode prog_58_method_9_code 73 = .ok (.ireturn, 1) := by decide +kernel
theorem d6_0 : decode prog_58_method_2_code 0 = .ok (.aload_n 0, 1) := by decide +kernel
theorem d6_1 : decode prog_58_method_2_code 1 = .ok (.lload_n 1, 1) := by decide +kernel
theorem d6_2 : decode prog_58_method_2_code 2 = .ok (.lload_n 3, 1) := by decide +kernel
theorem d6_3 : decode prog_58_method_2_code 3 = .ok (.iconst 1, 1) := by decide +kernel
theorem d6_4 : decode prog_58_method_2_code 4 = .ok (.lload 5, 2) := by decide +kernel
theorem d6_6 : decode prog_58_method_2_code 6 = .ok (.invokespecial 1, 3) := by decide +kernel
theorem d6_9 : decode prog_58_method_2_code 9 = .ok (.return_, 1) := by decide +kernel
theorem d7_0 : decode jdk_35_method_24_code 0 = .ok (.sipush 128, 3) := by decide +kernel
theorem d7_3 : decode jdk_35_method_24_code 3 = .ok (.istore_n 2, 1) := by decide +kernel
theorem d7_4 : decode jdk_35_method_24_code 4 = .ok (.lload_n 0, 1) := by decide +kernel
theorem d7_5 : decode jdk_35_method_24_code 5 = .ok (.ldc2_w 230, 3) := by decide +kernel
theorem d7_8 : decode jdk_35_method_24_code 8 = .ok (.lcmp, 1) := by decide +kernel
theorem d7_9 : decode jdk_35_method_24_code 9 = .ok (.ifCond .lt 22, 3) := by decide +kernel
theorem d7_12 : decode jdk_35_method_24_code 12 = .ok (.lload_n 0, 1) := by decide +kernel
theorem d7_13 : decode jdk_35_method_24_code 13 = .ok (.ldc2_w 232, 3) := by decide +kernel
theorem d7_16 : decode jdk_35_method_24_code 16 = .ok (.lcmp, 1) := by decide +kernel
theorem d7_17 : decode jdk_35_method_24_code 17 = .ok (.ifCond .gt 14, 3) := by decide +kernel
theorem d7_20 : decode jdk_35_method_24_code 20 = .ok (.getstatic 234, 3) := by decide +kernel
theorem d7_23 : decode jdk_35_method_24_code 23 = .ok (.lload_n 0, 1) := by decide +kernel
theorem d7_24 : decode jdk_35_method_24_code 24 = .ok (.l2i, 1) := by decide +kernel
theorem d7_25 : decode jdk_35_method_24_code 25 = .ok (.sipush 128, 3) := by decide +kernel
theorem d7_28 : decode jdk_35_method_24_code 28 = .ok (.iadd, 1) := by decide +kernel
theorem d7_29 : decode jdk_35_method_24_code 29 = .ok (.aaload, 1) := by decide +kernel
theorem d7_30 : decode jdk_35_method_24_code 30 = .ok (.areturn, 1) := by decide +kernel
theorem d7_31 : decode jdk_35_method_24_code 31 = .ok (.new 1, 3) := by decide +kernel
theorem d7_34 : decode jdk_35_method_24_code 34 = .ok (.dup, 1) := by decide +kernel
theorem d7_35 : decode jdk_35_method_24_code 35 = .ok (.lload_n 0, 1) := by decide +kernel
theorem d7_36 : decode jdk_35_method_24_code 36 = .ok (.invokespecial 240, 3) := by decide +kernel
theorem d7_39 : decode jdk_35_method_24_code 39 = .ok (.areturn, 1) := by decide +kernel
theorem d8_0 : decode jdk_35_method_26_code 0 = .ok (.aload_n 0, 1) := by decide +kernel
theorem d8_1 : decode jdk_35_method_26_code 1 = .ok (.invokespecial 270, 3) := by decide +kernel
theorem d8_4 : decode jdk_35_method_26_code 4 = .ok (.aload_n 0, 1) := by decide +kernel
theorem d8_5 : decode jdk_35_method_26_code 5 = .ok (.lload_n 1, 1) := by decide +kernel
theorem d8_6 : decode jdk_35_method_26_code 6 = .ok (.putfield 273, 3) := by decide +kernel
theorem d8_9 : decode jdk_35_method_26_code 9 = .ok (.return_, 1) := by decide +kernel
theorem d9_0 : decode jdk_18_method_1_code 0 = .ok (.aload_n 0, 1) := by decide +kernel
theorem d9_1 : decode jdk_18_method_1_code 1 = .ok (.invokespecial 1, 3) := by decide +kernel
theorem d9_4 : decode jdk_18_method_1_code 4 = .ok (.return_, 1) := by decide +kernel
theorem pd0 : parseMethodDescriptor "(JJZJ)V" = some ⟨[.long, .long, .boolean, .long], none⟩ := by decide +kernel
theorem pd1 : parseMethodDescriptor "(JJ)V" = some ⟨[.long, .long], none⟩ := by decide +kernel
theorem pd2 : parseMethodDescriptor "(JJJ)V" = some ⟨[.long, .long, .long], none⟩ := by decide +kernel
theorem pd3 : parseMethodDescriptor "()V" = some ⟨[], none⟩ := by decide +kernel
theorem pd4 : parseMethodDescriptor "(J)V" = some ⟨[.long], none⟩ := by decide +kernel
theorem pd5 : parseMethodDescriptor "(JJZJ)Lcom/example/rillgraph/rillgraph/core/input/SnapEdge;" = some ⟨[.long, .long, .boolean, .long], some (.object "com/example/rillgraph/rillgraph/core/input/SnapEdge")⟩ := by decide +kernel
theorem pd6 : parseMethodDescriptor "(Ljava/lang/Object;)Z" = some ⟨[(.object "java/lang/Object")], some .boolean⟩ := by decide +kernel
theorem pd7 : parseMethodDescriptor "(J)Ljava/lang/Long;" = some ⟨[.long], some (.object "java/lang/Long")⟩ := by decide +kernel
theorem pn0 : plainName x.cls = true := by first | (simp [x, plainName, overriddenIn]; done) | decide +kernel
theorem pn1 : plainName "com/example/rillgraph/rillgraph/core/input/SnapEdge" = true := by first | (simp [plainName, overriddenIn]; done) | decide +kernel
theorem pn2 : plainName "com/example/rillgraph/rillgraph/core/input/SnapEdgeEqualsPinLaw" = true := by first | (simp [plainName, overriddenIn]; done) | decide +kernel
theorem pn3 : plainName "java/lang/Number" = true := by first | (simp [plainName, overriddenIn]; done) | decide +kernel
theorem pn4 : plainName "java/lang/Long" = true := by first | (simp [plainName, overriddenIn]; done) | decide +kernel
theorem own_no {Z : State} {a0 : Array Value} (hw : ∀ d ∈ tables_1, d.before a0 Z = true) : ∃ c t, Z.vm.findClass "java/lang/Long" = some c ∧ Z.vm.findClass "com/example/rillgraph/rillgraph/core/input/SnapEdge" = some t ∧ Z.vm.assignable c t = false := by
  obtain ⟨t, kt, g1, g2, g3, g4, -⟩ := Cond.instantiable_spec (wd5 hw)
  have hO : NS Z "java/lang/Object" "com/example/rillgraph/rillgraph/core/input/SnapEdge" := by
    obtain ⟨c, k, h1, h2, h3, -, -⟩ := Cond.noSuperclass_spec (wd57 hw)
    have ne := ids_ne h1 g1 (by decide)
    refine ⟨c, t, h1, g1, fun fuel => ?_⟩
    cases fuel with
    | zero => rfl
    | succ f => simp [Vm.isSubclassAux, ne, h2, h3]
  obtain ⟨c, t', h0, g0, n3⟩ := NS.step (wd55 hw) (NS.step (wd56 hw) hO (by decide)) (by decide)
  cases g1.symm.trans g0
  obtain ⟨p, k, kp, h1, h2, h3, h4, h5, -, h7⟩ := Cond.superclass_spec h0 (wd55 hw)
  have ne := ids_ne h0 g1 (by decide)
  refine ⟨c, t, h0, g1, ?_⟩
  show Z.vm.assignableAux (255 + 1) c t = false
  have g7 : kt.isInterface = false := (Bool.or_eq_false_iff.mp g4).1
  simp [Vm.assignableAux, ne, h2, g2, h5, g3, g7, Vm.isSubclass, n3]
def Q3 (Z : State) (a1 : Addr) (q1 : Int64) (q2 : Int64) (p3 : Int32) (q4 : Int64) (h0 : Heap) (n0 : Nat) (v : Option Value) (h : Heap) (L : List Loc) : Prop := v = none ∧ Fr n0 L ∧ Keep h0 h [a1] ∧ Exa Z h a1 "com/example/rillgraph/rillgraph/core/input/SnapEdge" ∧ Fld Z h a1 "com/example/rillgraph/rillgraph/core/input/SnapEdge" "source" "J" (.long q1) ∧ Fld Z h a1 "com/example/rillgraph/rillgraph/core/input/SnapEdge" "target" "J" (.long q2) ∧ Fld Z h a1 "com/example/rillgraph/rillgraph/core/input/SnapEdge" "timed" "Z" (.int p3) ∧ Fld Z h a1 "com/example/rillgraph/rillgraph/core/input/SnapEdge" "timestamp" "J" (.long q4)
set_option maxRecDepth 65536 in
set_option maxHeartbeats 40000000 in
theorem rm3 (l : Launch) (Z : State) (a0 : Array Value) (hw : ∀ d ∈ tables_1, d.before a0 Z = true) (a1 : Addr) (q1 : Int64) (q2 : Int64) (p3 : Int32) (q4 : Int64) (h0 : Heap) (n0 : Nat) (O0 : Old Z n0 h0) (E_a1 : Exa Z h0 a1 "com/example/rillgraph/rillgraph/core/input/SnapEdge") (F_a1_source : Fld Z h0 a1 "com/example/rillgraph/rillgraph/core/input/SnapEdge" "source" "J" (.long (0 : Int64))) (F_a1_target : Fld Z h0 a1 "com/example/rillgraph/rillgraph/core/input/SnapEdge" "target" "J" (.long (0 : Int64))) (F_a1_timed : Fld Z h0 a1 "com/example/rillgraph/rillgraph/core/input/SnapEdge" "timed" "Z" (.int (0 : Int32))) (F_a1_timestamp : Fld Z h0 a1 "com/example/rillgraph/rillgraph/core/input/SnapEdge" "timestamp" "J" (.long (0 : Int64))) (na1 : n0 ≤ a1) (hp3 : p3 = 0 ∨ p3 = 1) :
    Met l Z (⟨"com/example/rillgraph/rillgraph/core/input/SnapEdge", "<init>", "(JJZJ)V"⟩ : MethodName) prog_58_method_3_code 8 none ({ frames := 1, cells := 0, slots := 0, locals := 12 } : Room) [] #[(.ref a1), (.long q1), (.long q2), (.int p3), (.long q4)] h0 (Q3 Z a1 q1 q2 p3 q4 h0 n0) := by
  refine met_of (L0 := #[.val (.ref a1), .val (.long q1), .second, .val (.long q2), .second, .val (.int p3), .val (.long q4), .second]) (plainFor_of_name pn1) (fun m => by first | (simp [entryFrame, mkF, argsToLocals, Value.category]; done) | rfl) ?_
  intro p e s m below meth c T0 hx hby hml hown hnm hret hlk hZ X0 e0
  have N0 := Fr.nil n0
  have KK0 : Keep h0 h0 [a1] := Keep.refl _ _
  refine o_aloadN X0 hx (hb hby d3_0) rfl rfl rfl ?_
  refine o_initO X0 hx hZ hown (wd13 hw) (wd14 hw) (wd15 hw) e0 (by rw [hml]; rfl) (hb hby d3_1) (by decide) (W := 0) rfl (by decide) rfl fun T1 X1 e1 => ?_
  refine o_aloadN X1 hx (hb hby d3_4) rfl rfl rfl ?_
  refine o_lloadN X1 hx (hb hby d3_5) rfl rfl ?_
  refine o_putF X1 hx hZ hown (host := "") (Or.inl (wd16 hw)) Via.refl e1 F_a1_source E_a1 (Or.inr ⟨(wd17 hw), rfl, hnm⟩) (wd5 hw) (ty := .long) (by decide) rfl rfl (hb hby d3_6) rfl fun T6 h6 X6 e6 W6 => ?_
  have F6 : Fld Z h6 a1 "com/example/rillgraph/rillgraph/core/input/SnapEdge" "source" "J" (.long q1) := F_a1_source.same W6
  have N6 := Fr.snoc X6 N0 na1
  have KW6_h0 : Keep h0 h6 [a1] := KK0.wr W6 (Or.inl (List.mem_of_getElem? (i := 0) rfl))
  have OW6 : Old Z n0 h6 := O0.wr W6 na1
  refine o_aloadN X6 hx (hb hby d3_9) rfl rfl rfl ?_
  refine o_lloadN X6 hx (hb hby d3_10) rfl rfl ?_
  have fF11 : Fld Z h6 a1 "com/example/rillgraph/rillgraph/core/input/SnapEdge" "target" "J" (.long (0 : Int64)) := (F_a1_target.other W6 (Or.inr (slot_ne (Z := Z) (a0 := a0) (Or.inr (wd19 hw)) (Or.inr (wd17 hw)) (by decide) (t := .long) (t' := .long) (by decide) (by decide))))
  have fE11 : Exa Z h6 a1 "com/example/rillgraph/rillgraph/core/input/SnapEdge" := (E_a1.wr W6)
  refine o_putF X6 hx hZ hown (host := "") (Or.inl (wd18 hw)) Via.refl e6 fF11 fE11 (Or.inr ⟨(wd19 hw), rfl, hnm⟩) (wd5 hw) (ty := .long) (by decide) rfl rfl (hb hby d3_11) rfl fun T11 h11 X11 e11 W11 => ?_
  have F11 : Fld Z h11 a1 "com/example/rillgraph/rillgraph/core/input/SnapEdge" "target" "J" (.long q2) := fF11.same W11
  have N11 := Fr.snoc X11 N6 na1
  have KW11_h0 : Keep h0 h11 [a1] := KW6_h0.wr W11 (Or.inl (List.mem_of_getElem? (i := 0) rfl))
  have OW11 : Old Z n0 h11 := OW6.wr W11 na1
  refine o_aloadN X11 hx (hb hby d3_14) rfl rfl rfl ?_
  refine o_iload X11 hx (hb hby d3_15) rfl rfl ?_
  have fF17 : Fld Z h11 a1 "com/example/rillgraph/rillgraph/core/input/SnapEdge" "timed" "Z" (.int (0 : Int32)) := ((F_a1_timed.other W6 (Or.inr (slot_ne (Z := Z) (a0 := a0) (Or.inr (wd21 hw)) (Or.inr (wd17 hw)) (by decide) (t := .boolean) (t' := .long) (by decide) (by decide)))).other W11 (Or.inr (slot_ne (Z := Z) (a0 := a0) (Or.inr (wd21 hw)) (Or.inr (wd19 hw)) (by decide) (t := .boolean) (t' := .long) (by decide) (by decide))))
  have fE17 : Exa Z h11 a1 "com/example/rillgraph/rillgraph/core/input/SnapEdge" := (fE11.wr W11)
  refine o_putF X11 hx hZ hown (host := "") (Or.inl (wd20 hw)) Via.refl e11 fF17 fE17 (Or.inr ⟨(wd21 hw), rfl, hnm⟩) (wd5 hw) (ty := .boolean) (by decide) (o_nar01 hp3) (o_fit01 hp3) (hb hby d3_17) rfl fun T17 h17 X17 e17 W17 => ?_
  have F17 : Fld Z h17 a1 "com/example/rillgraph/rillgraph/core/input/SnapEdge" "timed" "Z" (.int p3) := fF17.same W17
  have N17 := Fr.snoc X17 N11 na1
  have KW17_h0 : Keep h0 h17 [a1] := KW11_h0.wr W17 (Or.inl (List.mem_of_getElem? (i := 0) rfl))
  have OW17 : Old Z n0 h17 := OW11.wr W17 na1
  refine o_aloadN X17 hx (hb hby d3_20) rfl rfl rfl ?_
  refine o_lload X17 hx (hb hby d3_21) rfl rfl ?_
  have fF23 : Fld Z h17 a1 "com/example/rillgraph/rillgraph/core/input/SnapEdge" "timestamp" "J" (.long (0 : Int64)) := (((F_a1_timestamp.other W6 (Or.inr (slot_ne (Z := Z) (a0 := a0) (Or.inr (wd23 hw)) (Or.inr (wd17 hw)) (by decide) (t := .long) (t' := .long) (by decide) (by decide)))).other W11 (Or.inr (slot_ne (Z := Z) (a0 := a0) (Or.inr (wd23 hw)) (Or.inr (wd19 hw)) (by decide) (t := .long) (t' := .long) (by decide) (by decide)))).other W17 (Or.inr (slot_ne (Z := Z) (a0 := a0) (Or.inr (wd23 hw)) (Or.inr (wd21 hw)) (by decide) (t := .long) (t' := .boolean) (by decide) (by decide))))
  have fE23 : Exa Z h17 a1 "com/example/rillgraph/rillgraph/core/input/SnapEdge" := (fE17.wr W17)
  refine o_putF X17 hx hZ hown (host := "") (Or.inl (wd22 hw)) Via.refl e17 fF23 fE23 (Or.inr ⟨(wd23 hw), rfl, hnm⟩) (wd5 hw) (ty := .long) (by decide) rfl rfl (hb hby d3_23) rfl fun T23 h23 X23 e23 W23 => ?_
  have F23 : Fld Z h23 a1 "com/example/rillgraph/rillgraph/core/input/SnapEdge" "timestamp" "J" (.long q4) := fF23.same W23
  have N23 := Fr.snoc X23 N17 na1
  have KW23_h0 : Keep h0 h23 [a1] := KW17_h0.wr W23 (Or.inl (List.mem_of_getElem? (i := 0) rfl))
  have OW23 : Old Z n0 h23 := OW17.wr W23 na1
  have fE26 : Exa Z h23 a1 "com/example/rillgraph/rillgraph/core/input/SnapEdge" := (fE23.wr W23)
  have fF26 : Fld Z h23 a1 "com/example/rillgraph/rillgraph/core/input/SnapEdge" "source" "J" (.long q1) := (((F6.other W11 (Or.inr (slot_ne (Z := Z) (a0 := a0) (Or.inr (wd17 hw)) (Or.inr (wd19 hw)) (by decide) (t := .long) (t' := .long) (by decide) (by decide)))).other W17 (Or.inr (slot_ne (Z := Z) (a0 := a0) (Or.inr (wd17 hw)) (Or.inr (wd21 hw)) (by decide) (t := .long) (t' := .boolean) (by decide) (by decide)))).other W23 (Or.inr (slot_ne (Z := Z) (a0 := a0) (Or.inr (wd17 hw)) (Or.inr (wd23 hw)) (by decide) (t := .long) (t' := .long) (by decide) (by decide))))
  have fF26_2 : Fld Z h23 a1 "com/example/rillgraph/rillgraph/core/input/SnapEdge" "target" "J" (.long q2) := ((F11.other W17 (Or.inr (slot_ne (Z := Z) (a0 := a0) (Or.inr (wd19 hw)) (Or.inr (wd21 hw)) (by decide) (t := .long) (t' := .boolean) (by decide) (by decide)))).other W23 (Or.inr (slot_ne (Z := Z) (a0 := a0) (Or.inr (wd19 hw)) (Or.inr (wd23 hw)) (by decide) (t := .long) (t' := .long) (by decide) (by decide))))
  have fF26_3 : Fld Z h23 a1 "com/example/rillgraph/rillgraph/core/input/SnapEdge" "timed" "Z" (.int p3) := (F17.other W23 (Or.inr (slot_ne (Z := Z) (a0 := a0) (Or.inr (wd21 hw)) (Or.inr (wd23 hw)) (by decide) (t := .boolean) (t' := .long) (by decide) (by decide))))
  exact o_retV X23 hx hlk hret (hb hby d3_26) (by decide) (by decide) e23 ⟨rfl, N23, KW23_h0, fE26, fF26, fF26_2, fF26_3, F23⟩
def Q2 (Z : State) (a1 : Addr) (q1 : Int64) (q2 : Int64) (h0 : Heap) (n0 : Nat) (v : Option Value) (h : Heap) (L : List Loc) : Prop := v = none ∧ Fr n0 L ∧ Keep h0 h [a1] ∧ Exa Z h a1 "com/example/rillgraph/rillgraph/core/input/SnapEdge" ∧ Fld Z h a1 "com/example/rillgraph/rillgraph/core/input/SnapEdge" "source" "J" (.long q1) ∧ Fld Z h a1 "com/example/rillgraph/rillgraph/core/input/SnapEdge" "target" "J" (.long q2) ∧ Fld Z h a1 "com/example/rillgraph/rillgraph/core/input/SnapEdge" "timed" "Z" (.int (0 : Int32)) ∧ Fld Z h a1 "com/example/rillgraph/rillgraph/core/input/SnapEdge" "timestamp" "J" (.long (0 : Int64))
set_option maxRecDepth 65536 in
set_option maxHeartbeats 40000000 in
theorem rm2 (l : Launch) (Z : State) (a0 : Array Value) (hw : ∀ d ∈ tables_1, d.before a0 Z = true) (a1 : Addr) (q1 : Int64) (q2 : Int64) (h0 : Heap) (n0 : Nat) (O0 : Old Z n0 h0) (E_a1 : Exa Z h0 a1 "com/example/rillgraph/rillgraph/core/input/SnapEdge") (F_a1_source : Fld Z h0 a1 "com/example/rillgraph/rillgraph/core/input/SnapEdge" "source" "J" (.long (0 : Int64))) (F_a1_target : Fld Z h0 a1 "com/example/rillgraph/rillgraph/core/input/SnapEdge" "target" "J" (.long (0 : Int64))) (F_a1_timed : Fld Z h0 a1 "com/example/rillgraph/rillgraph/core/input/SnapEdge" "timed" "Z" (.int (0 : Int32))) (F_a1_timestamp : Fld Z h0 a1 "com/example/rillgraph/rillgraph/core/input/SnapEdge" "timestamp" "J" (.long (0 : Int64))) (na1 : n0 ≤ a1) :
    Met l Z (⟨"com/example/rillgraph/rillgraph/core/input/SnapEdge", "<init>", "(JJ)V"⟩ : MethodName) prog_58_method_1_code 5 none ({ frames := 2, cells := 0, slots := 0, locals := 31 } : Room) [] #[(.ref a1), (.long q1), (.long q2)] h0 (Q2 Z a1 q1 q2 h0 n0) := by
  refine met_of (L0 := #[.val (.ref a1), .val (.long q1), .second, .val (.long q2), .second]) (plainFor_of_name pn1) (fun m => by first | (simp [entryFrame, mkF, argsToLocals, Value.category]; done) | rfl) ?_
  intro p e s m below meth c T0 hx hby hml hown hnm hret hlk hZ X0 e0
  have N0 := Fr.nil n0
  have KK0 : Keep h0 h0 [a1] := Keep.refl _ _
  refine o_aloadN X0 hx (hb hby d2_0) rfl rfl rfl ?_
  refine o_lloadN X0 hx (hb hby d2_1) rfl rfl ?_
  refine o_lloadN X0 hx (hb hby d2_2) rfl rfl ?_
  refine o_iconst X0 hx (hb hby d2_3) (v := (0 : Int32)) rfl rfl ?_
  refine o_lconst X0 hx (hb hby d2_4) (v := (0 : Int64)) rfl rfl ?_
  refine o_special X0 hx hZ rfl rfl hown (wd10 hw) (wd11 hw) (by decide) (a := a1) (rm3 l Z a0 hw a1 q1 q2 ((0 : Int32)) ((0 : Int64)) h0 n0 O0 E_a1 F_a1_source F_a1_target F_a1_timed F_a1_timestamp na1 (Or.inl rfl)) (wd12 hw) (wd6 hw) e0 (by rw [hml]; rfl) (argsL := [(.long q1), (.long q2), (.int (0 : Int32)), (.long (0 : Int64))]) (rest := []) (W := 0) pd0 rfl rfl rfl rfl (hb hby d2_5) (by decide) (by decide) (by decide) (by decide) (cells' := 0) (slots' := 0) rfl rfl rfl fun v5 T5 h5 Lc5 X5 e5 hq5 => ?_
  obtain ⟨rfl, N5q, K5, qE_5, qF_5, qF_5_2, qF_5_3, qF_5_4⟩ := hq5
  have N5 := Fr.app N0 N5q
  have KK5_h0 : Keep h0 h5 [a1] := KK0.trans K5 (allS (Or.inl (List.mem_of_getElem? (i := 0) rfl)) all0)
  have OK5 : Old Z n0 h5 := O0.keep K5 (allS na1 all0)
  show Goes p.tables e below (Ends s (Q2 Z a1 q1 q2 h0 n0) ({ frames := 2, cells := 0, slots := 0, locals := 31 } : Room).cells ({ frames := 2, cells := 0, slots := 0, locals := 31 } : Room).slots) (T5.setTop (mkF m 8 #[.val (.ref a1), .val (.long q1), .second, .val (.long q2), .second] []))
  exact o_retV X5 hx hlk hret (hb hby d2_8) (by decide) (by decide) e5 ⟨rfl, N5, KK5_h0, qE_5, qF_5, qF_5_2, qF_5_3, qF_5_4⟩
def Q6 (Z : State) (a1 : Addr) (q1 : Int64) (q2 : Int64) (q4 : Int64) (h0 : Heap) (n0 : Nat) (v : Option Value) (h : Heap) (L : List Loc) : Prop := v = none ∧ Fr n0 L ∧ Keep h0 h [a1] ∧ Exa Z h a1 "com/example/rillgraph/rillgraph/core/input/SnapEdge" ∧ Fld Z h a1 "com/example/rillgraph/rillgraph/core/input/SnapEdge" "source" "J" (.long q1) ∧ Fld Z h a1 "com/example/rillgraph/rillgraph/core/input/SnapEdge" "target" "J" (.long q2) ∧ Fld Z h a1 "com/example/rillgraph/rillgraph/core/input/SnapEdge" "timed" "Z" (.int (1 : Int32)) ∧ Fld Z h a1 "com/example/rillgraph/rillgraph/core/input/SnapEdge" "timestamp" "J" (.long q4)
set_option maxRecDepth 65536 in
set_option maxHeartbeats 40000000 in
theorem rm6 (l : Launch) (Z : State) (a0 : Array Value) (hw : ∀ d ∈ tables_1, d.before a0 Z = true) (a1 : Addr) (q1 : Int64) (q2 : Int64) (q4 : Int64) (h0 : Heap) (n0 : Nat) (O0 : Old Z n0 h0) (E_a1 : Exa Z h0 a1 "com/example/rillgraph/rillgraph/core/input/SnapEdge") (F_a1_source : Fld Z h0 a1 "com/example/rillgraph/rillgraph/core/input/SnapEdge" "source" "J" (.long (0 : Int64))) (F_a1_target : Fld Z h0 a1 "com/example/rillgraph/rillgraph/core/input/SnapEdge" "target" "J" (.long (0 : Int64))) (F_a1_timed : Fld Z h0 a1 "com/example/rillgraph/rillgraph/core/input/SnapEdge" "timed" "Z" (.int (0 : Int32))) (F_a1_timestamp : Fld Z h0 a1 "com/example/rillgraph/rillgraph/core/input/SnapEdge" "timestamp" "J" (.long (0 : Int64))) (na1 : n0 ≤ a1) :
    Met l Z (⟨"com/example/rillgraph/rillgraph/core/input/SnapEdge", "<init>", "(JJJ)V"⟩ : MethodName) prog_58_method_2_code 7 none ({ frames := 2, cells := 0, slots := 0, locals := 31 } : Room) [] #[(.ref a1), (.long q1), (.long q2), (.long q4)] h0 (Q6 Z a1 q1 q2 q4 h0 n0) := by
  refine met_of (L0 := #[.val (.ref a1), .val (.long q1), .second, .val (.long q2), .second, .val (.long q4), .second]) (plainFor_of_name pn1) (fun m => by first | (simp [entryFrame, mkF, argsToLocals, Value.category]; done) | rfl) ?_
  intro p e s m below meth c T0 hx hby hml hown hnm hret hlk hZ X0 e0
  have N0 := Fr.nil n0
  have KK0 : Keep h0 h0 [a1] := Keep.refl _ _
  refine o_aloadN X0 hx (hb hby d6_0) rfl rfl rfl ?_
  refine o_lloadN X0 hx (hb hby d6_1) rfl rfl ?_
  refine o_lloadN X0 hx (hb hby d6_2) rfl rfl ?_
  refine o_iconst X0 hx (hb hby d6_3) (v := (1 : Int32)) rfl rfl ?_
  refine o_lload X0 hx (hb hby d6_4) rfl rfl ?_
  refine o_special X0 hx hZ rfl rfl hown (wd10 hw) (wd11 hw) (by decide) (a := a1) (rm3 l Z a0 hw a1 q1 q2 ((1 : Int32)) q4 h0 n0 O0 E_a1 F_a1_source F_a1_target F_a1_timed F_a1_timestamp na1 (Or.inr rfl)) (wd12 hw) (wd6 hw) e0 (by rw [hml]; rfl) (argsL := [(.long q1), (.long q2), (.int (1 : Int32)), (.long q4)]) (rest := []) (W := 0) pd0 rfl rfl rfl rfl (hb hby d6_6) (by decide) (by decide) (by decide) (by decide) (cells' := 0) (slots' := 0) rfl rfl rfl fun v6 T6 h6 Lc6 X6 e6 hq6 => ?_
  obtain ⟨rfl, N6q, K6, qE_6, qF_6, qF_6_2, qF_6_3, qF_6_4⟩ := hq6
  have N6 := Fr.app N0 N6q
  have KK6_h0 : Keep h0 h6 [a1] := KK0.trans K6 (allS (Or.inl (List.mem_of_getElem? (i := 0) rfl)) all0)
  have OK6 : Old Z n0 h6 := O0.keep K6 (allS na1 all0)
  show Goes p.tables e below (Ends s (Q6 Z a1 q1 q2 q4 h0 n0) ({ frames := 2, cells := 0, slots := 0, locals := 31 } : Room).cells ({ frames := 2, cells := 0, slots := 0, locals := 31 } : Room).slots) (T6.setTop (mkF m 9 #[.val (.ref a1), .val (.long q1), .second, .val (.long q2), .second, .val (.long q4), .second] []))
  exact o_retV X6 hx hlk hret (hb hby d6_9) (by decide) (by decide) e6 ⟨rfl, N6, KK6_h0, qE_6, qF_6, qF_6_2, qF_6_3, qF_6_4⟩
def Q1 (Z : State) (q1 : Int64) (q2 : Int64) (p3 : Int32) (q4 : Int64) (h0 : Heap) (n0 : Nat) (v : Option Value) (h : Heap) (L : List Loc) : Prop := ∃ b : Addr, ∃ z : Int32, ∃ w : Int64, v = some (.ref b) ∧ Fr n0 L ∧ Keep h0 h [] ∧ (h0.size ≤ b) ∧ Exa Z h b "com/example/rillgraph/rillgraph/core/input/SnapEdge" ∧ Fld Z h b "com/example/rillgraph/rillgraph/core/input/SnapEdge" "source" "J" (.long q1) ∧ Fld Z h b "com/example/rillgraph/rillgraph/core/input/SnapEdge" "target" "J" (.long q2) ∧ Fld Z h b "com/example/rillgraph/rillgraph/core/input/SnapEdge" "timed" "Z" (.int z) ∧ Fld Z h b "com/example/rillgraph/rillgraph/core/input/SnapEdge" "timestamp" "J" (.long w) ∧ (p3 = 0 ∧ z = 0 ∧ w = 0 ∨ ¬ (p3 = 0) ∧ z = 1 ∧ w = q4)
set_option maxRecDepth 65536 in
set_option maxHeartbeats 40000000 in
theorem rm1 (l : Launch) (Z : State) (a0 : Array Value) (hw : ∀ d ∈ tables_1, d.before a0 Z = true) (q1 : Int64) (q2 : Int64) (p3 : Int32) (q4 : Int64) (h0 : Heap) (n0 : Nat) (O0 : Old Z n0 h0) :
    Met l Z (⟨"com/example/rillgraph/rillgraph/core/input/SnapEdgeEqualsPinLaw", "make", "(JJZJ)Lcom/example/rillgraph/rillgraph/core/input/SnapEdge;"⟩ : MethodName) method_2_code 7 (some (.object "com/example/rillgraph/rillgraph/core/input/SnapEdge")) ({ frames := 3, cells := 1, slots := 4, locals := 50 } : Room) [] #[(.long q1), (.long q2), (.int p3), (.long q4)] h0 (Q1 Z q1 q2 p3 q4 h0 n0) := by
  refine met_of (L0 := #[.val (.long q1), .second, .val (.long q2), .second, .val (.int p3), .val (.long q4), .second]) (plainFor_of_name pn2) (fun m => by first | (simp [entryFrame, mkF, argsToLocals, Value.category]; done) | rfl) ?_
  intro p e s m below meth c T0 hx hby hml hown hnm hret hlk hZ X0 e0
  have N0 := Fr.nil n0
  have KK0 : Keep h0 h0 [] := Keep.refl _ _
  refine o_iload X0 hx (hb hby d1_0) rfl rfl ?_
  by_cases hc2 : p3 = (0 : Int32)
  ·
    refine o_ifYes X0 hx (hb hby d1_2) ((if0 _ _).trans (teq hc2).1) (by decide) (pc' := 17) (by decide) ?_
    refine o_new X0 hx hZ hown (wd4 hw) (wd5 hw) (wd6 hw) e0 (hb hby d1_17) (by decide) (by decide) (cells' := 1) (slots' := 4) rfl rfl rfl fun T17 h17 b17 g17 X17 e17 E17 A17 D17 => ?_
    have s_b17_h0 : h0.size ≤ b17 := Nat.le_trans KK0.1 (Nat.le_of_eq g17.symm)
    have n_b17 : n0 ≤ b17 := Nat.le_trans (O0.1 ▸ O0.2.1) (Nat.le_of_eq g17.symm)
    have KE17_h0 : Keep h0 h17 [] := KK0.ext E17
    have OE17 : Old Z n0 h17 := O0.ext E17
    have Fb17_source : Fld Z h17 b17 "com/example/rillgraph/rillgraph/core/input/SnapEdge" "source" "J" (.long (0 : Int64)) := D17 (Or.inr (wd17 hw)) (ty := .long) (by decide)
    have Fb17_target : Fld Z h17 b17 "com/example/rillgraph/rillgraph/core/input/SnapEdge" "target" "J" (.long (0 : Int64)) := D17 (Or.inr (wd19 hw)) (ty := .long) (by decide)
    have Fb17_timed : Fld Z h17 b17 "com/example/rillgraph/rillgraph/core/input/SnapEdge" "timed" "Z" (.int (0 : Int32)) := D17 (Or.inr (wd21 hw)) (ty := .boolean) (by decide)
    have Fb17_timestamp : Fld Z h17 b17 "com/example/rillgraph/rillgraph/core/input/SnapEdge" "timestamp" "J" (.long (0 : Int64)) := D17 (Or.inr (wd23 hw)) (ty := .long) (by decide)
    refine o_dup X17 hx (hb hby d1_20) rfl rfl ?_
    refine o_lloadN X17 hx (hb hby d1_21) rfl rfl ?_
    refine o_lloadN X17 hx (hb hby d1_22) rfl rfl ?_
    refine o_special X17 hx hZ rfl rfl hown (wd7 hw) (wd8 hw) (by decide) (a := b17) (rm2 l Z a0 hw b17 q1 q2 h17 n0 OE17 A17 Fb17_source Fb17_target Fb17_timed Fb17_timestamp n_b17) (wd9 hw) (wd6 hw) e17 (by rw [hml]; rfl) (argsL := [(.long q1), (.long q2)]) (rest := [(.ref b17)]) (W := 1) pd1 rfl rfl rfl rfl (hb hby d1_23) (by decide) (by decide) (by decide) (by decide) (cells' := 1) (slots' := 4) rfl rfl rfl fun v23 T23 h23 Lc23 X23 e23 hq23 => ?_
    obtain ⟨rfl, N23q, K23, qE_23, qF_23, qF_23_2, qF_23_3, qF_23_4⟩ := hq23
    have N23 := Fr.app N0 N23q
    have KK23_h0 : Keep h0 h23 [] := KE17_h0.trans K23 (allS (Or.inr s_b17_h0) all0)
    have OK23 : Old Z n0 h23 := OE17.keep K23 (allS n_b17 all0)
    show Goes p.tables e below (Ends s (Q1 Z q1 q2 p3 q4 h0 n0) ({ frames := 3, cells := 1, slots := 4, locals := 50 } : Room).cells ({ frames := 3, cells := 1, slots := 4, locals := 50 } : Room).slots) (T23.setTop (mkF m 26 #[.val (.long q1), .second, .val (.long q2), .second, .val (.int p3), .val (.long q4), .second] [(.ref b17)]))
    exact o_ret X23 hx hlk (t := (.object "com/example/rillgraph/rillgraph/core/input/SnapEdge")) hret rfl (Or.inr (Or.inr (Or.inr (Or.inr ⟨rfl, rfl, rfl⟩)))) (hb hby d1_26) (by decide) (by decide) e23 ⟨b17, (0 : Int32), (0 : Int64), rfl, N23, KK23_h0, s_b17_h0, qE_23, qF_23, qF_23_2, qF_23_3, qF_23_4, (Or.inl ⟨hc2, rfl, rfl⟩)⟩
  ·
    refine o_ifNo X0 hx (hb hby d1_2) ((if0 _ _).trans (feq hc2).1) rfl ?_
    refine o_new X0 hx hZ hown (wd4 hw) (wd5 hw) (wd6 hw) e0 (hb hby d1_5) (by decide) (by decide) (cells' := 1) (slots' := 4) rfl rfl rfl fun T5 h5 b5 g5 X5 e5 E5 A5 D5 => ?_
    have s_b5_h0 : h0.size ≤ b5 := Nat.le_trans KK0.1 (Nat.le_of_eq g5.symm)
    have n_b5 : n0 ≤ b5 := Nat.le_trans (O0.1 ▸ O0.2.1) (Nat.le_of_eq g5.symm)
    have KE5_h0 : Keep h0 h5 [] := KK0.ext E5
    have OE5 : Old Z n0 h5 := O0.ext E5
    have Fb5_source : Fld Z h5 b5 "com/example/rillgraph/rillgraph/core/input/SnapEdge" "source" "J" (.long (0 : Int64)) := D5 (Or.inr (wd17 hw)) (ty := .long) (by decide)
    have Fb5_target : Fld Z h5 b5 "com/example/rillgraph/rillgraph/core/input/SnapEdge" "target" "J" (.long (0 : Int64)) := D5 (Or.inr (wd19 hw)) (ty := .long) (by decide)
    have Fb5_timed : Fld Z h5 b5 "com/example/rillgraph/rillgraph/core/input/SnapEdge" "timed" "Z" (.int (0 : Int32)) := D5 (Or.inr (wd21 hw)) (ty := .boolean) (by decide)
    have Fb5_timestamp : Fld Z h5 b5 "com/example/rillgraph/rillgraph/core/input/SnapEdge" "timestamp" "J" (.long (0 : Int64)) := D5 (Or.inr (wd23 hw)) (ty := .long) (by decide)
    refine o_dup X5 hx (hb hby d1_8) rfl rfl ?_
    refine o_lloadN X5 hx (hb hby d1_9) rfl rfl ?_
    refine o_lloadN X5 hx (hb hby d1_10) rfl rfl ?_
    refine o_lload X5 hx (hb hby d1_11) rfl rfl ?_
    refine o_special X5 hx hZ rfl rfl hown (wd31 hw) (wd32 hw) (by decide) (a := b5) (rm6 l Z a0 hw b5 q1 q2 q4 h5 n0 OE5 A5 Fb5_source Fb5_target Fb5_timed Fb5_timestamp n_b5) (wd33 hw) (wd6 hw) e5 (by rw [hml]; rfl) (argsL := [(.long q1), (.long q2), (.long q4)]) (rest := [(.ref b5)]) (W := 1) pd2 rfl rfl rfl rfl (hb hby d1_13) (by decide) (by decide) (by decide) (by decide) (cells' := 1) (slots' := 4) rfl rfl rfl fun v13 T13 h13 Lc13 X13 e13 hq13 => ?_
    obtain ⟨rfl, N13q, K13, qE_13, qF_13, qF_13_2, qF_13_3, qF_13_4⟩ := hq13
    have N13 := Fr.app N0 N13q
    have KK13_h0 : Keep h0 h13 [] := KE5_h0.trans K13 (allS (Or.inr s_b5_h0) all0)
    have OK13 : Old Z n0 h13 := OE5.keep K13 (allS n_b5 all0)
    show Goes p.tables e below (Ends s (Q1 Z q1 q2 p3 q4 h0 n0) ({ frames := 3, cells := 1, slots := 4, locals := 50 } : Room).cells ({ frames := 3, cells := 1, slots := 4, locals := 50 } : Room).slots) (T13.setTop (mkF m 16 #[.val (.long q1), .second, .val (.long q2), .second, .val (.int p3), .val (.long q4), .second] [(.ref b5)]))
    exact o_ret X13 hx hlk (t := (.object "com/example/rillgraph/rillgraph/core/input/SnapEdge")) hret rfl (Or.inr (Or.inr (Or.inr (Or.inr ⟨rfl, rfl, rfl⟩)))) (hb hby d1_16) (by decide) (by decide) e13 ⟨b5, (1 : Int32), q4, rfl, N13, KK13_h0, s_b5_h0, qE_13, qF_13, qF_13_2, qF_13_3, qF_13_4, (Or.inr ⟨hc2, rfl, rfl⟩)⟩
def Q5s (Z : State) (a1 : Addr) (h0 : Heap) (n0 : Nat) (v : Option Value) (h : Heap) (L : List Loc) : Prop := v = some (.int (1 : Int32)) ∧ Fr n0 L ∧ h = h0
set_option maxRecDepth 65536 in
set_option maxHeartbeats 40000000 in
theorem rm5s (l : Launch) (Z : State) (a0 : Array Value) (hw : ∀ d ∈ tables_1, d.before a0 Z = true) (a1 : Addr) (h0 : Heap) (n0 : Nat) (O0 : Old Z n0 h0) :
    Met l Z (⟨"com/example/rillgraph/rillgraph/core/input/SnapEdge", "equals", "(Ljava/lang/Object;)Z"⟩ : MethodName) prog_58_method_9_code 3 (some .boolean) ({ frames := 0, cells := 0, slots := 0, locals := 0 } : Room) [] #[(.ref a1), (.ref a1)] h0 (Q5s Z a1 h0 n0) := by
  refine met_of (L0 := #[.val (.ref a1), .val (.ref a1), .unset]) (plainFor_of_name pn1) (fun m => by first | (simp [entryFrame, mkF, argsToLocals, Value.category]; done) | rfl) ?_
  intro p e s m below meth c T0 hx hby hml hown hnm hret hlk hZ X0 e0
  have N0 := Fr.nil n0
  refine o_aloadN X0 hx (hb hby d5_0) rfl rfl rfl ?_
  refine o_aloadN X0 hx (hb hby d5_1) rfl rfl rfl ?_
  refine o_acmp X0 hx (hb hby d5_2) rfl rfl (same := true) (decide_eq_true rfl) (by decide) (pc' := 5) (by decide) ?_
  refine o_iconst X0 hx (hb hby d5_5) (v := (1 : Int32)) rfl rfl ?_
  exact o_ret X0 hx hlk (t := .boolean) hret rfl (Or.inl ⟨rfl, by decide, _, rfl⟩) (hb hby d5_6) (by decide) (by decide) e0 ⟨rfl, N0, rfl⟩
def Q5n (Z : State) (a1 : Addr) (h0 : Heap) (n0 : Nat) (v : Option Value) (h : Heap) (L : List Loc) : Prop := v = some (.int (0 : Int32)) ∧ Fr n0 L ∧ h = h0
set_option maxRecDepth 65536 in
set_option maxHeartbeats 40000000 in
theorem rm5n (l : Launch) (Z : State) (a0 : Array Value) (hw : ∀ d ∈ tables_1, d.before a0 Z = true) (a1 : Addr) (h0 : Heap) (n0 : Nat) (O0 : Old Z n0 h0) :
    Met l Z (⟨"com/example/rillgraph/rillgraph/core/input/SnapEdge", "equals", "(Ljava/lang/Object;)Z"⟩ : MethodName) prog_58_method_9_code 3 (some .boolean) ({ frames := 0, cells := 0, slots := 0, locals := 0 } : Room) [] #[(.ref a1), .null] h0 (Q5n Z a1 h0 n0) := by
  refine met_of (L0 := #[.val (.ref a1), .val .null, .unset]) (plainFor_of_name pn1) (fun m => by first | (simp [entryFrame, mkF, argsToLocals, Value.category]; done) | rfl) ?_
  intro p e s m below meth c T0 hx hby hml hown hnm hret hlk hZ X0 e0
  have N0 := Fr.nil n0
  refine o_aloadN X0 hx (hb hby d5_0) rfl rfl rfl ?_
  refine o_aloadN X0 hx (hb hby d5_1) rfl rfl rfl ?_
  refine o_acmp X0 hx (hb hby d5_2) rfl rfl (same := false) (decide_eq_false nofun) (by decide) (pc' := 7) (by decide) ?_
  refine o_aloadN X0 hx (hb hby d5_7) rfl rfl rfl ?_
  refine Goes.on (fun _ k => X0.instanceofNull hx (g := (mkF m 8 #[.val (.ref a1), .val .null, .unset] [.null])) rfl rfl (hb hby d5_8) _ k) ?_
  show Goes p.tables e below (Ends s (Q5n Z a1 h0 n0) ({ frames := 0, cells := 0, slots := 0, locals := 0 } : Room).cells ({ frames := 0, cells := 0, slots := 0, locals := 0 } : Room).slots) (T0.setTop (mkF m 11 #[.val (.ref a1), .val .null, .unset] [(.int (0 : Int32))]))
  refine o_ifNo X0 hx (hb hby d5_11) ((if0 _ _).trans (teq (by decide)).2) rfl ?_
  refine o_iconst X0 hx (hb hby d5_14) (v := (0 : Int32)) rfl rfl ?_
  exact o_ret X0 hx hlk (t := .boolean) hret rfl (Or.inl ⟨rfl, by decide, _, rfl⟩) (hb hby d5_15) (by decide) (by decide) e0 ⟨rfl, N0, rfl⟩
def Q5l (Z : State) (a1 : Addr) (a2 : Addr) (h0 : Heap) (n0 : Nat) (v : Option Value) (h : Heap) (L : List Loc) : Prop := v = some (.int (0 : Int32)) ∧ Fr n0 L ∧ h = h0
set_option maxRecDepth 65536 in
set_option maxHeartbeats 40000000 in
theorem rm5l (l : Launch) (Z : State) (a0 : Array Value) (hw : ∀ d ∈ tables_1, d.before a0 Z = true) (a1 : Addr) (a2 : Addr) (h0 : Heap) (n0 : Nat) (O0 : Old Z n0 h0) (E_a1 : Exa Z h0 a1 "com/example/rillgraph/rillgraph/core/input/SnapEdge") (E_a2 : Exa Z h0 a2 "java/lang/Long") :
    Met l Z (⟨"com/example/rillgraph/rillgraph/core/input/SnapEdge", "equals", "(Ljava/lang/Object;)Z"⟩ : MethodName) prog_58_method_9_code 3 (some .boolean) ({ frames := 0, cells := 0, slots := 0, locals := 0 } : Room) [] #[(.ref a1), (.ref a2)] h0 (Q5l Z a1 a2 h0 n0) := by
  refine met_of (L0 := #[.val (.ref a1), .val (.ref a2), .unset]) (plainFor_of_name pn1) (fun m => by first | (simp [entryFrame, mkF, argsToLocals, Value.category]; done) | rfl) ?_
  intro p e s m below meth c T0 hx hby hml hown hnm hret hlk hZ X0 e0
  have N0 := Fr.nil n0
  refine o_aloadN X0 hx (hb hby d5_0) rfl rfl rfl ?_
  refine o_aloadN X0 hx (hb hby d5_1) rfl rfl rfl ?_
  refine o_acmp X0 hx (hb hby d5_2) rfl rfl (same := false) (decide_eq_false fun q => ne_exa E_a1 E_a2 (by decide) (Value.ref.inj q)) (by decide) (pc' := 7) (by decide) ?_
  refine o_aloadN X0 hx (hb hby d5_7) rfl rfl rfl ?_
  refine o_instNo X0 hx hZ hown (wd29 hw) e0 E_a2 (own_no hw) (hb hby d5_8) rfl fun T8 X8 e8 => ?_
  refine o_ifNo X8 hx (hb hby d5_11) ((if0 _ _).trans (teq (by decide)).2) rfl ?_
  refine o_iconst X8 hx (hb hby d5_14) (v := (0 : Int32)) rfl rfl ?_
  exact o_ret X8 hx hlk (t := .boolean) hret rfl (Or.inl ⟨rfl, by decide, _, rfl⟩) (hb hby d5_15) (by decide) (by decide) e8 ⟨rfl, N0, rfl⟩
def Q5o (Z : State) (a1 : Addr) (a2 : Addr) (q1 : Int64) (q2 : Int64) (p3 : Int32) (q4 : Int64) (r1 : Int64) (r2 : Int64) (s3 : Int32) (r4 : Int64) (h0 : Heap) (n0 : Nat) (v : Option Value) (h : Heap) (L : List Loc) : Prop := ∃ z : Int32, v = some (.int z) ∧ Fr n0 L ∧ h = h0 ∧ (z = 1 ∧ (q1 = r1 ∧ q2 = r2 ∧ p3 = s3 ∧ q4 = r4) ∨ z = 0 ∧ ¬ (q1 = r1 ∧ q2 = r2 ∧ p3 = s3 ∧ q4 = r4))
set_option maxRecDepth 65536 in
set_option maxHeartbeats 40000000 in
theorem rm5o (l : Launch) (Z : State) (a0 : Array Value) (hw : ∀ d ∈ tables_1, d.before a0 Z = true) (a1 : Addr) (a2 : Addr) (q1 : Int64) (q2 : Int64) (p3 : Int32) (q4 : Int64) (r1 : Int64) (r2 : Int64) (s3 : Int32) (r4 : Int64) (h0 : Heap) (n0 : Nat) (O0 : Old Z n0 h0) (E_a2 : Exa Z h0 a2 "com/example/rillgraph/rillgraph/core/input/SnapEdge") (F_a1_source : Fld Z h0 a1 "com/example/rillgraph/rillgraph/core/input/SnapEdge" "source" "J" (.long q1)) (F_a1_target : Fld Z h0 a1 "com/example/rillgraph/rillgraph/core/input/SnapEdge" "target" "J" (.long q2)) (F_a1_timed : Fld Z h0 a1 "com/example/rillgraph/rillgraph/core/input/SnapEdge" "timed" "Z" (.int p3)) (F_a1_timestamp : Fld Z h0 a1 "com/example/rillgraph/rillgraph/core/input/SnapEdge" "timestamp" "J" (.long q4)) (F_a2_source : Fld Z h0 a2 "com/example/rillgraph/rillgraph/core/input/SnapEdge" "source" "J" (.long r1)) (F_a2_target : Fld Z h0 a2 "com/example/rillgraph/rillgraph/core/input/SnapEdge" "target" "J" (.long r2)) (F_a2_timed : Fld Z h0 a2 "com/example/rillgraph/rillgraph/core/input/SnapEdge" "timed" "Z" (.int s3)) (F_a2_timestamp : Fld Z h0 a2 "com/example/rillgraph/rillgraph/core/input/SnapEdge" "timestamp" "J" (.long r4)) (hne : a1 ≠ a2) :
    Met l Z (⟨"com/example/rillgraph/rillgraph/core/input/SnapEdge", "equals", "(Ljava/lang/Object;)Z"⟩ : MethodName) prog_58_method_9_code 3 (some .boolean) ({ frames := 0, cells := 0, slots := 0, locals := 0 } : Room) [] #[(.ref a1), (.ref a2)] h0 (Q5o Z a1 a2 q1 q2 p3 q4 r1 r2 s3 r4 h0 n0) := by
  refine met_of (L0 := #[.val (.ref a1), .val (.ref a2), .unset]) (plainFor_of_name pn1) (fun m => by first | (simp [entryFrame, mkF, argsToLocals, Value.category]; done) | rfl) ?_
  intro p e s m below meth c T0 hx hby hml hown hnm hret hlk hZ X0 e0
  have N0 := Fr.nil n0
  refine o_aloadN X0 hx (hb hby d5_0) rfl rfl rfl ?_
  refine o_aloadN X0 hx (hb hby d5_1) rfl rfl rfl ?_
  refine o_acmp X0 hx (hb hby d5_2) rfl rfl (same := false) (decide_eq_false fun q => hne (Value.ref.inj q)) (by decide) (pc' := 7) (by decide) ?_
  refine o_aloadN X0 hx (hb hby d5_7) rfl rfl rfl ?_
  refine o_instY X0 hx hZ hown (wd29 hw) e0 (Ins.self E_a2) (hb hby d5_8) rfl fun T8 X8 e8 => ?_
  refine o_ifYes X8 hx (hb hby d5_11) ((if0 _ _).trans (feq (by decide)).2) (by decide) (pc' := 16) (by decide) ?_
  refine o_aloadN X8 hx (hb hby d5_16) rfl rfl rfl ?_
  refine o_castY X8 hx hZ hown (wd29 hw) e8 (Ins.self E_a2) (hb hby d5_17) rfl fun T17 X17 e17 => ?_
  refine o_astoreN X17 hx (hb hby d5_20) rfl (L' := #[.val (.ref a1), .val (.ref a2), .val (.ref a2)]) rfl rfl ?_
  refine o_aloadN X17 hx (hb hby d5_21) rfl rfl rfl ?_
  refine o_getF X17 hx hZ hown (host := "") (Or.inl (wd16 hw)) Via.refl e17 F_a1_source (hb hby d5_22) rfl fun T22 X22 e22 => ?_
  refine o_aloadN X22 hx (hb hby d5_25) rfl rfl rfl ?_
  refine o_getF X22 hx hZ hown (host := "") (Or.inl (wd16 hw)) Via.refl e22 F_a2_source (hb hby d5_26) rfl fun T26 X26 e26 => ?_
  refine o_lcmp X26 hx (hb hby d5_29) rfl ?_
  by_cases hc30 : q1 = r1
  ·
    refine o_ifNo X26 hx (hb hby d5_30) ((if0 _ _).trans (teq ((lw_eq _ _).mpr hc30)).2) rfl ?_
    refine o_aloadN X26 hx (hb hby d5_33) rfl rfl rfl ?_
    refine o_getF X26 hx hZ hown (host := "") (Or.inl (wd18 hw)) Via.refl e26 F_a1_target (hb hby d5_34) rfl fun T34 X34 e34 => ?_
    refine o_aloadN X34 hx (hb hby d5_37) rfl rfl rfl ?_
    refine o_getF X34 hx hZ hown (host := "") (Or.inl (wd18 hw)) Via.refl e34 F_a2_target (hb hby d5_38) rfl fun T38 X38 e38 => ?_
    refine o_lcmp X38 hx (hb hby d5_41) rfl ?_
    by_cases hc42 : q2 = r2
    ·
      refine o_ifNo X38 hx (hb hby d5_42) ((if0 _ _).trans (teq ((lw_eq _ _).mpr hc42)).2) rfl ?_
      refine o_aloadN X38 hx (hb hby d5_45) rfl rfl rfl ?_
      refine o_getF X38 hx hZ hown (host := "") (Or.inl (wd20 hw)) Via.refl e38 F_a1_timed (hb hby d5_46) rfl fun T46 X46 e46 => ?_
      refine o_aloadN X46 hx (hb hby d5_49) rfl rfl rfl ?_
      refine o_getF X46 hx hZ hown (host := "") (Or.inl (wd20 hw)) Via.refl e46 F_a2_timed (hb hby d5_50) rfl fun T50 X50 e50 => ?_
      by_cases hc53 : p3 = s3
      ·
        refine o_icmpNo X50 hx (hb hby d5_53) (teq hc53).2 rfl ?_
        refine o_aloadN X50 hx (hb hby d5_56) rfl rfl rfl ?_
        refine o_getF X50 hx hZ hown (host := "") (Or.inl (wd22 hw)) Via.refl e50 F_a1_timestamp (hb hby d5_57) rfl fun T57 X57 e57 => ?_
        refine o_aloadN X57 hx (hb hby d5_60) rfl rfl rfl ?_
        refine o_getF X57 hx hZ hown (host := "") (Or.inl (wd22 hw)) Via.refl e57 F_a2_timestamp (hb hby d5_61) rfl fun T61 X61 e61 => ?_
        refine o_lcmp X61 hx (hb hby d5_64) rfl ?_
        by_cases hc65 : q4 = r4
        ·
          refine o_ifNo X61 hx (hb hby d5_65) ((if0 _ _).trans (teq ((lw_eq _ _).mpr hc65)).2) rfl ?_
          refine o_iconst X61 hx (hb hby d5_68) (v := (1 : Int32)) rfl rfl ?_
          refine o_goto X61 hx (hb hby d5_69) (by decide) (pc' := 73) (by decide) ?_
          exact o_ret X61 hx hlk (t := .boolean) hret rfl (Or.inl ⟨rfl, by decide, _, rfl⟩) (hb hby d5_73) (by decide) (by decide) e61 ⟨(1 : Int32), rfl, N0, rfl, (Or.inl ⟨rfl, hc30, hc42, hc53, hc65⟩)⟩
        ·
          refine o_ifYes X61 hx (hb hby d5_65) ((if0 _ _).trans (feq (fun q => hc65 ((lw_eq _ _).mp q))).2) (by decide) (pc' := 72) (by decide) ?_
          refine o_iconst X61 hx (hb hby d5_72) (v := (0 : Int32)) rfl rfl ?_
          exact o_ret X61 hx hlk (t := .boolean) hret rfl (Or.inl ⟨rfl, by decide, _, rfl⟩) (hb hby d5_73) (by decide) (by decide) e61 ⟨(0 : Int32), rfl, N0, rfl, (Or.inr ⟨rfl, fun q => hc65 q.2.2.2⟩)⟩
      ·
        refine o_icmpYes X50 hx (hb hby d5_53) (feq hc53).2 (by decide) (pc' := 72) (by decide) ?_
        refine o_iconst X50 hx (hb hby d5_72) (v := (0 : Int32)) rfl rfl ?_
        exact o_ret X50 hx hlk (t := .boolean) hret rfl (Or.inl ⟨rfl, by decide, _, rfl⟩) (hb hby d5_73) (by decide) (by decide) e50 ⟨(0 : Int32), rfl, N0, rfl, (Or.inr ⟨rfl, fun q => hc53 q.2.2.1⟩)⟩
    ·
      refine o_ifYes X38 hx (hb hby d5_42) ((if0 _ _).trans (feq (fun q => hc42 ((lw_eq _ _).mp q))).2) (by decide) (pc' := 72) (by decide) ?_
      refine o_iconst X38 hx (hb hby d5_72) (v := (0 : Int32)) rfl rfl ?_
      exact o_ret X38 hx hlk (t := .boolean) hret rfl (Or.inl ⟨rfl, by decide, _, rfl⟩) (hb hby d5_73) (by decide) (by decide) e38 ⟨(0 : Int32), rfl, N0, rfl, (Or.inr ⟨rfl, fun q => hc42 q.2.1⟩)⟩
  ·
    refine o_ifYes X26 hx (hb hby d5_30) ((if0 _ _).trans (feq (fun q => hc30 ((lw_eq _ _).mp q))).2) (by decide) (pc' := 72) (by decide) ?_
    refine o_iconst X26 hx (hb hby d5_72) (v := (0 : Int32)) rfl rfl ?_
    exact o_ret X26 hx hlk (t := .boolean) hret rfl (Or.inl ⟨rfl, by decide, _, rfl⟩) (hb hby d5_73) (by decide) (by decide) e26 ⟨(0 : Int32), rfl, N0, rfl, (Or.inr ⟨rfl, fun q => hc30 q.1⟩)⟩
def Q9 (Z : State) (a1 : Addr) (h0 : Heap) (n0 : Nat) (v : Option Value) (h : Heap) (L : List Loc) : Prop := v = none ∧ Fr n0 L ∧ h = h0
set_option maxRecDepth 65536 in
set_option maxHeartbeats 40000000 in
theorem rm9 (l : Launch) (Z : State) (a0 : Array Value) (hw : ∀ d ∈ tables_1, d.before a0 Z = true) (a1 : Addr) (h0 : Heap) (n0 : Nat) (O0 : Old Z n0 h0) :
    Met l Z (⟨"java/lang/Number", "<init>", "()V"⟩ : MethodName) jdk_18_method_1_code 1 none ({ frames := 1, cells := 0, slots := 0, locals := 12 } : Room) [] #[(.ref a1)] h0 (Q9 Z a1 h0 n0) := by
  refine met_of (L0 := #[.val (.ref a1)]) (plainFor_of_name pn3) (fun m => by first | (simp [entryFrame, mkF, argsToLocals, Value.category]; done) | rfl) ?_
  intro p e s m below meth c T0 hx hby hml hown hnm hret hlk hZ X0 e0
  have N0 := Fr.nil n0
  refine o_aloadN X0 hx (hb hby d9_0) rfl rfl rfl ?_
  refine o_initO X0 hx hZ hown (wd52 hw) (wd14 hw) (wd15 hw) e0 (by rw [hml]; rfl) (hb hby d9_1) (by decide) (W := 0) rfl (by decide) rfl fun T1 X1 e1 => ?_
  exact o_retV X1 hx hlk hret (hb hby d9_4) (by decide) (by decide) e1 ⟨rfl, N0, rfl⟩
def Q8 (Z : State) (a1 : Addr) (q1 : Int64) (h0 : Heap) (n0 : Nat) (v : Option Value) (h : Heap) (L : List Loc) : Prop := v = none ∧ Fr n0 L ∧ Keep h0 h [a1] ∧ Exa Z h a1 "java/lang/Long"
set_option maxRecDepth 65536 in
set_option maxHeartbeats 40000000 in
theorem rm8 (l : Launch) (Z : State) (a0 : Array Value) (hw : ∀ d ∈ tables_1, d.before a0 Z = true) (a1 : Addr) (q1 : Int64) (h0 : Heap) (n0 : Nat) (O0 : Old Z n0 h0) (E_a1 : Exa Z h0 a1 "java/lang/Long") (F_a1_value : Fld Z h0 a1 "java/lang/Long" "value" "J" (.long (0 : Int64))) (na1 : n0 ≤ a1) :
    Met l Z (⟨"java/lang/Long", "<init>", "(J)V"⟩ : MethodName) jdk_35_method_26_code 3 none ({ frames := 2, cells := 0, slots := 0, locals := 24 } : Room) [] #[(.ref a1), (.long q1)] h0 (Q8 Z a1 q1 h0 n0) := by
  refine met_of (L0 := #[.val (.ref a1), .val (.long q1), .second]) (plainFor_of_name pn4) (fun m => by first | (simp [entryFrame, mkF, argsToLocals, Value.category]; done) | rfl) ?_
  intro p e s m below meth c T0 hx hby hml hown hnm hret hlk hZ X0 e0
  have N0 := Fr.nil n0
  have KK0 : Keep h0 h0 [a1] := Keep.refl _ _
  refine o_aloadN X0 hx (hb hby d8_0) rfl rfl rfl ?_
  refine o_special X0 hx hZ rfl rfl hown (wd46 hw) (wd47 hw) (by decide) (a := a1) (rm9 l Z a0 hw a1 h0 n0 O0 ) (wd51 hw) (wd50 hw) e0 (by rw [hml]; rfl) (argsL := []) (rest := []) (W := 0) pd3 rfl rfl rfl rfl (hb hby d8_1) (by decide) (by decide) (by decide) (by decide) (cells' := 0) (slots' := 0) rfl rfl rfl fun v1 T1 h1 Lc1 X1 e1 hq1 => ?_
  obtain ⟨rfl, N1q, K1⟩ := hq1
  have N1 := Fr.app N0 N1q
  have e1_2 : T1.heap = h0 := e1.trans K1
  show Goes p.tables e below (Ends s (Q8 Z a1 q1 h0 n0) ({ frames := 2, cells := 0, slots := 0, locals := 24 } : Room).cells ({ frames := 2, cells := 0, slots := 0, locals := 24 } : Room).slots) (T1.setTop (mkF m 4 #[.val (.ref a1), .val (.long q1), .second] []))
  refine o_aloadN X1 hx (hb hby d8_4) rfl rfl rfl ?_
  refine o_lloadN X1 hx (hb hby d8_5) rfl rfl ?_
  refine o_putF X1 hx hZ hown (host := "") (Or.inl (wd53 hw)) Via.refl e1_2 F_a1_value E_a1 (Or.inr ⟨(wd54 hw), rfl, hnm⟩) (wd41 hw) (ty := .long) (by decide) rfl rfl (hb hby d8_6) rfl fun T6 h6 X6 e6 W6 => ?_
  have F6 : Fld Z h6 a1 "java/lang/Long" "value" "J" (.long q1) := F_a1_value.same W6
  have N6 := Fr.snoc X6 N1 na1
  have KW6_h0 : Keep h0 h6 [a1] := KK0.wr W6 (Or.inl (List.mem_of_getElem? (i := 0) rfl))
  have OW6 : Old Z n0 h6 := O0.wr W6 na1
  have fE9 : Exa Z h6 a1 "java/lang/Long" := (E_a1.wr W6)
  exact o_retV X6 hx hlk hret (hb hby d8_9) (by decide) (by decide) e6 ⟨rfl, N6, KW6_h0, fE9⟩
def Q7 (Z : State) (q1 : Int64) (cc : Addr) (ccl : Cell) (h0 : Heap) (n0 : Nat) (v : Option Value) (h : Heap) (L : List Loc) : Prop := ∃ b : Addr, v = some (.ref b) ∧ Fr n0 L ∧ Keep h0 h [] ∧ Exa Z h b "java/lang/Long"
set_option maxRecDepth 65536 in
set_option maxHeartbeats 40000000 in
theorem rm7 (l : Launch) (Z : State) (a0 : Array Value) (hw : ∀ d ∈ tables_1, d.before a0 Z = true) (q1 : Int64) (cc : Addr) (ccl : Cell) (h0 : Heap) (n0 : Nat) (O0 : Old Z n0 h0) (S_cache : Sta Z Z.heap "java/lang/Long$LongCache" "cache" "[Ljava/lang/Long;" (.ref cc)) (hB : Bxs Z cc ccl "java/lang/Long" "J" (256 : Int32) (fun j => .long (j - 128).toInt64)) :
    Met l Z (⟨"java/lang/Long", "valueOf", "(J)Ljava/lang/Long;"⟩ : MethodName) jdk_35_method_24_code 3 (some (.object "java/lang/Long")) ({ frames := 3, cells := 1, slots := 1, locals := 39 } : Room) [] #[(.long q1)] h0 (Q7 Z q1 cc ccl h0 n0) := by
  refine met_of (L0 := #[.val (.long q1), .second, .unset]) (plainFor_of_name pn4) (fun m => by first | (simp [entryFrame, mkF, argsToLocals, Value.category]; done) | rfl) ?_
  intro p e s m below meth c T0 hx hby hml hown hnm hret hlk hZ X0 e0
  have N0 := Fr.nil n0
  have KK0 : Keep h0 h0 [] := Keep.refl _ _
  refine o_sipush X0 hx (hb hby d7_0) (v := (128 : Int32)) rfl rfl ?_
  refine o_istoreN X0 hx (hb hby d7_3) (L' := #[.val (.long q1), .second, .val (.int (128 : Int32))]) rfl rfl ?_
  refine o_lloadN X0 hx (hb hby d7_4) rfl rfl ?_
  refine Goes.on (fun _ k => X0.ldc2Long hx hown (mvT hZ (wd38 hw)) (g := (mkF m 5 #[.val (.long q1), .second, .val (.int (128 : Int32))] [(.long q1)])) rfl (hb hby d7_5) _ k) ?_
  show Goes p.tables e below (Ends s (Q7 Z q1 cc ccl h0 n0) ({ frames := 3, cells := 1, slots := 1, locals := 39 } : Room).cells ({ frames := 3, cells := 1, slots := 1, locals := 39 } : Room).slots) (T0.setTop (mkF m 8 #[.val (.long q1), .second, .val (.int (128 : Int32))] [(.long (-128 : Int64)), (.long q1)]))
  refine o_lcmp X0 hx (hb hby d7_8) rfl ?_
  by_cases hc9 : q1 < (-128 : Int64)
  ·
    refine o_ifYes X0 hx (hb hby d7_9) ((if0 _ _).trans (tlt ((lw_lt _ _).mpr hc9)).1) (by decide) (pc' := 31) (by decide) ?_
    refine o_new X0 hx hZ hown (wd40 hw) (wd41 hw) (wd36 hw) e0 (hb hby d7_31) (by decide) (by decide) (cells' := 1) (slots' := 1) rfl rfl rfl fun T31 h31 b31 g31 X31 e31 E31 A31 D31 => ?_
    have s_b31_h0 : h0.size ≤ b31 := Nat.le_trans KK0.1 (Nat.le_of_eq g31.symm)
    have n_b31 : n0 ≤ b31 := Nat.le_trans (O0.1 ▸ O0.2.1) (Nat.le_of_eq g31.symm)
    have KE31_h0 : Keep h0 h31 [] := KK0.ext E31
    have OE31 : Old Z n0 h31 := O0.ext E31
    have Fb31_value : Fld Z h31 b31 "java/lang/Long" "value" "J" (.long (0 : Int64)) := D31 (Or.inr (wd54 hw)) (ty := .long) (by decide)
    refine o_dup X31 hx (hb hby d7_34) rfl rfl ?_
    refine o_lloadN X31 hx (hb hby d7_35) rfl rfl ?_
    refine o_special X31 hx hZ rfl rfl hown (wd42 hw) (wd43 hw) (by decide) (a := b31) (rm8 l Z a0 hw b31 q1 h31 n0 OE31 A31 Fb31_value n_b31) (wd45 hw) (wd36 hw) e31 (by rw [hml]; rfl) (argsL := [(.long q1)]) (rest := [(.ref b31)]) (W := 1) pd4 rfl rfl rfl rfl (hb hby d7_36) (by decide) (by decide) (by decide) (by decide) (cells' := 1) (slots' := 1) rfl rfl rfl fun v36 T36 h36 Lc36 X36 e36 hq36 => ?_
    obtain ⟨rfl, N36q, K36, qE_36⟩ := hq36
    have N36 := Fr.app N0 N36q
    have KK36_h0 : Keep h0 h36 [] := KE31_h0.trans K36 (allS (Or.inr s_b31_h0) all0)
    have OK36 : Old Z n0 h36 := OE31.keep K36 (allS n_b31 all0)
    show Goes p.tables e below (Ends s (Q7 Z q1 cc ccl h0 n0) ({ frames := 3, cells := 1, slots := 1, locals := 39 } : Room).cells ({ frames := 3, cells := 1, slots := 1, locals := 39 } : Room).slots) (T36.setTop (mkF m 39 #[.val (.long q1), .second, .val (.int (128 : Int32))] [(.ref b31)]))
    exact o_ret X36 hx hlk (t := (.object "java/lang/Long")) hret rfl (Or.inr (Or.inr (Or.inr (Or.inr ⟨rfl, rfl, rfl⟩)))) (hb hby d7_39) (by decide) (by decide) e36 ⟨b31, rfl, N36, KK36_h0, qE_36⟩
  ·
    refine o_ifNo X0 hx (hb hby d7_9) ((if0 _ _).trans (flt (fun q => hc9 ((lw_lt _ _).mp q))).1) rfl ?_
    refine o_lloadN X0 hx (hb hby d7_12) rfl rfl ?_
    refine Goes.on (fun _ k => X0.ldc2Long hx hown (mvT hZ (wd39 hw)) (g := (mkF m 13 #[.val (.long q1), .second, .val (.int (128 : Int32))] [(.long q1)])) rfl (hb hby d7_13) _ k) ?_
    show Goes p.tables e below (Ends s (Q7 Z q1 cc ccl h0 n0) ({ frames := 3, cells := 1, slots := 1, locals := 39 } : Room).cells ({ frames := 3, cells := 1, slots := 1, locals := 39 } : Room).slots) (T0.setTop (mkF m 16 #[.val (.long q1), .second, .val (.int (128 : Int32))] [(.long (127 : Int64)), (.long q1)]))
    refine o_lcmp X0 hx (hb hby d7_16) rfl ?_
    by_cases hc17 : (127 : Int64) < q1
    ·
      refine o_ifYes X0 hx (hb hby d7_17) ((if0 _ _).trans (tlt ((lw_gt _ _).mpr hc17)).2.2.1) (by decide) (pc' := 31) (by decide) ?_
      refine o_new X0 hx hZ hown (wd40 hw) (wd41 hw) (wd36 hw) e0 (hb hby d7_31) (by decide) (by decide) (cells' := 1) (slots' := 1) rfl rfl rfl fun T31_2 h31_2 b31_2 g31_2 X31_2 e31_2 E31_2 A31_2 D31_2 => ?_
      have s_b31_2_h0 : h0.size ≤ b31_2 := Nat.le_trans KK0.1 (Nat.le_of_eq g31_2.symm)
      have n_b31_2 : n0 ≤ b31_2 := Nat.le_trans (O0.1 ▸ O0.2.1) (Nat.le_of_eq g31_2.symm)
      have KE31_2_h0 : Keep h0 h31_2 [] := KK0.ext E31_2
      have OE31_2 : Old Z n0 h31_2 := O0.ext E31_2
      have Fb31_2_value : Fld Z h31_2 b31_2 "java/lang/Long" "value" "J" (.long (0 : Int64)) := D31_2 (Or.inr (wd54 hw)) (ty := .long) (by decide)
      refine o_dup X31_2 hx (hb hby d7_34) rfl rfl ?_
      refine o_lloadN X31_2 hx (hb hby d7_35) rfl rfl ?_
      refine o_special X31_2 hx hZ rfl rfl hown (wd42 hw) (wd43 hw) (by decide) (a := b31_2) (rm8 l Z a0 hw b31_2 q1 h31_2 n0 OE31_2 A31_2 Fb31_2_value n_b31_2) (wd45 hw) (wd36 hw) e31_2 (by rw [hml]; rfl) (argsL := [(.long q1)]) (rest := [(.ref b31_2)]) (W := 1) pd4 rfl rfl rfl rfl (hb hby d7_36) (by decide) (by decide) (by decide) (by decide) (cells' := 1) (slots' := 1) rfl rfl rfl fun v36_2 T36_2 h36_2 Lc36_2 X36_2 e36_2 hq36_2 => ?_
      obtain ⟨rfl, N36q_2, K36_2, qE_36_2⟩ := hq36_2
      have N36_2 := Fr.app N0 N36q_2
      have KK36_2_h0 : Keep h0 h36_2 [] := KE31_2_h0.trans K36_2 (allS (Or.inr s_b31_2_h0) all0)
      have OK36_2 : Old Z n0 h36_2 := OE31_2.keep K36_2 (allS n_b31_2 all0)
      show Goes p.tables e below (Ends s (Q7 Z q1 cc ccl h0 n0) ({ frames := 3, cells := 1, slots := 1, locals := 39 } : Room).cells ({ frames := 3, cells := 1, slots := 1, locals := 39 } : Room).slots) (T36_2.setTop (mkF m 39 #[.val (.long q1), .second, .val (.int (128 : Int32))] [(.ref b31_2)]))
      exact o_ret X36_2 hx hlk (t := (.object "java/lang/Long")) hret rfl (Or.inr (Or.inr (Or.inr (Or.inr ⟨rfl, rfl, rfl⟩)))) (hb hby d7_39) (by decide) (by decide) e36_2 ⟨b31_2, rfl, N36_2, KK36_2_h0, qE_36_2⟩
    ·
      refine o_ifNo X0 hx (hb hby d7_17) ((if0 _ _).trans (flt (fun q => hc17 ((lw_gt _ _).mp q))).2.2.1) rfl ?_
      refine o_getS X0 hx hZ hown (host := "") (Or.inl (wd58 hw)) Via.refl e0 (Sta.ext O0.2 S_cache) (hb hby d7_20) rfl fun T20 X20 e20 => ?_
      refine o_lloadN X20 hx (hb hby d7_23) rfl rfl ?_
      refine o_l2i X20 hx (hb hby d7_24) rfl ?_
      refine o_sipush X20 hx (hb hby d7_25) (v := (128 : Int32)) rfl rfl ?_
      refine o_iadd X20 hx (hb hby d7_28) rfl ?_
      have hin29 : ¬ (((q1.toInt32) + (128 : Int32)) < 0 ∨ ccl.slots.size ≤ ((q1.toInt32) + (128 : Int32)).toNatClampNeg) := by rw [hB.2.1]; exact (Jvm.Free.LongBox.place_okL q1 hc9 hc17).1
      obtain ⟨b29, v29, E29, -⟩ := hB.2.2.2 _ hin29
      have A29 := hB.1.ext O0.2
      refine Goes.on (fun _ k => X20.aaload hx (j := ((q1.toInt32) + (128 : Int32))) (v := .ref b29) (by rw [e20]; exact A29.1) (State.isArrayOf_alike hZ.alike A29.2.1) rfl A29.2.2 hin29 v29 (g := (mkF m 29 #[.val (.long q1), .second, .val (.int (128 : Int32))] [(.int ((q1.toInt32) + (128 : Int32))), (.ref cc)])) rfl rfl (hb hby d7_29) _ k) ?_
      have E29b := E29.ext O0.2
      show Goes p.tables e below (Ends s (Q7 Z q1 cc ccl h0 n0) ({ frames := 3, cells := 1, slots := 1, locals := 39 } : Room).cells ({ frames := 3, cells := 1, slots := 1, locals := 39 } : Room).slots) (T20.setTop (mkF m 30 #[.val (.long q1), .second, .val (.int (128 : Int32))] [(.ref b29)]))
      exact o_ret X20 hx hlk (t := (.object "java/lang/Long")) hret rfl (Or.inr (Or.inr (Or.inr (Or.inr ⟨rfl, rfl, rfl⟩)))) (hb hby d7_30) (by decide) (by decide) e20 ⟨b29, rfl, N0, KK0, E29b⟩
def Q0 (Z : State) (q0 : Int64) (q2 : Int64) (q4 : Int64) (q6 : Int64) (q8 : Int64) (p10 : Int32) (cc : Addr) (ccl : Cell) (h0 : Heap) (n0 : Nat) (v : Option Value) (h : Heap) (L : List Loc) : Prop := v = some (.int (1 : Int32)) ∧ Fr n0 L ∧ Keep h0 h []
set_option maxRecDepth 65536 in
set_option maxHeartbeats 40000000 in
theorem rm0 (l : Launch) (Z : State) (a0 : Array Value) (hw : ∀ d ∈ tables_1, d.before a0 Z = true) (ws : List Jvm.Cond) (q0 : Int64) (q2 : Int64) (q4 : Int64) (q6 : Int64) (q8 : Int64) (p10 : Int32) (cc : Addr) (ccl : Cell) (h0 : Heap) (n0 : Nat) (O0 : Old Z n0 h0) (S_cache : Sta Z Z.heap "java/lang/Long$LongCache" "cache" "[Ljava/lang/Long;" (.ref cc)) (hB : Bxs Z cc ccl "java/lang/Long" "J" (256 : Int32) (fun j => .long (j - 128).toInt64)) :
    Met l Z x code maxLocals ret room_1 ws #[(.long q0), (.long q2), (.long q4), (.long q6), (.long q8), (.int p10)] h0 (Q0 Z q0 q2 q4 q6 q8 p10 cc ccl h0 n0) := by
  refine met_of (L0 := #[.val (.long q0), .second, .val (.long q2), .second, .val (.long q4), .second, .val (.long q6), .second, .val (.long q8), .second, .val (.int p10), .unset, .unset, .unset, .unset, .unset, .unset, .unset, .unset, .unset, .unset, .unset, .unset, .unset, .unset, .unset]) (plainFor_of_name pn0) (fun m => by first | (simp [entryFrame, mkF, argsToLocals, Value.category, maxLocals]; done) | rfl) ?_
  intro p e s m below meth c T0 hx hby hml hown hnm hret hlk hZ X0 e0
  have N0 := Fr.nil n0
  have KK0 : Keep h0 h0 [] := Keep.refl _ _
  refine o_iload X0 hx (hb hby at_0) rfl rfl ?_
  refine o_iconst X0 hx (hb hby at_2) (v := (1 : Int32)) rfl rfl ?_
  refine o_iand X0 hx (hb hby at_3) rfl ?_
  suffices J12 : ∀ (z12 : Int32) (hz12 : True), Goes p.tables e below (Ends s (Q0 Z q0 q2 q4 q6 q8 p10 cc ccl h0 n0) room_1.cells room_1.slots) (T0.setTop (mkF m 12 #[.val (.long q0), .second, .val (.long q2), .second, .val (.long q4), .second, .val (.long q6), .second, .val (.long q8), .second, .val (.int p10), .unset, .unset, .unset, .unset, .unset, .unset, .unset, .unset, .unset, .unset, .unset, .unset, .unset, .unset, .unset] [(.int z12)])) by
    by_cases hc4 : (p10 &&& (1 : Int32)) = (0 : Int32)
    ·
      refine o_ifYes X0 hx (hb hby at_4) ((if0 _ _).trans (teq hc4).1) (by decide) (pc' := 11) (by decide) ?_
      refine o_iconst X0 hx (hb hby at_11) (v := (0 : Int32)) rfl rfl ?_
      exact J12 (0 : Int32) trivial
    ·
      refine o_ifNo X0 hx (hb hby at_4) ((if0 _ _).trans (feq hc4).1) rfl ?_
      refine o_iconst X0 hx (hb hby at_7) (v := (1 : Int32)) rfl rfl ?_
      refine o_goto X0 hx (hb hby at_8) (by decide) (pc' := 12) (by decide) ?_
      exact J12 (1 : Int32) trivial
  intro z12 hz12
  refine o_istore X0 hx (hb hby at_12) (L' := #[.val (.long q0), .second, .val (.long q2), .second, .val (.long q4), .second, .val (.long q6), .second, .val (.long q8), .second, .val (.int p10), .val (.int z12), .unset, .unset, .unset, .unset, .unset, .unset, .unset, .unset, .unset, .unset, .unset, .unset, .unset, .unset]) rfl rfl ?_
  refine o_iload X0 hx (hb hby at_14) rfl rfl ?_
  refine o_iconst X0 hx (hb hby at_16) (v := (2 : Int32)) rfl rfl ?_
  refine o_iand X0 hx (hb hby at_17) rfl ?_
  suffices J26 : ∀ (z26 : Int32) (hz26 : True), Goes p.tables e below (Ends s (Q0 Z q0 q2 q4 q6 q8 p10 cc ccl h0 n0) room_1.cells room_1.slots) (T0.setTop (mkF m 26 #[.val (.long q0), .second, .val (.long q2), .second, .val (.long q4), .second, .val (.long q6), .second, .val (.long q8), .second, .val (.int p10), .val (.int z12), .unset, .unset, .unset, .unset, .unset, .unset, .unset, .unset, .unset, .unset, .unset, .unset, .unset, .unset] [(.int z26)])) by
    by_cases hc18 : (p10 &&& (2 : Int32)) = (0 : Int32)
    ·
      refine o_ifYes X0 hx (hb hby at_18) ((if0 _ _).trans (teq hc18).1) (by decide) (pc' := 25) (by decide) ?_
      refine o_iconst X0 hx (hb hby at_25) (v := (0 : Int32)) rfl rfl ?_
      exact J26 (0 : Int32) trivial
    ·
      refine o_ifNo X0 hx (hb hby at_18) ((if0 _ _).trans (feq hc18).1) rfl ?_
      refine o_iconst X0 hx (hb hby at_21) (v := (1 : Int32)) rfl rfl ?_
      refine o_goto X0 hx (hb hby at_22) (by decide) (pc' := 26) (by decide) ?_
      exact J26 (1 : Int32) trivial
  intro z26 hz26
  refine o_istore X0 hx (hb hby at_26) (L' := #[.val (.long q0), .second, .val (.long q2), .second, .val (.long q4), .second, .val (.long q6), .second, .val (.long q8), .second, .val (.int p10), .val (.int z12), .val (.int z26), .unset, .unset, .unset, .unset, .unset, .unset, .unset, .unset, .unset, .unset, .unset, .unset, .unset]) rfl rfl ?_
  refine o_iload X0 hx (hb hby at_28) rfl rfl ?_
  refine o_iconst X0 hx (hb hby at_30) (v := (4 : Int32)) rfl rfl ?_
  refine o_iand X0 hx (hb hby at_31) rfl ?_
  suffices J40 : ∀ (z40 : Int32) (hz40 : True), Goes p.tables e below (Ends s (Q0 Z q0 q2 q4 q6 q8 p10 cc ccl h0 n0) room_1.cells room_1.slots) (T0.setTop (mkF m 40 #[.val (.long q0), .second, .val (.long q2), .second, .val (.long q4), .second, .val (.long q6), .second, .val (.long q8), .second, .val (.int p10), .val (.int z12), .val (.int z26), .unset, .unset, .unset, .unset, .unset, .unset, .unset, .unset, .unset, .unset, .unset, .unset, .unset] [(.int z40)])) by
    by_cases hc32 : (p10 &&& (4 : Int32)) = (0 : Int32)
    ·
      refine o_ifYes X0 hx (hb hby at_32) ((if0 _ _).trans (teq hc32).1) (by decide) (pc' := 39) (by decide) ?_
      refine o_iconst X0 hx (hb hby at_39) (v := (0 : Int32)) rfl rfl ?_
      exact J40 (0 : Int32) trivial
    ·
      refine o_ifNo X0 hx (hb hby at_32) ((if0 _ _).trans (feq hc32).1) rfl ?_
      refine o_iconst X0 hx (hb hby at_35) (v := (1 : Int32)) rfl rfl ?_
      refine o_goto X0 hx (hb hby at_36) (by decide) (pc' := 40) (by decide) ?_
      exact J40 (1 : Int32) trivial
  intro z40 hz40
  refine o_istore X0 hx (hb hby at_40) (L' := #[.val (.long q0), .second, .val (.long q2), .second, .val (.long q4), .second, .val (.long q6), .second, .val (.long q8), .second, .val (.int p10), .val (.int z12), .val (.int z26), .val (.int z40), .unset, .unset, .unset, .unset, .unset, .unset, .unset, .unset, .unset, .unset, .unset, .unset]) rfl rfl ?_
  refine o_iload X0 hx (hb hby at_42) rfl rfl ?_
  refine o_bipush X0 hx (hb hby at_44) (v := (8 : Int32)) rfl rfl ?_
  refine o_iand X0 hx (hb hby at_46) rfl ?_
  suffices J55 : ∀ (z55 : Int32) (hz55 : z55 = 0 ∨ z55 = 1), Goes p.tables e below (Ends s (Q0 Z q0 q2 q4 q6 q8 p10 cc ccl h0 n0) room_1.cells room_1.slots) (T0.setTop (mkF m 55 #[.val (.long q0), .second, .val (.long q2), .second, .val (.long q4), .second, .val (.long q6), .second, .val (.long q8), .second, .val (.int p10), .val (.int z12), .val (.int z26), .val (.int z40), .unset, .unset, .unset, .unset, .unset, .unset, .unset, .unset, .unset, .unset, .unset, .unset] [(.int z55)])) by
    by_cases hc47 : (p10 &&& (8 : Int32)) = (0 : Int32)
    ·
      refine o_ifYes X0 hx (hb hby at_47) ((if0 _ _).trans (teq hc47).1) (by decide) (pc' := 54) (by decide) ?_
      refine o_iconst X0 hx (hb hby at_54) (v := (0 : Int32)) rfl rfl ?_
      exact J55 (0 : Int32) (Or.inl rfl)
    ·
      refine o_ifNo X0 hx (hb hby at_47) ((if0 _ _).trans (feq hc47).1) rfl ?_
      refine o_iconst X0 hx (hb hby at_50) (v := (1 : Int32)) rfl rfl ?_
      refine o_goto X0 hx (hb hby at_51) (by decide) (pc' := 55) (by decide) ?_
      exact J55 (1 : Int32) (Or.inr rfl)
  intro z55 hz55
  refine o_istore X0 hx (hb hby at_55) (L' := #[.val (.long q0), .second, .val (.long q2), .second, .val (.long q4), .second, .val (.long q6), .second, .val (.long q8), .second, .val (.int p10), .val (.int z12), .val (.int z26), .val (.int z40), .val (.int z55), .unset, .unset, .unset, .unset, .unset, .unset, .unset, .unset, .unset, .unset, .unset]) rfl rfl ?_
  refine o_iload X0 hx (hb hby at_57) rfl rfl ?_
  refine o_bipush X0 hx (hb hby at_59) (v := (16 : Int32)) rfl rfl ?_
  refine o_iand X0 hx (hb hby at_61) rfl ?_
  suffices J70 : ∀ (z70 : Int32) (hz70 : z70 = 0 ∨ z70 = 1), Goes p.tables e below (Ends s (Q0 Z q0 q2 q4 q6 q8 p10 cc ccl h0 n0) room_1.cells room_1.slots) (T0.setTop (mkF m 70 #[.val (.long q0), .second, .val (.long q2), .second, .val (.long q4), .second, .val (.long q6), .second, .val (.long q8), .second, .val (.int p10), .val (.int z12), .val (.int z26), .val (.int z40), .val (.int z55), .unset, .unset, .unset, .unset, .unset, .unset, .unset, .unset, .unset, .unset, .unset] [(.int z70)])) by
    by_cases hc62 : (p10 &&& (16 : Int32)) = (0 : Int32)
    ·
      refine o_ifYes X0 hx (hb hby at_62) ((if0 _ _).trans (teq hc62).1) (by decide) (pc' := 69) (by decide) ?_
      refine o_iconst X0 hx (hb hby at_69) (v := (0 : Int32)) rfl rfl ?_
      exact J70 (0 : Int32) (Or.inl rfl)
    ·
      refine o_ifNo X0 hx (hb hby at_62) ((if0 _ _).trans (feq hc62).1) rfl ?_
      refine o_iconst X0 hx (hb hby at_65) (v := (1 : Int32)) rfl rfl ?_
      refine o_goto X0 hx (hb hby at_66) (by decide) (pc' := 70) (by decide) ?_
      exact J70 (1 : Int32) (Or.inr rfl)
  intro z70 hz70
  refine o_istore X0 hx (hb hby at_70) (L' := #[.val (.long q0), .second, .val (.long q2), .second, .val (.long q4), .second, .val (.long q6), .second, .val (.long q8), .second, .val (.int p10), .val (.int z12), .val (.int z26), .val (.int z40), .val (.int z55), .val (.int z70), .unset, .unset, .unset, .unset, .unset, .unset, .unset, .unset, .unset, .unset]) rfl rfl ?_
  refine o_iload X0 hx (hb hby at_72) rfl rfl ?_
  refine o_iconst X0 hx (hb hby at_74) (v := (5 : Int32)) rfl rfl ?_
  refine o_iushr X0 hx (hb hby at_75) rfl ?_
  refine o_iconst X0 hx (hb hby at_76) (v := (3 : Int32)) rfl rfl ?_
  refine o_iand X0 hx (hb hby at_77) rfl ?_
  refine o_istore X0 hx (hb hby at_78) (L' := #[.val (.long q0), .second, .val (.long q2), .second, .val (.long q4), .second, .val (.long q6), .second, .val (.long q8), .second, .val (.int p10), .val (.int z12), .val (.int z26), .val (.int z40), .val (.int z55), .val (.int z70), .val (.int (((p10.toUInt32 >>> ((5 : Int32) &&& 31).toUInt32).toInt32) &&& (3 : Int32))), .unset, .unset, .unset, .unset, .unset, .unset, .unset, .unset, .unset]) rfl rfl ?_
  refine o_iload X0 hx (hb hby at_80) rfl rfl ?_
  suffices J91 : ∀ (z91 : Int64) (hz91 : True), Goes p.tables e below (Ends s (Q0 Z q0 q2 q4 q6 q8 p10 cc ccl h0 n0) room_1.cells room_1.slots) (T0.setTop (mkF m 91 #[.val (.long q0), .second, .val (.long q2), .second, .val (.long q4), .second, .val (.long q6), .second, .val (.long q8), .second, .val (.int p10), .val (.int z12), .val (.int z26), .val (.int z40), .val (.int z55), .val (.int z70), .val (.int (((p10.toUInt32 >>> ((5 : Int32) &&& 31).toUInt32).toInt32) &&& (3 : Int32))), .unset, .unset, .unset, .unset, .unset, .unset, .unset, .unset, .unset] [(.long z91)])) by
    by_cases hc82 : z12 = (0 : Int32)
    ·
      refine o_ifYes X0 hx (hb hby at_82) ((if0 _ _).trans (teq hc82).1) (by decide) (pc' := 89) (by decide) ?_
      refine o_lload X0 hx (hb hby at_89) rfl rfl ?_
      exact J91 q6 trivial
    ·
      refine o_ifNo X0 hx (hb hby at_82) ((if0 _ _).trans (feq hc82).1) rfl ?_
      refine o_lloadN X0 hx (hb hby at_85) rfl rfl ?_
      refine o_goto X0 hx (hb hby at_86) (by decide) (pc' := 91) (by decide) ?_
      exact J91 q0 trivial
  intro z91 hz91
  refine o_lstore X0 hx (hb hby at_91) (L' := #[.val (.long q0), .second, .val (.long q2), .second, .val (.long q4), .second, .val (.long q6), .second, .val (.long q8), .second, .val (.int p10), .val (.int z12), .val (.int z26), .val (.int z40), .val (.int z55), .val (.int z70), .val (.int (((p10.toUInt32 >>> ((5 : Int32) &&& 31).toUInt32).toInt32) &&& (3 : Int32))), .val (.long z91), .second, .unset, .unset, .unset, .unset, .unset, .unset, .unset]) rfl rfl ?_
  refine o_iload X0 hx (hb hby at_93) rfl rfl ?_
  suffices J104 : ∀ (z104 : Int64) (hz104 : True), Goes p.tables e below (Ends s (Q0 Z q0 q2 q4 q6 q8 p10 cc ccl h0 n0) room_1.cells room_1.slots) (T0.setTop (mkF m 104 #[.val (.long q0), .second, .val (.long q2), .second, .val (.long q4), .second, .val (.long q6), .second, .val (.long q8), .second, .val (.int p10), .val (.int z12), .val (.int z26), .val (.int z40), .val (.int z55), .val (.int z70), .val (.int (((p10.toUInt32 >>> ((5 : Int32) &&& 31).toUInt32).toInt32) &&& (3 : Int32))), .val (.long z91), .second, .unset, .unset, .unset, .unset, .unset, .unset, .unset] [(.long z104)])) by
    by_cases hc95 : z26 = (0 : Int32)
    ·
      refine o_ifYes X0 hx (hb hby at_95) ((if0 _ _).trans (teq hc95).1) (by decide) (pc' := 102) (by decide) ?_
      refine o_lload X0 hx (hb hby at_102) rfl rfl ?_
      exact J104 q8 trivial
    ·
      refine o_ifNo X0 hx (hb hby at_95) ((if0 _ _).trans (feq hc95).1) rfl ?_
      refine o_lloadN X0 hx (hb hby at_98) rfl rfl ?_
      refine o_goto X0 hx (hb hby at_99) (by decide) (pc' := 104) (by decide) ?_
      exact J104 q2 trivial
  intro z104 hz104
  refine o_lstore X0 hx (hb hby at_104) (L' := #[.val (.long q0), .second, .val (.long q2), .second, .val (.long q4), .second, .val (.long q6), .second, .val (.long q8), .second, .val (.int p10), .val (.int z12), .val (.int z26), .val (.int z40), .val (.int z55), .val (.int z70), .val (.int (((p10.toUInt32 >>> ((5 : Int32) &&& 31).toUInt32).toInt32) &&& (3 : Int32))), .val (.long z91), .second, .val (.long z104), .second, .unset, .unset, .unset, .unset, .unset]) rfl rfl ?_
  refine o_iload X0 hx (hb hby at_106) rfl rfl ?_
  suffices J118 : ∀ (z118 : Int64) (hz118 : True), Goes p.tables e below (Ends s (Q0 Z q0 q2 q4 q6 q8 p10 cc ccl h0 n0) room_1.cells room_1.slots) (T0.setTop (mkF m 118 #[.val (.long q0), .second, .val (.long q2), .second, .val (.long q4), .second, .val (.long q6), .second, .val (.long q8), .second, .val (.int p10), .val (.int z12), .val (.int z26), .val (.int z40), .val (.int z55), .val (.int z70), .val (.int (((p10.toUInt32 >>> ((5 : Int32) &&& 31).toUInt32).toInt32) &&& (3 : Int32))), .val (.long z91), .second, .val (.long z104), .second, .unset, .unset, .unset, .unset, .unset] [(.long z118)])) by
    by_cases hc108 : z40 = (0 : Int32)
    ·
      refine o_ifYes X0 hx (hb hby at_108) ((if0 _ _).trans (teq hc108).1) (by decide) (pc' := 116) (by decide) ?_
      refine o_lload X0 hx (hb hby at_116) rfl rfl ?_
      exact J118 q6 trivial
    ·
      refine o_ifNo X0 hx (hb hby at_108) ((if0 _ _).trans (feq hc108).1) rfl ?_
      refine o_lload X0 hx (hb hby at_111) rfl rfl ?_
      refine o_goto X0 hx (hb hby at_113) (by decide) (pc' := 118) (by decide) ?_
      exact J118 q4 trivial
  intro z118 hz118
  refine o_lstore X0 hx (hb hby at_118) (L' := #[.val (.long q0), .second, .val (.long q2), .second, .val (.long q4), .second, .val (.long q6), .second, .val (.long q8), .second, .val (.int p10), .val (.int z12), .val (.int z26), .val (.int z40), .val (.int z55), .val (.int z70), .val (.int (((p10.toUInt32 >>> ((5 : Int32) &&& 31).toUInt32).toInt32) &&& (3 : Int32))), .val (.long z91), .second, .val (.long z104), .second, .val (.long z118), .second, .unset, .unset, .unset]) rfl rfl ?_
  refine o_lloadN X0 hx (hb hby at_120) rfl rfl ?_
  refine o_lloadN X0 hx (hb hby at_121) rfl rfl ?_
  refine o_iload X0 hx (hb hby at_122) rfl rfl ?_
  refine o_lload X0 hx (hb hby at_124) rfl rfl ?_
  refine o_static X0 hx hZ hown (wd0 hw) (wd1 hw) (by decide) (rm1 l Z a0 hw q0 q2 z55 q4 h0 n0 O0 ) (wd3 hw) (wd2 hw) e0 (by rw [hml]; rfl) (argsL := [(.long q0), (.long q2), (.int z55), (.long q4)]) (rest := []) (W := 0) pd5 rfl rfl rfl rfl (hb hby at_126) (by decide) (by decide) (by decide) (by decide) (cells' := 1) (slots' := 4) rfl rfl rfl fun v126 T126 h126 Lc126 X126 e126 hq126 => ?_
  obtain ⟨b_126, z_126, w_126, rfl, N126q, K126, hb_126, qE_126, qF_126, qF_126_2, qF_126_3, qF_126_4, hm_126⟩ := hq126
  have N126 := Fr.app N0 N126q
  have s_b_126_h0 : h0.size ≤ b_126 := Nat.le_trans KK0.1 hb_126
  have n_b_126 : n0 ≤ b_126 := Nat.le_trans (O0.1 ▸ O0.2.1) hb_126
  have KK126_h0 : Keep h0 h126 [] := KK0.trans K126 all0
  have OK126 : Old Z n0 h126 := O0.keep K126 all0
  show Goes p.tables e below (Ends s (Q0 Z q0 q2 q4 q6 q8 p10 cc ccl h0 n0) room_1.cells room_1.slots) (T126.setTop (mkF m 129 #[.val (.long q0), .second, .val (.long q2), .second, .val (.long q4), .second, .val (.long q6), .second, .val (.long q8), .second, .val (.int p10), .val (.int z12), .val (.int z26), .val (.int z40), .val (.int z55), .val (.int z70), .val (.int (((p10.toUInt32 >>> ((5 : Int32) &&& 31).toUInt32).toInt32) &&& (3 : Int32))), .val (.long z91), .second, .val (.long z104), .second, .val (.long z118), .second, .unset, .unset, .unset] [(.ref b_126)]))
  refine o_astore X126 hx (hb hby at_129) rfl (L' := #[.val (.long q0), .second, .val (.long q2), .second, .val (.long q4), .second, .val (.long q6), .second, .val (.long q8), .second, .val (.int p10), .val (.int z12), .val (.int z26), .val (.int z40), .val (.int z55), .val (.int z70), .val (.int (((p10.toUInt32 >>> ((5 : Int32) &&& 31).toUInt32).toInt32) &&& (3 : Int32))), .val (.long z91), .second, .val (.long z104), .second, .val (.long z118), .second, .val (.ref b_126), .unset, .unset]) rfl rfl ?_
  refine o_lload X126 hx (hb hby at_131) rfl rfl ?_
  refine o_lload X126 hx (hb hby at_133) rfl rfl ?_
  refine o_iload X126 hx (hb hby at_135) rfl rfl ?_
  refine o_lload X126 hx (hb hby at_137) rfl rfl ?_
  refine o_static X126 hx hZ hown (wd0 hw) (wd1 hw) (by decide) (rm1 l Z a0 hw z91 z104 z70 z118 h126 n0 OK126 ) (wd3 hw) (wd2 hw) e126 (by rw [hml]; rfl) (argsL := [(.long z91), (.long z104), (.int z70), (.long z118)]) (rest := []) (W := 0) pd5 rfl rfl rfl rfl (hb hby at_139) (by decide) (by decide) (by decide) (by decide) (cells' := 2) (slots' := 8) rfl rfl rfl fun v139 T139 h139 Lc139 X139 e139 hq139 => ?_
  obtain ⟨b_139, z_139, w_139, rfl, N139q, K139, hb_139, qE_139, qF_139, qF_139_2, qF_139_3, qF_139_4, hm_139⟩ := hq139
  have N139 := Fr.app N126 N139q
  have s_b_139_h0 : h0.size ≤ b_139 := Nat.le_trans KK126_h0.1 hb_139
  have n_b_139 : n0 ≤ b_139 := Nat.le_trans (OK126.1 ▸ OK126.2.1) hb_139
  have KK139_h0 : Keep h0 h139 [] := KK126_h0.trans K139 all0
  have OK139 : Old Z n0 h139 := OK126.keep K139 all0
  show Goes p.tables e below (Ends s (Q0 Z q0 q2 q4 q6 q8 p10 cc ccl h0 n0) room_1.cells room_1.slots) (T139.setTop (mkF m 142 #[.val (.long q0), .second, .val (.long q2), .second, .val (.long q4), .second, .val (.long q6), .second, .val (.long q8), .second, .val (.int p10), .val (.int z12), .val (.int z26), .val (.int z40), .val (.int z55), .val (.int z70), .val (.int (((p10.toUInt32 >>> ((5 : Int32) &&& 31).toUInt32).toInt32) &&& (3 : Int32))), .val (.long z91), .second, .val (.long z104), .second, .val (.long z118), .second, .val (.ref b_126), .unset, .unset] [(.ref b_139)]))
  refine o_astore X139 hx (hb hby at_142) rfl (L' := #[.val (.long q0), .second, .val (.long q2), .second, .val (.long q4), .second, .val (.long q6), .second, .val (.long q8), .second, .val (.int p10), .val (.int z12), .val (.int z26), .val (.int z40), .val (.int z55), .val (.int z70), .val (.int (((p10.toUInt32 >>> ((5 : Int32) &&& 31).toUInt32).toInt32) &&& (3 : Int32))), .val (.long z91), .second, .val (.long z104), .second, .val (.long z118), .second, .val (.ref b_126), .val (.ref b_139), .unset]) rfl rfl ?_
  refine o_iload X139 hx (hb hby at_144) rfl rfl ?_
  refine o_iconst X139 hx (hb hby at_146) (v := (1 : Int32)) rfl rfl ?_
  by_cases hc147 : (((p10.toUInt32 >>> ((5 : Int32) &&& 31).toUInt32).toInt32) &&& (3 : Int32)) = (1 : Int32)
  ·
    refine o_icmpNo X139 hx (hb hby at_147) (teq hc147).2 rfl ?_
    refine o_aload X139 hx (hb hby at_150) rfl rfl rfl ?_
    refine o_aload X139 hx (hb hby at_152) rfl rfl rfl ?_
    have fE154 : Exa Z h139 b_126 "com/example/rillgraph/rillgraph/core/input/SnapEdge" := (qE_126.keep K139)
    refine o_virtual X139 hx hZ (C := "com/example/rillgraph/rillgraph/core/input/SnapEdge") hown (wd24 hw) (wd25 hw) (notFace_of_selects (args := #[]) (mvT hZ (wd27 hw))) (wd27 hw) (wd26 hw) (by decide) fE154 (rm5s l Z a0 hw b_126 h139 n0 OK139 ) (wd28 hw) (wd6 hw) e139 (by rw [hml]; rfl) (argsL := [(.ref b_126)]) (rest := []) (W := 0) pd6 rfl rfl rfl rfl (hb hby at_154) (by decide) (by decide) (by decide) (by decide) (cells' := 2) (slots' := 8) rfl rfl rfl fun v154 T154 h154 Lc154 X154 e154 hq154 => ?_
    obtain ⟨rfl, N154q, K154⟩ := hq154
    have N154 := Fr.app N139 N154q
    have e154_2 : T154.heap = h139 := e154.trans K154
    show Goes p.tables e below (Ends s (Q0 Z q0 q2 q4 q6 q8 p10 cc ccl h0 n0) room_1.cells room_1.slots) (T154.setTop (mkF m 157 #[.val (.long q0), .second, .val (.long q2), .second, .val (.long q4), .second, .val (.long q6), .second, .val (.long q8), .second, .val (.int p10), .val (.int z12), .val (.int z26), .val (.int z40), .val (.int z55), .val (.int z70), .val (.int (((p10.toUInt32 >>> ((5 : Int32) &&& 31).toUInt32).toInt32) &&& (3 : Int32))), .val (.long z91), .second, .val (.long z104), .second, .val (.long z118), .second, .val (.ref b_126), .val (.ref b_139), .unset] [(.int (1 : Int32))]))
    exact o_ret X154 hx hlk (t := .boolean) hret rfl (Or.inl ⟨rfl, by decide, _, rfl⟩) (hb hby at_157) (by decide) (by decide) e154_2 ⟨rfl, N154, KK139_h0⟩
  ·
    refine o_icmpYes X139 hx (hb hby at_147) (feq hc147).2 (by decide) (pc' := 158) (by decide) ?_
    refine o_iload X139 hx (hb hby at_158) rfl rfl ?_
    refine o_iconst X139 hx (hb hby at_160) (v := (2 : Int32)) rfl rfl ?_
    by_cases hc161 : (((p10.toUInt32 >>> ((5 : Int32) &&& 31).toUInt32).toInt32) &&& (3 : Int32)) = (2 : Int32)
    ·
      refine o_icmpNo X139 hx (hb hby at_161) (teq hc161).2 rfl ?_
      refine o_aload X139 hx (hb hby at_164) rfl rfl rfl ?_
      refine o_lloadN X139 hx (hb hby at_166) rfl rfl ?_
      refine o_static X139 hx hZ hown (wd34 hw) (wd35 hw) (by decide) (rm7 l Z a0 hw q0 cc ccl h139 n0 OK139 S_cache hB) (wd37 hw) (wd36 hw) e139 (by rw [hml]; rfl) (argsL := [(.long q0)]) (rest := [(.ref b_126)]) (W := 1) pd7 rfl rfl rfl rfl (hb hby at_167) (by decide) (by decide) (by decide) (by decide) (cells' := 3) (slots' := 9) rfl rfl rfl fun v167 T167 h167 Lc167 X167 e167 hq167 => ?_
      obtain ⟨b_167, rfl, N167q, K167, qE_167⟩ := hq167
      have N167 := Fr.app N139 N167q
      have KK167_h0 : Keep h0 h167 [] := KK139_h0.trans K167 all0
      have OK167 : Old Z n0 h167 := OK139.keep K167 all0
      show Goes p.tables e below (Ends s (Q0 Z q0 q2 q4 q6 q8 p10 cc ccl h0 n0) room_1.cells room_1.slots) (T167.setTop (mkF m 170 #[.val (.long q0), .second, .val (.long q2), .second, .val (.long q4), .second, .val (.long q6), .second, .val (.long q8), .second, .val (.int p10), .val (.int z12), .val (.int z26), .val (.int z40), .val (.int z55), .val (.int z70), .val (.int (((p10.toUInt32 >>> ((5 : Int32) &&& 31).toUInt32).toInt32) &&& (3 : Int32))), .val (.long z91), .second, .val (.long z104), .second, .val (.long z118), .second, .val (.ref b_126), .val (.ref b_139), .unset] [(.ref b_167), (.ref b_126)]))
      have fE170 : Exa Z h167 b_126 "com/example/rillgraph/rillgraph/core/input/SnapEdge" := ((qE_126.keep K139).keep K167)
      refine o_virtual X167 hx hZ (C := "com/example/rillgraph/rillgraph/core/input/SnapEdge") hown (wd24 hw) (wd25 hw) (notFace_of_selects (args := #[]) (mvT hZ (wd27 hw))) (wd27 hw) (wd26 hw) (by decide) fE170 (rm5l l Z a0 hw b_126 b_167 h167 n0 OK167 fE170 qE_167) (wd28 hw) (wd6 hw) e167 (by rw [hml]; rfl) (argsL := [(.ref b_167)]) (rest := []) (W := 0) pd6 rfl rfl rfl rfl (hb hby at_170) (by decide) (by decide) (by decide) (by decide) (cells' := 3) (slots' := 9) rfl rfl rfl fun v170 T170 h170 Lc170 X170 e170 hq170 => ?_
      obtain ⟨rfl, N170q, K170⟩ := hq170
      have N170 := Fr.app N167 N170q
      have e170_2 : T170.heap = h167 := e170.trans K170
      show Goes p.tables e below (Ends s (Q0 Z q0 q2 q4 q6 q8 p10 cc ccl h0 n0) room_1.cells room_1.slots) (T170.setTop (mkF m 173 #[.val (.long q0), .second, .val (.long q2), .second, .val (.long q4), .second, .val (.long q6), .second, .val (.long q8), .second, .val (.int p10), .val (.int z12), .val (.int z26), .val (.int z40), .val (.int z55), .val (.int z70), .val (.int (((p10.toUInt32 >>> ((5 : Int32) &&& 31).toUInt32).toInt32) &&& (3 : Int32))), .val (.long z91), .second, .val (.long z104), .second, .val (.long z118), .second, .val (.ref b_126), .val (.ref b_139), .unset] [(.int (0 : Int32))]))
      refine o_ifNo X170 hx (hb hby at_173) ((if0 _ _).trans (teq (by decide)).2) rfl ?_
      refine o_iconst X170 hx (hb hby at_176) (v := (1 : Int32)) rfl rfl ?_
      refine o_goto X170 hx (hb hby at_177) (by decide) (pc' := 181) (by decide) ?_
      exact o_ret X170 hx hlk (t := .boolean) hret rfl (Or.inl ⟨rfl, by decide, _, rfl⟩) (hb hby at_181) (by decide) (by decide) e170_2 ⟨rfl, N170, KK167_h0⟩
    ·
      refine o_icmpYes X139 hx (hb hby at_161) (feq hc161).2 (by decide) (pc' := 182) (by decide) ?_
      refine o_iload X139 hx (hb hby at_182) rfl rfl ?_
      refine o_iconst X139 hx (hb hby at_184) (v := (3 : Int32)) rfl rfl ?_
      by_cases hc185 : (((p10.toUInt32 >>> ((5 : Int32) &&& 31).toUInt32).toInt32) &&& (3 : Int32)) = (3 : Int32)
      ·
        refine o_icmpNo X139 hx (hb hby at_185) (teq hc185).2 rfl ?_
        refine o_aconstNull X139 hx (hb hby at_188) rfl ?_
        refine o_astore X139 hx (hb hby at_189) rfl (L' := #[.val (.long q0), .second, .val (.long q2), .second, .val (.long q4), .second, .val (.long q6), .second, .val (.long q8), .second, .val (.int p10), .val (.int z12), .val (.int z26), .val (.int z40), .val (.int z55), .val (.int z70), .val (.int (((p10.toUInt32 >>> ((5 : Int32) &&& 31).toUInt32).toInt32) &&& (3 : Int32))), .val (.long z91), .second, .val (.long z104), .second, .val (.long z118), .second, .val (.ref b_126), .val (.ref b_139), .val .null]) rfl rfl ?_
        refine o_aload X139 hx (hb hby at_191) rfl rfl rfl ?_
        refine o_aload X139 hx (hb hby at_193) rfl rfl rfl ?_
        have fE195 : Exa Z h139 b_126 "com/example/rillgraph/rillgraph/core/input/SnapEdge" := (qE_126.keep K139)
        refine o_virtual X139 hx hZ (C := "com/example/rillgraph/rillgraph/core/input/SnapEdge") hown (wd24 hw) (wd25 hw) (notFace_of_selects (args := #[]) (mvT hZ (wd27 hw))) (wd27 hw) (wd26 hw) (by decide) fE195 (rm5n l Z a0 hw b_126 h139 n0 OK139 ) (wd28 hw) (wd6 hw) e139 (by rw [hml]; rfl) (argsL := [.null]) (rest := []) (W := 0) pd6 rfl rfl rfl rfl (hb hby at_195) (by decide) (by decide) (by decide) (by decide) (cells' := 2) (slots' := 8) rfl rfl rfl fun v195 T195 h195 Lc195 X195 e195 hq195 => ?_
        obtain ⟨rfl, N195q, K195⟩ := hq195
        have N195 := Fr.app N139 N195q
        have e195_2 : T195.heap = h139 := e195.trans K195
        show Goes p.tables e below (Ends s (Q0 Z q0 q2 q4 q6 q8 p10 cc ccl h0 n0) room_1.cells room_1.slots) (T195.setTop (mkF m 198 #[.val (.long q0), .second, .val (.long q2), .second, .val (.long q4), .second, .val (.long q6), .second, .val (.long q8), .second, .val (.int p10), .val (.int z12), .val (.int z26), .val (.int z40), .val (.int z55), .val (.int z70), .val (.int (((p10.toUInt32 >>> ((5 : Int32) &&& 31).toUInt32).toInt32) &&& (3 : Int32))), .val (.long z91), .second, .val (.long z104), .second, .val (.long z118), .second, .val (.ref b_126), .val (.ref b_139), .val .null] [(.int (0 : Int32))]))
        refine o_ifNo X195 hx (hb hby at_198) ((if0 _ _).trans (teq (by decide)).2) rfl ?_
        refine o_iconst X195 hx (hb hby at_201) (v := (1 : Int32)) rfl rfl ?_
        refine o_goto X195 hx (hb hby at_202) (by decide) (pc' := 206) (by decide) ?_
        exact o_ret X195 hx hlk (t := .boolean) hret rfl (Or.inl ⟨rfl, by decide, _, rfl⟩) (hb hby at_206) (by decide) (by decide) e195_2 ⟨rfl, N195, KK139_h0⟩
      ·
        refine o_icmpYes X139 hx (hb hby at_185) (feq hc185).2 (by decide) (pc' := 207) (by decide) ?_
        refine o_lloadN X139 hx (hb hby at_207) rfl rfl ?_
        refine o_lload X139 hx (hb hby at_208) rfl rfl ?_
        refine o_lcmp X139 hx (hb hby at_210) rfl ?_
        suffices J246 : ∀ (z246 : Int32) (hz246 : z246 = 1 ∧ (q0 = z91 ∧ q2 = z104 ∧ z55 = z70 ∧ (z55 = 0 ∨ q4 = z118)) ∨ z246 = 0 ∧ ¬ (q0 = z91 ∧ q2 = z104 ∧ z55 = z70 ∧ (z55 = 0 ∨ q4 = z118))), Goes p.tables e below (Ends s (Q0 Z q0 q2 q4 q6 q8 p10 cc ccl h0 n0) room_1.cells room_1.slots) (T139.setTop (mkF m 246 #[.val (.long q0), .second, .val (.long q2), .second, .val (.long q4), .second, .val (.long q6), .second, .val (.long q8), .second, .val (.int p10), .val (.int z12), .val (.int z26), .val (.int z40), .val (.int z55), .val (.int z70), .val (.int (((p10.toUInt32 >>> ((5 : Int32) &&& 31).toUInt32).toInt32) &&& (3 : Int32))), .val (.long z91), .second, .val (.long z104), .second, .val (.long z118), .second, .val (.ref b_126), .val (.ref b_139), .unset] [(.int z246)])) by
          have KR211 : Keep h139 h139 [] := Keep.refl _ _
          by_cases hc211 : q0 = z91
          ·
            refine o_ifNo X139 hx (hb hby at_211) ((if0 _ _).trans (teq ((lw_eq _ _).mpr hc211)).2) rfl ?_
            refine o_lloadN X139 hx (hb hby at_214) rfl rfl ?_
            refine o_lload X139 hx (hb hby at_215) rfl rfl ?_
            refine o_lcmp X139 hx (hb hby at_217) rfl ?_
            by_cases hc218 : q2 = z104
            ·
              refine o_ifNo X139 hx (hb hby at_218) ((if0 _ _).trans (teq ((lw_eq _ _).mpr hc218)).2) rfl ?_
              refine o_iload X139 hx (hb hby at_221) rfl rfl ?_
              refine o_iload X139 hx (hb hby at_223) rfl rfl ?_
              by_cases hc225 : z55 = z70
              ·
                refine o_icmpNo X139 hx (hb hby at_225) (teq hc225).2 rfl ?_
                refine o_iload X139 hx (hb hby at_228) rfl rfl ?_
                by_cases hc230 : z55 = (0 : Int32)
                ·
                  refine o_ifYes X139 hx (hb hby at_230) ((if0 _ _).trans (teq hc230).1) (by decide) (pc' := 241) (by decide) ?_
                  refine o_iconst X139 hx (hb hby at_241) (v := (1 : Int32)) rfl rfl ?_
                  refine o_goto X139 hx (hb hby at_242) (by decide) (pc' := 246) (by decide) ?_
                  exact J246 (1 : Int32) (Or.inl ⟨rfl, hc211, hc218, hc225, Or.inl hc230⟩)
                ·
                  refine o_ifNo X139 hx (hb hby at_230) ((if0 _ _).trans (feq hc230).1) rfl ?_
                  refine o_lload X139 hx (hb hby at_233) rfl rfl ?_
                  refine o_lload X139 hx (hb hby at_235) rfl rfl ?_
                  refine o_lcmp X139 hx (hb hby at_237) rfl ?_
                  by_cases hc238 : q4 = z118
                  ·
                    refine o_ifNo X139 hx (hb hby at_238) ((if0 _ _).trans (teq ((lw_eq _ _).mpr hc238)).2) rfl ?_
                    refine o_iconst X139 hx (hb hby at_241) (v := (1 : Int32)) rfl rfl ?_
                    refine o_goto X139 hx (hb hby at_242) (by decide) (pc' := 246) (by decide) ?_
                    exact J246 (1 : Int32) (Or.inl ⟨rfl, hc211, hc218, hc225, Or.inr hc238⟩)
                  ·
                    refine o_ifYes X139 hx (hb hby at_238) ((if0 _ _).trans (feq (fun q => hc238 ((lw_eq _ _).mp q))).2) (by decide) (pc' := 245) (by decide) ?_
                    refine o_iconst X139 hx (hb hby at_245) (v := (0 : Int32)) rfl rfl ?_
                    exact J246 (0 : Int32) (Or.inr ⟨rfl, fun q => q.2.2.2.elim hc230 hc238⟩)
              ·
                refine o_icmpYes X139 hx (hb hby at_225) (feq hc225).2 (by decide) (pc' := 245) (by decide) ?_
                refine o_iconst X139 hx (hb hby at_245) (v := (0 : Int32)) rfl rfl ?_
                exact J246 (0 : Int32) (Or.inr ⟨rfl, fun q => hc225 q.2.2.1⟩)
            ·
              refine o_ifYes X139 hx (hb hby at_218) ((if0 _ _).trans (feq (fun q => hc218 ((lw_eq _ _).mp q))).2) (by decide) (pc' := 245) (by decide) ?_
              refine o_iconst X139 hx (hb hby at_245) (v := (0 : Int32)) rfl rfl ?_
              exact J246 (0 : Int32) (Or.inr ⟨rfl, fun q => hc218 q.2.1⟩)
          ·
            refine o_ifYes X139 hx (hb hby at_211) ((if0 _ _).trans (feq (fun q => hc211 ((lw_eq _ _).mp q))).2) (by decide) (pc' := 245) (by decide) ?_
            refine o_iconst X139 hx (hb hby at_245) (v := (0 : Int32)) rfl rfl ?_
            exact J246 (0 : Int32) (Or.inr ⟨rfl, fun q => hc211 q.1⟩)
        intro z246 hz246
        refine o_istore X139 hx (hb hby at_246) (L' := #[.val (.long q0), .second, .val (.long q2), .second, .val (.long q4), .second, .val (.long q6), .second, .val (.long q8), .second, .val (.int p10), .val (.int z12), .val (.int z26), .val (.int z40), .val (.int z55), .val (.int z70), .val (.int (((p10.toUInt32 >>> ((5 : Int32) &&& 31).toUInt32).toInt32) &&& (3 : Int32))), .val (.long z91), .second, .val (.long z104), .second, .val (.long z118), .second, .val (.ref b_126), .val (.ref b_139), .val (.int z246)]) rfl rfl ?_
        refine o_aload X139 hx (hb hby at_248) rfl rfl rfl ?_
        refine o_aload X139 hx (hb hby at_250) rfl rfl rfl ?_
        have fF252 : Fld Z h139 b_126 "com/example/rillgraph/rillgraph/core/input/SnapEdge" "source" "J" (.long q0) := (qF_126.keep K139 nin0)
        have fF252_2 : Fld Z h139 b_126 "com/example/rillgraph/rillgraph/core/input/SnapEdge" "target" "J" (.long q2) := (qF_126_2.keep K139 nin0)
        have fF252_3 : Fld Z h139 b_126 "com/example/rillgraph/rillgraph/core/input/SnapEdge" "timed" "Z" (.int z_126) := (qF_126_3.keep K139 nin0)
        have fF252_4 : Fld Z h139 b_126 "com/example/rillgraph/rillgraph/core/input/SnapEdge" "timestamp" "J" (.long w_126) := (qF_126_4.keep K139 nin0)
        have fE252 : Exa Z h139 b_126 "com/example/rillgraph/rillgraph/core/input/SnapEdge" := (qE_126.keep K139)
        refine o_virtual X139 hx hZ (C := "com/example/rillgraph/rillgraph/core/input/SnapEdge") hown (wd24 hw) (wd25 hw) (notFace_of_selects (args := #[]) (mvT hZ (wd27 hw))) (wd27 hw) (wd26 hw) (by decide) fE252 (rm5o l Z a0 hw b_126 b_139 q0 q2 z_126 w_126 z91 z104 z_139 w_139 h139 n0 OK139 qE_139 fF252 fF252_2 fF252_3 fF252_4 qF_139 qF_139_2 qF_139_3 qF_139_4 (Nat.ne_of_lt (Nat.lt_of_lt_of_le qE_126.lt hb_139))) (wd28 hw) (wd6 hw) e139 (by rw [hml]; rfl) (argsL := [(.ref b_139)]) (rest := []) (W := 0) pd6 rfl rfl rfl rfl (hb hby at_252) (by decide) (by decide) (by decide) (by decide) (cells' := 2) (slots' := 8) rfl rfl rfl fun v252 T252 h252 Lc252 X252 e252 hq252 => ?_
        obtain ⟨z_252, rfl, N252q, K252, hz_252⟩ := hq252
        have N252 := Fr.app N139 N252q
        have e252_2 : T252.heap = h139 := e252.trans K252
        show Goes p.tables e below (Ends s (Q0 Z q0 q2 q4 q6 q8 p10 cc ccl h0 n0) room_1.cells room_1.slots) (T252.setTop (mkF m 255 #[.val (.long q0), .second, .val (.long q2), .second, .val (.long q4), .second, .val (.long q6), .second, .val (.long q8), .second, .val (.int p10), .val (.int z12), .val (.int z26), .val (.int z40), .val (.int z55), .val (.int z70), .val (.int (((p10.toUInt32 >>> ((5 : Int32) &&& 31).toUInt32).toInt32) &&& (3 : Int32))), .val (.long z91), .second, .val (.long z104), .second, .val (.long z118), .second, .val (.ref b_126), .val (.ref b_139), .val (.int z246)] [(.int z_252)]))
        refine o_iload X252 hx (hb hby at_255) rfl rfl ?_
        have hc257 : z_252 = z246 := own_eq hz55 hz70 hm_126 hm_139 hz246 hz_252
        refine o_icmpNo X252 hx (hb hby at_257) (teq hc257).2 rfl ?_
        refine o_aload X252 hx (hb hby at_260) rfl rfl rfl ?_
        refine o_aload X252 hx (hb hby at_262) rfl rfl rfl ?_
        refine o_virtual X252 hx hZ (C := "com/example/rillgraph/rillgraph/core/input/SnapEdge") hown (wd24 hw) (wd25 hw) (notFace_of_selects (args := #[]) (mvT hZ (wd27 hw))) (wd27 hw) (wd26 hw) (by decide) qE_139 (rm5o l Z a0 hw b_139 b_126 z91 z104 z_139 w_139 q0 q2 z_126 w_126 h139 n0 OK139 fE252 qF_139 qF_139_2 qF_139_3 qF_139_4 fF252 fF252_2 fF252_3 fF252_4 (Ne.symm (Nat.ne_of_lt (Nat.lt_of_lt_of_le qE_126.lt hb_139)))) (wd28 hw) (wd6 hw) e252_2 (by rw [hml]; rfl) (argsL := [(.ref b_126)]) (rest := []) (W := 0) pd6 rfl rfl rfl rfl (hb hby at_264) (by decide) (by decide) (by decide) (by decide) (cells' := 2) (slots' := 8) rfl rfl rfl fun v264 T264 h264 Lc264 X264 e264 hq264 => ?_
        obtain ⟨z_264, rfl, N264q, K264, hz_264⟩ := hq264
        have N264 := Fr.app N252 N264q
        have e264_2 : T264.heap = h139 := e264.trans K264
        show Goes p.tables e below (Ends s (Q0 Z q0 q2 q4 q6 q8 p10 cc ccl h0 n0) room_1.cells room_1.slots) (T264.setTop (mkF m 267 #[.val (.long q0), .second, .val (.long q2), .second, .val (.long q4), .second, .val (.long q6), .second, .val (.long q8), .second, .val (.int p10), .val (.int z12), .val (.int z26), .val (.int z40), .val (.int z55), .val (.int z70), .val (.int (((p10.toUInt32 >>> ((5 : Int32) &&& 31).toUInt32).toInt32) &&& (3 : Int32))), .val (.long z91), .second, .val (.long z104), .second, .val (.long z118), .second, .val (.ref b_126), .val (.ref b_139), .val (.int z246)] [(.int z_264)]))
        refine o_iload X264 hx (hb hby at_267) rfl rfl ?_
        have hc269 : z_264 = z246 := own_eq hz55 hz70 hm_126 hm_139 hz246 (own_sym hz_264)
        refine o_icmpNo X264 hx (hb hby at_269) (teq hc269).2 rfl ?_
        refine o_iconst X264 hx (hb hby at_272) (v := (1 : Int32)) rfl rfl ?_
        refine o_goto X264 hx (hb hby at_273) (by decide) (pc' := 277) (by decide) ?_
        exact o_ret X264 hx hlk (t := .boolean) hret rfl (Or.inl ⟨rfl, by decide, _, rfl⟩) (hb hby at_277) (by decide) (by decide) e264_2 ⟨rfl, N264, KK139_h0⟩
set_option maxRecDepth 65536 in
set_option maxHeartbeats 40000000 in
theorem comes_1 {Post : Tables → Env → Array Value → State → Outcome → State → Prop} (hpost : ∀ tb e args s v u, (limb_1_1.after args s (.returned v) u = true ∧ limb_1_2.after args s (.returned v) u = true ∧ True) → FrameEnd s (.returned v) u (Jvm.fieldLocs frame_1_writes args s ++ Jvm.arrayLocs frame_1_arrays args s ++ Jvm.staticLocs frame_1_statics s) 16 128 → Post tb e args s (.returned v) u) :
    ArmFor flags0 classFile x code maxLocals ret World_1 tables_1 room_1 Calls_1 rest_1 Pre_1 Post := by
  intro l hfl _ _ p e ha hc hk s m args below hf hA hF happ hP
  obtain ⟨hcalls, hrest, hpre⟩ := hP
  obtain ⟨-, -, -, hnamed, -, -, -, hat⟩ := (Spec.applies_iff hf).mp happ
  obtain ⟨hg, hn⟩ := and_e (Cond.before_iff.mp (show (Jvm.Cond.and given_1 narrow_1).before args s = true from hpre))
  obtain ⟨u1a, u1b⟩ := and_e hg
  obtain ⟨u2a, u2b⟩ := and_e u1b
  obtain ⟨u3a, u3b⟩ := and_e u2b
  obtain ⟨u4a, u4b⟩ := and_e u3b
  obtain ⟨u5a, u5b⟩ := and_e u4b
  obtain ⟨u6a, u6b⟩ := and_e u5b
  obtain ⟨w0, w1, w2, w3, w4, w5, rfl⟩ : ∃ w0 w1 w2 w3 w4 w5 : Value, args = #[w0, w1, w2, w3, w4, w5] := by
    have hs : args.size = 6 := by simpa [Cond.value, given_1] using u1a
    obtain ⟨L⟩ := args
    match L, hs with
    | [w0, w1, w2, w3, w4, w5], _ => exact ⟨w0, w1, w2, w3, w4, w5, rfl⟩
  have hw := fun d (hd : d ∈ tables_1) => atoms_spec (ws := Jvm.Cond.code x code maxLocals ret :: tables_1) hat d (List.mem_cons_of_mem _ hd)
  have hfit : Fit s := fun {y c} hc i hi => by
    obtain ⟨ha, rfl⟩ := Array.getElem?_eq_some_iff.mp hc
    have q := List.all_eq_true.mp ((Array.all_eq_true_iff_forall_mem.mp hF) _ (Array.getElem_mem ha)) i (List.mem_range.mpr hi)
    simpa [Array.getElem?_eq_getElem hi] using q
  obtain ⟨hsets, hown0⟩ := atoms_of _ (rest_1_c_eq ▸ (show rest_1_c.before _ s = true from hrest))
  obtain ⟨i0, ei0⟩ := isL_v u2a
  obtain rfl : w0 = (.long i0) := Option.some.inj ei0
  obtain ⟨i1, ei1⟩ := isL_v u3a
  obtain rfl : w1 = (.long i1) := Option.some.inj ei1
  obtain ⟨i2, ei2⟩ := isL_v u4a
  obtain rfl : w2 = (.long i2) := Option.some.inj ei2
  obtain ⟨i3, ei3⟩ := isL_v u5a
  obtain rfl : w3 = (.long i3) := Option.some.inj ei3
  obtain ⟨i4, ei4⟩ := isL_v u6a
  obtain rfl : w4 = (.long i4) := Option.some.inj ei4
  obtain ⟨i5, ei5⟩ := is_v u6b
  obtain rfl : w5 = (.int i5) := Option.some.inj ei5
  obtain ⟨cc, ecc⟩ := arr_v (Cond.before_iff.mp (hsets _ (List.mem_of_getElem? (i := 2) rfl)))
  have Scc : Sta s s.heap "java/lang/Long$LongCache" "cache" "[Ljava/lang/Long;" (.ref cc) := Sta.start ecc (Or.inl (hsets _ (List.mem_of_getElem? (i := 1) rfl)))
  obtain ⟨ccl, Acc⟩ := Arr.start ecc (Cond.before_iff.mp (hsets _ (List.mem_of_getElem? (i := 2) rfl)))
  have hlen := own_len ecc Acc (Cond.before_iff.mp (hsets _ (List.mem_of_getElem? (i := 4) rfl)))
  have hB : Bxs s cc ccl "java/lang/Long" "J" (256 : Int32) (fun j => .long (j - 128).toInt64) := Bxs.start (fun _ => ecc) Acc (by rw [hlen]; decide) (by rw [hlen]; rfl) (by decide) (Cond.before_iff.mp (hsets _ (List.mem_of_getElem? (i := 5) rfl))) (fun X j nn hq => eqv_l (i2l_at (own_sub nn)) hq)
  obtain ⟨n, o, h1, h2, h3, _, L, rfl, ⟨rfl, N, -⟩, hq⟩ := rm0 l s _ hw tables_1 i0 i1 i2 i3 i4 i5 cc ccl s.heap s.heap.size (Old.start s) Scc hB p e ha hc hk s m _ below hf ((Spec.applies_iff_loose hf).mp happ).1 ⟨rfl, State.Warmed39.refl s, rfl⟩ trivial
  refine ⟨n, _, h1, h2, h3, hpost _ _ _ _ _ _ ⟨Cond.after_iff.mpr rfl, Cond.after_iff.mpr (eq_i res_at (Term.int_eval (1)) rfl), trivial⟩ ⟨hq.1, hq.2.1, (hq.2.2.sift fun y hy => Or.inr (N y hy)).mono (by decide) (by decide)⟩⟩
theorem main_1_1 : Claimed_1_1 := comes_1 fun _ _ _ _ _ _ h hF => ⟨h.1, hF⟩
theorem main_1_2 : Claimed_1_2 := comes_1 fun _ _ _ _ _ _ h hF => ⟨h.2.1, hF⟩
end Jvm.Pilot.@@N@@
namespace Jvm.Pilot.@@N@@
open Jvm Jvm.ClassFile Sem Op Lib Jvm.Free Jvm.Stand Jvm.Pilot.@@N@@.Jvm.D
/-! MADE BY PROGRAM (witnessworld.py) out of the Statement's table words and the real class files: 16 classes; the members and pool entries that the words name. The judged class is class 1, her method 2. -/
namespace start1
open Jvm.ClassFile
def u (s : String) : CpInfo := .utf8 (stringToUtf16 s)
/-- a pool by its gaps: so many unusable entries, then the entry; so many at the end -/
def gap : Nat → List CpInfo → List CpInfo
  | 0, r => r
  | n + 1, r => .unusable :: gap n r
def poolList (es : List (Nat × CpInfo)) (last : Nat) : List CpInfo := es.foldr (fun e r => gap e.1 (e.2 :: r)) (gap last [])
def pool (es : List (Nat × CpInfo)) (last : Nat) : Array CpInfo := ⟨poolList es last⟩
def fileOf (pool : Array CpInfo) (this : Nat) (attrs : Array Attribute := #[]) (ms : Array MethodInfo := #[]) (fl : Nat := 33) (sup : Nat := 0) (ifs : Array Nat := #[]) (fds : Array FieldInfo := #[]) : ClassFile where
  minorVersion := 0
  majorVersion := 65
  constantPool := pool
  accessFlags := fl
  thisClass := this
  superClass := sup
  interfaces := ifs
  fields := fds
  methods := ms
  attributes := attrs
def plain (name : String) (sup : Option ClassId) : Class where
  name := name
  kind := .ordinary
  loader := none
  accessFlags := 33
  super := sup
  interfaces := #[]
  cf := none
  fields := #[]
  methods := #[]
  instanceTypes := #[]
  staticTypes := #[]
  resolved := #[]
  callSites := []
  init := .initialized
  statics := none
  mirror := none

def pool0 : Array CpInfo := pool [(5, u "<init>"), (0, u "()V"), (1, .class_ 10), (1, u "java/lang/Object")] 113

def k0c0 : Code := { maxStack := 0, maxLocals := 1, code := object_method_1_code, exceptionTable := #[], attributes := #[] }
def k0m0 : Method := { name := "<init>", desc := "()V", sig := { parameters := [], returnType := none }, accessFlags := 1, code := some k0c0 }
/-- java/lang/Object -/
def k0 : Class := { plain "java/lang/Object" none with
  accessFlags := 33
  interfaces := #[]
  cf := some (fileOf pool0 8 #[] #[{ accessFlags := 1, nameIndex := 5, descriptorIndex := 6, attributes := #[] }] 33 0 #[] #[])
  fields := #[]
  methods := #[k0m0]
  instanceTypes := #[]
  staticTypes := #[]
  resolved := Array.replicate 124 none
  statics := none }

def pool1 : Array CpInfo := pool [(2, .class_ 4), (1, u "java/lang/Object"), (0, u "<init>"), (0, u "()V"), (0, .class_ 8), (0, u "com/example/rillgraph/rillgraph/core/input/SnapEdge"), (0, .methodref 7 10), (0, .nameAndType 5 11), (0, u "(JJJ)V"), (0, .methodref 7 13), (0, .nameAndType 5 14), (0, u "(JJ)V"), (0, .methodref 16 17), (0, .class_ 18), (0, .nameAndType 19 20), (0, u "com/example/rillgraph/rillgraph/core/input/SnapEdgeEqualsPinLaw"), (0, u "make"), (0, u "(JJZJ)Lcom/example/rillgraph/rillgraph/core/input/SnapEdge;"), (0, .methodref 7 22), (0, .nameAndType 23 24), (0, u "equals"), (0, u "(Ljava/lang/Object;)Z"), (0, .methodref 26 27), (0, .class_ 28), (0, .nameAndType 29 30), (0, u "java/lang/Long"), (0, u "valueOf"), (0, u "(J)Ljava/lang/Long;"), (3, u "law"), (0, u "(JJJJJI)Z")] 2

def k1m0 : Method := { name := "<init>", desc := "()V", sig := { parameters := [], returnType := none }, accessFlags := 1, code := none }
def k1c1 : Code := { maxStack := 8, maxLocals := 7, code := method_2_code, exceptionTable := #[], attributes := #[] }
def k1m1 : Method := { name := "make", desc := "(JJZJ)Lcom/example/rillgraph/rillgraph/core/input/SnapEdge;", sig := { parameters := [.long, .long, .boolean, .long], returnType := some (.object "com/example/rillgraph/rillgraph/core/input/SnapEdge") }, accessFlags := 10, code := some k1c1 }
def k1c2 : Code := { maxStack := 7, maxLocals := 26, code := code, exceptionTable := #[], attributes := #[] }
def k1m2 : Method := { name := "law", desc := "(JJJJJI)Z", sig := { parameters := [.long, .long, .long, .long, .long, .int], returnType := some .boolean }, accessFlags := 9, code := some k1c2 }
/-- com/example/rillgraph/rillgraph/core/input/SnapEdgeEqualsPinLaw -/
def k1 : Class := { plain "com/example/rillgraph/rillgraph/core/input/SnapEdgeEqualsPinLaw" (some 0) with
  accessFlags := 49
  interfaces := #[]
  cf := some (fileOf pool1 16 #[] #[{ accessFlags := 1, nameIndex := 5, descriptorIndex := 6, attributes := #[] }, { accessFlags := 10, nameIndex := 19, descriptorIndex := 20, attributes := #[] }, { accessFlags := 9, nameIndex := 34, descriptorIndex := 35, attributes := #[] }] 49 2 #[] #[])
  fields := #[]
  methods := #[k1m0, k1m1, k1m2]
  instanceTypes := #[]
  staticTypes := #[]
  resolved := Array.replicate 38 none
  statics := none }

def pool2 : Array CpInfo := pool [(1, .methodref 2 3), (0, .class_ 4), (0, .nameAndType 5 6), (0, u "com/example/rillgraph/rillgraph/core/input/SnapEdge"), (0, u "<init>"), (0, u "(JJZJ)V"), (0, .methodref 8 9), (0, .class_ 10), (0, .nameAndType 5 11), (0, u "java/lang/Object"), (0, u "()V"), (0, .fieldref 2 13), (0, .nameAndType 14 15), (0, u "source"), (0, u "J"), (0, .fieldref 2 17), (0, .nameAndType 18 15), (0, u "target"), (0, .fieldref 2 20), (0, .nameAndType 21 22), (0, u "timed"), (0, u "Z"), (0, .fieldref 2 24), (0, .nameAndType 25 15), (0, u "timestamp"), (42, u "(JJ)V"), (3, u "(JJJ)V"), (34, u "LINE"), (0, u "Ljava/lang/String;"), (11, u "equals"), (0, u "(Ljava/lang/Object;)Z")] 37

def k2c0 : Code := { maxStack := 8, maxLocals := 5, code := prog_58_method_1_code, exceptionTable := #[], attributes := #[] }
def k2m0 : Method := { name := "<init>", desc := "(JJ)V", sig := { parameters := [.long, .long], returnType := none }, accessFlags := 1, code := some k2c0 }
def k2c1 : Code := { maxStack := 8, maxLocals := 7, code := prog_58_method_2_code, exceptionTable := #[], attributes := #[] }
def k2m1 : Method := { name := "<init>", desc := "(JJJ)V", sig := { parameters := [.long, .long, .long], returnType := none }, accessFlags := 1, code := some k2c1 }
def k2c2 : Code := { maxStack := 3, maxLocals := 8, code := prog_58_method_3_code, exceptionTable := #[], attributes := #[] }
def k2m2 : Method := { name := "<init>", desc := "(JJZJ)V", sig := { parameters := [.long, .long, .boolean, .long], returnType := none }, accessFlags := 2, code := some k2c2 }
def k2c3 : Code := { maxStack := 4, maxLocals := 3, code := prog_58_method_9_code, exceptionTable := #[], attributes := #[] }
def k2m3 : Method := { name := "equals", desc := "(Ljava/lang/Object;)Z", sig := { parameters := [(.object "java/lang/Object")], returnType := some .boolean }, accessFlags := 1, code := some k2c3 }
/-- com/example/rillgraph/rillgraph/core/input/SnapEdge -/
def k2 : Class := { plain "com/example/rillgraph/rillgraph/core/input/SnapEdge" (some 0) with
  accessFlags := 49
  interfaces := #[]
  cf := some (fileOf pool2 2 #[] #[{ accessFlags := 1, nameIndex := 5, descriptorIndex := 68, attributes := #[] }, { accessFlags := 1, nameIndex := 5, descriptorIndex := 72, attributes := #[] }, { accessFlags := 2, nameIndex := 5, descriptorIndex := 6, attributes := #[] }, { accessFlags := 1, nameIndex := 120, descriptorIndex := 121, attributes := #[] }] 49 8 #[] #[{ accessFlags := 24, nameIndex := 107, descriptorIndex := 108, attributes := #[] }, { accessFlags := 18, nameIndex := 14, descriptorIndex := 15, attributes := #[] }, { accessFlags := 18, nameIndex := 18, descriptorIndex := 15, attributes := #[] }, { accessFlags := 18, nameIndex := 21, descriptorIndex := 22, attributes := #[] }, { accessFlags := 18, nameIndex := 25, descriptorIndex := 15, attributes := #[] }])
  fields := #[{ name := "LINE", type := (.object "java/lang/String"), accessFlags := 24, slot := 0, constantValue := 0 }, { name := "source", type := .long, accessFlags := 18, slot := 0, constantValue := 0 }, { name := "target", type := .long, accessFlags := 18, slot := 1, constantValue := 0 }, { name := "timed", type := .boolean, accessFlags := 18, slot := 2, constantValue := 0 }, { name := "timestamp", type := .long, accessFlags := 18, slot := 3, constantValue := 0 }]
  methods := #[k2m0, k2m1, k2m2, k2m3]
  instanceTypes := #[.long, .long, .boolean, .long]
  staticTypes := #[(.object "java/lang/String")]
  resolved := Array.replicate 159 none
  statics := none }

def pool3 : Array CpInfo := pool [(1, .class_ 2), (0, u "java/io/Serializable"), (0, .class_ 4), (0, u "java/lang/Object")] 2

/-- java/io/Serializable -/
def k3 : Class := { plain "java/io/Serializable" (some 0) with
  accessFlags := 1537
  interfaces := #[]
  cf := some (fileOf pool3 1 #[] #[] 1537 3 #[] #[])
  fields := #[]
  methods := #[]
  instanceTypes := #[]
  staticTypes := #[]
  resolved := Array.replicate 7 none
  statics := none }

def pool4 : Array CpInfo := pool [(1, .methodref 2 3), (0, .class_ 4), (0, .nameAndType 5 6), (0, u "java/lang/Object"), (0, u "<init>"), (0, u "()V"), (1, .class_ 10), (1, u "java/lang/Number"), (2, .class_ 14), (0, u "java/io/Serializable"), (0, u "serialVersionUID"), (0, u "J")] 20

def k4c0 : Code := { maxStack := 1, maxLocals := 1, code := jdk_18_method_1_code, exceptionTable := #[], attributes := #[] }
def k4m0 : Method := { name := "<init>", desc := "()V", sig := { parameters := [], returnType := none }, accessFlags := 1, code := some k4c0 }
/-- java/lang/Number -/
def k4 : Class := { plain "java/lang/Number" (some 0) with
  accessFlags := 1057
  interfaces := #[3]
  cf := some (fileOf pool4 8 #[] #[{ accessFlags := 1, nameIndex := 5, descriptorIndex := 6, attributes := #[] }] 1057 2 #[13] #[{ accessFlags := 26, nameIndex := 15, descriptorIndex := 16, attributes := #[] }])
  fields := #[{ name := "serialVersionUID", type := .long, accessFlags := 26, slot := 0, constantValue := 0 }]
  methods := #[k4m0]
  instanceTypes := #[]
  staticTypes := #[.long]
  resolved := Array.replicate 37 none
  statics := none }

def pool5 : Array CpInfo := pool [(1, .class_ 2), (0, u "java/lang/Comparable"), (0, .class_ 4), (0, u "java/lang/Object")] 7

/-- java/lang/Comparable -/
def k5 : Class := { plain "java/lang/Comparable" (some 0) with
  accessFlags := 1537
  interfaces := #[]
  cf := some (fileOf pool5 1 #[] #[] 1537 3 #[] #[])
  fields := #[]
  methods := #[]
  instanceTypes := #[]
  staticTypes := #[]
  resolved := Array.replicate 12 none
  statics := none }

def pool6 : Array CpInfo := pool [(1, .class_ 2), (0, u "java/lang/constant/Constable"), (0, .class_ 4), (0, u "java/lang/Object")] 6

/-- java/lang/constant/Constable -/
def k6 : Class := { plain "java/lang/constant/Constable" (some 0) with
  accessFlags := 1537
  interfaces := #[]
  cf := some (fileOf pool6 1 #[] #[] 1537 3 #[] #[])
  fields := #[]
  methods := #[]
  instanceTypes := #[]
  staticTypes := #[]
  resolved := Array.replicate 11 none
  statics := none }

def pool7 : Array CpInfo := pool [(1, .class_ 2), (0, u "java/lang/constant/ConstantDesc"), (0, .class_ 4), (0, u "java/lang/Object")] 32

/-- java/lang/constant/ConstantDesc -/
def k7 : Class := { plain "java/lang/constant/ConstantDesc" (some 0) with
  accessFlags := 1537
  interfaces := #[]
  cf := some (fileOf pool7 1 #[] #[] 1537 3 #[] #[])
  fields := #[]
  methods := #[]
  instanceTypes := #[]
  staticTypes := #[]
  resolved := Array.replicate 37 none
  statics := none }

def pool8 : Array CpInfo := pool [(1, .class_ 2), (0, u "java/lang/Long"), (55, .nameAndType 59 60), (0, u "<init>"), (0, u "()V"), (24, u "valueOf"), (143, u "(J)Ljava/lang/Long;"), (0, .long 18446744073709551488), (1, .long 127), (1, .fieldref 235 236), (0, .class_ 237), (0, .nameAndType 238 239), (0, u "java/lang/Long$LongCache"), (0, u "cache"), (0, u "[Ljava/lang/Long;"), (0, .methodref 1 241), (0, .nameAndType 59 242), (0, u "(J)V"), (27, .methodref 271 58), (0, .class_ 272), (0, u "java/lang/Number"), (0, .fieldref 1 274), (0, .nameAndType 275 276), (0, u "value"), (0, u "J"), (84, u "TYPE"), (0, u "Ljava/lang/Class;"), (0, .class_ 364), (0, u "java/lang/Comparable"), (0, .class_ 366), (0, u "java/lang/constant/Constable"), (0, .class_ 368), (0, u "java/lang/constant/ConstantDesc"), (0, u "MIN_VALUE"), (1, u "MAX_VALUE"), (4, u "SIZE"), (0, u "I"), (1, u "BYTES"), (1, u "serialVersionUID")] 142

def k8c0 : Code := { maxStack := 4, maxLocals := 3, code := jdk_35_method_24_code, exceptionTable := #[], attributes := #[] }
def k8m0 : Method := { name := "valueOf", desc := "(J)Ljava/lang/Long;", sig := { parameters := [.long], returnType := some (.object "java/lang/Long") }, accessFlags := 9, code := some k8c0 }
def k8c1 : Code := { maxStack := 3, maxLocals := 3, code := jdk_35_method_26_code, exceptionTable := #[], attributes := #[] }
def k8m1 : Method := { name := "<init>", desc := "(J)V", sig := { parameters := [.long], returnType := none }, accessFlags := 1, code := some k8c1 }
/-- java/lang/Long -/
def k8 : Class := { plain "java/lang/Long" (some 4) with
  accessFlags := 49
  interfaces := #[5, 6, 7]
  cf := some (fileOf pool8 1 #[.nestMembers #[235]] #[{ accessFlags := 9, nameIndex := 85, descriptorIndex := 229, attributes := #[] }, { accessFlags := 1, nameIndex := 59, descriptorIndex := 242, attributes := #[] }] 49 271 #[363, 365, 367] #[{ accessFlags := 25, nameIndex := 369, descriptorIndex := 276, attributes := #[] }, { accessFlags := 25, nameIndex := 371, descriptorIndex := 276, attributes := #[] }, { accessFlags := 25, nameIndex := 361, descriptorIndex := 362, attributes := #[] }, { accessFlags := 18, nameIndex := 275, descriptorIndex := 276, attributes := #[] }, { accessFlags := 25, nameIndex := 376, descriptorIndex := 377, attributes := #[] }, { accessFlags := 25, nameIndex := 379, descriptorIndex := 377, attributes := #[] }, { accessFlags := 26, nameIndex := 381, descriptorIndex := 276, attributes := #[] }])
  fields := #[{ name := "MIN_VALUE", type := .long, accessFlags := 25, slot := 0, constantValue := 0 }, { name := "MAX_VALUE", type := .long, accessFlags := 25, slot := 1, constantValue := 0 }, { name := "TYPE", type := (.object "java/lang/Class"), accessFlags := 25, slot := 2, constantValue := 0 }, { name := "value", type := .long, accessFlags := 18, slot := 0, constantValue := 0 }, { name := "SIZE", type := .int, accessFlags := 25, slot := 3, constantValue := 0 }, { name := "BYTES", type := .int, accessFlags := 25, slot := 4, constantValue := 0 }, { name := "serialVersionUID", type := .long, accessFlags := 26, slot := 5, constantValue := 0 }]
  methods := #[k8m0, k8m1]
  instanceTypes := #[.long]
  staticTypes := #[.long, .long, (.object "java/lang/Class"), .int, .int, .long]
  resolved := Array.replicate 524 none
  statics := none }

def pool9 : Array CpInfo := pool [(2, .class_ 4), (1, u "java/lang/Object"), (0, u "<init>"), (0, u "()V"), (0, .class_ 8), (0, u "java/lang/Long"), (7, .class_ 18), (1, u "java/lang/Long$LongCache"), (0, u "$assertionsDisabled"), (0, u "Z"), (8, u "archivedCache"), (0, u "[Ljava/lang/Long;"), (7, u "cache")] 24

def k9m0 : Method := { name := "<init>", desc := "()V", sig := { parameters := [], returnType := none }, accessFlags := 2, code := none }
/-- java/lang/Long$LongCache -/
def k9 : Class := { plain "java/lang/Long$LongCache" (some 0) with
  accessFlags := 48
  interfaces := #[]
  cf := some (fileOf pool9 16 #[.nestHost 7] #[{ accessFlags := 2, nameIndex := 5, descriptorIndex := 6, attributes := #[] }] 48 2 #[] #[{ accessFlags := 24, nameIndex := 38, descriptorIndex := 30, attributes := #[] }, { accessFlags := 8, nameIndex := 29, descriptorIndex := 30, attributes := #[] }, { accessFlags := 4120, nameIndex := 19, descriptorIndex := 20, attributes := #[] }])
  fields := #[{ name := "cache", type := (.array (.object "java/lang/Long")), accessFlags := 24, slot := 0, constantValue := 0 }, { name := "archivedCache", type := (.array (.object "java/lang/Long")), accessFlags := 8, slot := 1, constantValue := 0 }, { name := "$assertionsDisabled", type := .boolean, accessFlags := 4120, slot := 2, constantValue := 0 }]
  methods := #[k9m0]
  instanceTypes := #[]
  staticTypes := #[(.array (.object "java/lang/Long")), (.array (.object "java/lang/Long")), .boolean]
  resolved := Array.replicate 63 none
  statics := some 0 }

def pool10 : Array CpInfo := pool [(1, u "java/lang/Cloneable"), (0, .class_ 1), (0, u "java/lang/Object"), (0, .class_ 3)] 3

/-- java/lang/Cloneable -/
def k10 : Class := { plain "java/lang/Cloneable" (some 0) with
  accessFlags := 1537
  interfaces := #[]
  cf := some (fileOf pool10 2 #[] #[] 1537 4 #[] #[])
  fields := #[]
  methods := #[]
  instanceTypes := #[]
  staticTypes := #[]
  resolved := Array.replicate 8 none
  statics := none }

/-- the primitive byte -/
def k11 : Class := { plain "byte" none with kind := .primitive 'B', accessFlags := 0x411 }
/-- [B -/
def k12 : Class := { plain "[B" (some 0) with kind := .array 11 .byte, interfaces := #[10, 3], accessFlags := 1041 }

/-- the primitive int -/
def k13 : Class := { plain "int" none with kind := .primitive 'I', accessFlags := 0x411 }
/-- [I -/
def k14 : Class := { plain "[I" (some 0) with kind := .array 13 .int, interfaces := #[10, 3], accessFlags := 1041 }

/-- [Ljava/lang/Long; -/
def k15 : Class := { plain "[Ljava/lang/Long;" (some 0) with kind := .array 8 (.object "java/lang/Long"), interfaces := #[10, 3], accessFlags := 1041 }

def heap : Heap := #[{ cls := 9, slots := #[.ref 1, .null, .int 0], vm := .statics 9 },
  { cls := 15, slots := #[.ref 2, .ref 3, .ref 4, .ref 5, .ref 6, .ref 7, .ref 8, .ref 9, .ref 10, .ref 11, .ref 12, .ref 13, .ref 14, .ref 15, .ref 16, .ref 17, .ref 18, .ref 19, .ref 20, .ref 21, .ref 22, .ref 23, .ref 24, .ref 25, .ref 26, .ref 27, .ref 28, .ref 29, .ref 30, .ref 31, .ref 32, .ref 33, .ref 34, .ref 35, .ref 36, .ref 37, .ref 38, .ref 39, .ref 40, .ref 41, .ref 42, .ref 43, .ref 44, .ref 45, .ref 46, .ref 47, .ref 48, .ref 49, .ref 50, .ref 51, .ref 52, .ref 53, .ref 54, .ref 55, .ref 56, .ref 57, .ref 58, .ref 59, .ref 60, .ref 61, .ref 62, .ref 63, .ref 64, .ref 65, .ref 66, .ref 67, .ref 68, .ref 69, .ref 70, .ref 71, .ref 72, .ref 73, .ref 74, .ref 75, .ref 76, .ref 77, .ref 78, .ref 79, .ref 80, .ref 81, .ref 82, .ref 83, .ref 84, .ref 85, .ref 86, .ref 87, .ref 88, .ref 89, .ref 90, .ref 91, .ref 92, .ref 93, .ref 94, .ref 95, .ref 96, .ref 97, .ref 98, .ref 99, .ref 100, .ref 101, .ref 102, .ref 103, .ref 104, .ref 105, .ref 106, .ref 107, .ref 108, .ref 109, .ref 110, .ref 111, .ref 112, .ref 113, .ref 114, .ref 115, .ref 116, .ref 117, .ref 118, .ref 119, .ref 120, .ref 121, .ref 122, .ref 123, .ref 124, .ref 125, .ref 126, .ref 127, .ref 128, .ref 129, .ref 130, .ref 131, .ref 132, .ref 133, .ref 134, .ref 135, .ref 136, .ref 137, .ref 138, .ref 139, .ref 140, .ref 141, .ref 142, .ref 143, .ref 144, .ref 145, .ref 146, .ref 147, .ref 148, .ref 149, .ref 150, .ref 151, .ref 152, .ref 153, .ref 154, .ref 155, .ref 156, .ref 157, .ref 158, .ref 159, .ref 160, .ref 161, .ref 162, .ref 163, .ref 164, .ref 165, .ref 166, .ref 167, .ref 168, .ref 169, .ref 170, .ref 171, .ref 172, .ref 173, .ref 174, .ref 175, .ref 176, .ref 177, .ref 178, .ref 179, .ref 180, .ref 181, .ref 182, .ref 183, .ref 184, .ref 185, .ref 186, .ref 187, .ref 188, .ref 189, .ref 190, .ref 191, .ref 192, .ref 193, .ref 194, .ref 195, .ref 196, .ref 197, .ref 198, .ref 199, .ref 200, .ref 201, .ref 202, .ref 203, .ref 204, .ref 205, .ref 206, .ref 207, .ref 208, .ref 209, .ref 210, .ref 211, .ref 212, .ref 213, .ref 214, .ref 215, .ref 216, .ref 217, .ref 218, .ref 219, .ref 220, .ref 221, .ref 222, .ref 223, .ref 224, .ref 225, .ref 226, .ref 227, .ref 228, .ref 229, .ref 230, .ref 231, .ref 232, .ref 233, .ref 234, .ref 235, .ref 236, .ref 237, .ref 238, .ref 239, .ref 240, .ref 241, .ref 242, .ref 243, .ref 244, .ref 245, .ref 246, .ref 247, .ref 248, .ref 249, .ref 250, .ref 251, .ref 252, .ref 253, .ref 254, .ref 255, .ref 256, .ref 257], vm := .none },
  { cls := 8, slots := #[.long (-128)], vm := .none },
  { cls := 8, slots := #[.long (-127)], vm := .none },
  { cls := 8, slots := #[.long (-126)], vm := .none },
  { cls := 8, slots := #[.long (-125)], vm := .none },
  { cls := 8, slots := #[.long (-124)], vm := .none },
  { cls := 8, slots := #[.long (-123)], vm := .none },
  { cls := 8, slots := #[.long (-122)], vm := .none },
  { cls := 8, slots := #[.long (-121)], vm := .none },
  { cls := 8, slots := #[.long (-120)], vm := .none },
  { cls := 8, slots := #[.long (-119)], vm := .none },
  { cls := 8, slots := #[.long (-118)], vm := .none },
  { cls := 8, slots := #[.long (-117)], vm := .none },
  { cls := 8, slots := #[.long (-116)], vm := .none },
  { cls := 8, slots := #[.long (-115)], vm := .none },
  { cls := 8, slots := #[.long (-114)], vm := .none },
  { cls := 8, slots := #[.long (-113)], vm := .none },
  { cls := 8, slots := #[.long (-112)], vm := .none },
  { cls := 8, slots := #[.long (-111)], vm := .none },
  { cls := 8, slots := #[.long (-110)], vm := .none },
  { cls := 8, slots := #[.long (-109)], vm := .none },
  { cls := 8, slots := #[.long (-108)], vm := .none },
  { cls := 8, slots := #[.long (-107)], vm := .none },
  { cls := 8, slots := #[.long (-106)], vm := .none },
  { cls := 8, slots := #[.long (-105)], vm := .none },
  { cls := 8, slots := #[.long (-104)], vm := .none },
  { cls := 8, slots := #[.long (-103)], vm := .none },
  { cls := 8, slots := #[.long (-102)], vm := .none },
  { cls := 8, slots := #[.long (-101)], vm := .none },
  { cls := 8, slots := #[.long (-100)], vm := .none },
  { cls := 8, slots := #[.long (-99)], vm := .none },
  { cls := 8, slots := #[.long (-98)], vm := .none },
  { cls := 8, slots := #[.long (-97)], vm := .none },
  { cls := 8, slots := #[.long (-96)], vm := .none },
  { cls := 8, slots := #[.long (-95)], vm := .none },
  { cls := 8, slots := #[.long (-94)], vm := .none },
  { cls := 8, slots := #[.long (-93)], vm := .none },
  { cls := 8, slots := #[.long (-92)], vm := .none },
  { cls := 8, slots := #[.long (-91)], vm := .none },
  { cls := 8, slots := #[.long (-90)], vm := .none },
  { cls := 8, slots := #[.long (-89)], vm := .none },
  { cls := 8, slots := #[.long (-88)], vm := .none },
  { cls := 8, slots := #[.long (-87)], vm := .none },
  { cls := 8, slots := #[.long (-86)], vm := .none },
  { cls := 8, slots := #[.long (-85)], vm := .none },
  { cls := 8, slots := #[.long (-84)], vm := .none },
  { cls := 8, slots := #[.long (-83)], vm := .none },
  { cls := 8, slots := #[.long (-82)], vm := .none },
  { cls := 8, slots := #[.long (-81)], vm := .none },
  { cls := 8, slots := #[.long (-80)], vm := .none },
  { cls := 8, slots := #[.long (-79)], vm := .none },
  { cls := 8, slots := #[.long (-78)], vm := .none },
  { cls := 8, slots := #[.long (-77)], vm := .none },
  { cls := 8, slots := #[.long (-76)], vm := .none },
  { cls := 8, slots := #[.long (-75)], vm := .none },
  { cls := 8, slots := #[.long (-74)], vm := .none },
  { cls := 8, slots := #[.long (-73)], vm := .none },
  { cls := 8, slots := #[.long (-72)], vm := .none },
  { cls := 8, slots := #[.long (-71)], vm := .none },
  { cls := 8, slots := #[.long (-70)], vm := .none },
  { cls := 8, slots := #[.long (-69)], vm := .none },
  { cls := 8, slots := #[.long (-68)], vm := .none },
  { cls := 8, slots := #[.long (-67)], vm := .none },
  { cls := 8, slots := #[.long (-66)], vm := .none },
  { cls := 8, slots := #[.long (-65)], vm := .none },
  { cls := 8, slots := #[.long (-64)], vm := .none },
  { cls := 8, slots := #[.long (-63)], vm := .none },
  { cls := 8, slots := #[.long (-62)], vm := .none },
  { cls := 8, slots := #[.long (-61)], vm := .none },
  { cls := 8, slots := #[.long (-60)], vm := .none },
  { cls := 8, slots := #[.long (-59)], vm := .none },
  { cls := 8, slots := #[.long (-58)], vm := .none },
  { cls := 8, slots := #[.long (-57)], vm := .none },
  { cls := 8, slots := #[.long (-56)], vm := .none },
  { cls := 8, slots := #[.long (-55)], vm := .none },
  { cls := 8, slots := #[.long (-54)], vm := .none },
  { cls := 8, slots := #[.long (-53)], vm := .none },
  { cls := 8, slots := #[.long (-52)], vm := .none },
  { cls := 8, slots := #[.long (-51)], vm := .none },
  { cls := 8, slots := #[.long (-50)], vm := .none },
  { cls := 8, slots := #[.long (-49)], vm := .none },
  { cls := 8, slots := #[.long (-48)], vm := .none },
  { cls := 8, slots := #[.long (-47)], vm := .none },
  { cls := 8, slots := #[.long (-46)], vm := .none },
  { cls := 8, slots := #[.long (-45)], vm := .none },
  { cls := 8, slots := #[.long (-44)], vm := .none },
  { cls := 8, slots := #[.long (-43)], vm := .none },
  { cls := 8, slots := #[.long (-42)], vm := .none },
  { cls := 8, slots := #[.long (-41)], vm := .none },
  { cls := 8, slots := #[.long (-40)], vm := .none },
  { cls := 8, slots := #[.long (-39)], vm := .none },
  { cls := 8, slots := #[.long (-38)], vm := .none },
  { cls := 8, slots := #[.long (-37)], vm := .none },
  { cls := 8, slots := #[.long (-36)], vm := .none },
  { cls := 8, slots := #[.long (-35)], vm := .none },
  { cls := 8, slots := #[.long (-34)], vm := .none },
  { cls := 8, slots := #[.long (-33)], vm := .none },
  { cls := 8, slots := #[.long (-32)], vm := .none },
  { cls := 8, slots := #[.long (-31)], vm := .none },
  { cls := 8, slots := #[.long (-30)], vm := .none },
  { cls := 8, slots := #[.long (-29)], vm := .none },
  { cls := 8, slots := #[.long (-28)], vm := .none },
  { cls := 8, slots := #[.long (-27)], vm := .none },
  { cls := 8, slots := #[.long (-26)], vm := .none },
  { cls := 8, slots := #[.long (-25)], vm := .none },
  { cls := 8, slots := #[.long (-24)], vm := .none },
  { cls := 8, slots := #[.long (-23)], vm := .none },
  { cls := 8, slots := #[.long (-22)], vm := .none },
  { cls := 8, slots := #[.long (-21)], vm := .none },
  { cls := 8, slots := #[.long (-20)], vm := .none },
  { cls := 8, slots := #[.long (-19)], vm := .none },
  { cls := 8, slots := #[.long (-18)], vm := .none },
  { cls := 8, slots := #[.long (-17)], vm := .none },
  { cls := 8, slots := #[.long (-16)], vm := .none },
  { cls := 8, slots := #[.long (-15)], vm := .none },
  { cls := 8, slots := #[.long (-14)], vm := .none },
  { cls := 8, slots := #[.long (-13)], vm := .none },
  { cls := 8, slots := #[.long (-12)], vm := .none },
  { cls := 8, slots := #[.long (-11)], vm := .none },
  { cls := 8, slots := #[.long (-10)], vm := .none },
  { cls := 8, slots := #[.long (-9)], vm := .none },
  { cls := 8, slots := #[.long (-8)], vm := .none },
  { cls := 8, slots := #[.long (-7)], vm := .none },
  { cls := 8, slots := #[.long (-6)], vm := .none },
  { cls := 8, slots := #[.long (-5)], vm := .none },
  { cls := 8, slots := #[.long (-4)], vm := .none },
  { cls := 8, slots := #[.long (-3)], vm := .none },
  { cls := 8, slots := #[.long (-2)], vm := .none },
  { cls := 8, slots := #[.long (-1)], vm := .none },
  { cls := 8, slots := #[.long 0], vm := .none },
  { cls := 8, slots := #[.long 1], vm := .none },
  { cls := 8, slots := #[.long 2], vm := .none },
  { cls := 8, slots := #[.long 3], vm := .none },
  { cls := 8, slots := #[.long 4], vm := .none },
  { cls := 8, slots := #[.long 5], vm := .none },
  { cls := 8, slots := #[.long 6], vm := .none },
  { cls := 8, slots := #[.long 7], vm := .none },
  { cls := 8, slots := #[.long 8], vm := .none },
  { cls := 8, slots := #[.long 9], vm := .none },
  { cls := 8, slots := #[.long 10], vm := .none },
  { cls := 8, slots := #[.long 11], vm := .none },
  { cls := 8, slots := #[.long 12], vm := .none },
  { cls := 8, slots := #[.long 13], vm := .none },
  { cls := 8, slots := #[.long 14], vm := .none },
  { cls := 8, slots := #[.long 15], vm := .none },
  { cls := 8, slots := #[.long 16], vm := .none },
  { cls := 8, slots := #[.long 17], vm := .none },
  { cls := 8, slots := #[.long 18], vm := .none },
  { cls := 8, slots := #[.long 19], vm := .none },
  { cls := 8, slots := #[.long 20], vm := .none },
  { cls := 8, slots := #[.long 21], vm := .none },
  { cls := 8, slots := #[.long 22], vm := .none },
  { cls := 8, slots := #[.long 23], vm := .none },
  { cls := 8, slots := #[.long 24], vm := .none },
  { cls := 8, slots := #[.long 25], vm := .none },
  { cls := 8, slots := #[.long 26], vm := .none },
  { cls := 8, slots := #[.long 27], vm := .none },
  { cls := 8, slots := #[.long 28], vm := .none },
  { cls := 8, slots := #[.long 29], vm := .none },
  { cls := 8, slots := #[.long 30], vm := .none },
  { cls := 8, slots := #[.long 31], vm := .none },
  { cls := 8, slots := #[.long 32], vm := .none },
  { cls := 8, slots := #[.long 33], vm := .none },
  { cls := 8, slots := #[.long 34], vm := .none },
  { cls := 8, slots := #[.long 35], vm := .none },
  { cls := 8, slots := #[.long 36], vm := .none },
  { cls := 8, slots := #[.long 37], vm := .none },
  { cls := 8, slots := #[.long 38], vm := .none },
  { cls := 8, slots := #[.long 39], vm := .none },
  { cls := 8, slots := #[.long 40], vm := .none },
  { cls := 8, slots := #[.long 41], vm := .none },
  { cls := 8, slots := #[.long 42], vm := .none },
  { cls := 8, slots := #[.long 43], vm := .none },
  { cls := 8, slots := #[.long 44], vm := .none },
  { cls := 8, slots := #[.long 45], vm := .none },
  { cls := 8, slots := #[.long 46], vm := .none },
  { cls := 8, slots := #[.long 47], vm := .none },
  { cls := 8, slots := #[.long 48], vm := .none },
  { cls := 8, slots := #[.long 49], vm := .none },
  { cls := 8, slots := #[.long 50], vm := .none },
  { cls := 8, slots := #[.long 51], vm := .none },
  { cls := 8, slots := #[.long 52], vm := .none },
  { cls := 8, slots := #[.long 53], vm := .none },
  { cls := 8, slots := #[.long 54], vm := .none },
  { cls := 8, slots := #[.long 55], vm := .none },
  { cls := 8, slots := #[.long 56], vm := .none },
  { cls := 8, slots := #[.long 57], vm := .none },
  { cls := 8, slots := #[.long 58], vm := .none },
  { cls := 8, slots := #[.long 59], vm := .none },
  { cls := 8, slots := #[.long 60], vm := .none },
  { cls := 8, slots := #[.long 61], vm := .none },
  { cls := 8, slots := #[.long 62], vm := .none },
  { cls := 8, slots := #[.long 63], vm := .none },
  { cls := 8, slots := #[.long 64], vm := .none },
  { cls := 8, slots := #[.long 65], vm := .none },
  { cls := 8, slots := #[.long 66], vm := .none },
  { cls := 8, slots := #[.long 67], vm := .none },
  { cls := 8, slots := #[.long 68], vm := .none },
  { cls := 8, slots := #[.long 69], vm := .none },
  { cls := 8, slots := #[.long 70], vm := .none },
  { cls := 8, slots := #[.long 71], vm := .none },
  { cls := 8, slots := #[.long 72], vm := .none },
  { cls := 8, slots := #[.long 73], vm := .none },
  { cls := 8, slots := #[.long 74], vm := .none },
  { cls := 8, slots := #[.long 75], vm := .none },
  { cls := 8, slots := #[.long 76], vm := .none },
  { cls := 8, slots := #[.long 77], vm := .none },
  { cls := 8, slots := #[.long 78], vm := .none },
  { cls := 8, slots := #[.long 79], vm := .none },
  { cls := 8, slots := #[.long 80], vm := .none },
  { cls := 8, slots := #[.long 81], vm := .none },
  { cls := 8, slots := #[.long 82], vm := .none },
  { cls := 8, slots := #[.long 83], vm := .none },
  { cls := 8, slots := #[.long 84], vm := .none },
  { cls := 8, slots := #[.long 85], vm := .none },
  { cls := 8, slots := #[.long 86], vm := .none },
  { cls := 8, slots := #[.long 87], vm := .none },
  { cls := 8, slots := #[.long 88], vm := .none },
  { cls := 8, slots := #[.long 89], vm := .none },
  { cls := 8, slots := #[.long 90], vm := .none },
  { cls := 8, slots := #[.long 91], vm := .none },
  { cls := 8, slots := #[.long 92], vm := .none },
  { cls := 8, slots := #[.long 93], vm := .none },
  { cls := 8, slots := #[.long 94], vm := .none },
  { cls := 8, slots := #[.long 95], vm := .none },
  { cls := 8, slots := #[.long 96], vm := .none },
  { cls := 8, slots := #[.long 97], vm := .none },
  { cls := 8, slots := #[.long 98], vm := .none },
  { cls := 8, slots := #[.long 99], vm := .none },
  { cls := 8, slots := #[.long 100], vm := .none },
  { cls := 8, slots := #[.long 101], vm := .none },
  { cls := 8, slots := #[.long 102], vm := .none },
  { cls := 8, slots := #[.long 103], vm := .none },
  { cls := 8, slots := #[.long 104], vm := .none },
  { cls := 8, slots := #[.long 105], vm := .none },
  { cls := 8, slots := #[.long 106], vm := .none },
  { cls := 8, slots := #[.long 107], vm := .none },
  { cls := 8, slots := #[.long 108], vm := .none },
  { cls := 8, slots := #[.long 109], vm := .none },
  { cls := 8, slots := #[.long 110], vm := .none },
  { cls := 8, slots := #[.long 111], vm := .none },
  { cls := 8, slots := #[.long 112], vm := .none },
  { cls := 8, slots := #[.long 113], vm := .none },
  { cls := 8, slots := #[.long 114], vm := .none },
  { cls := 8, slots := #[.long 115], vm := .none },
  { cls := 8, slots := #[.long 116], vm := .none },
  { cls := 8, slots := #[.long 117], vm := .none },
  { cls := 8, slots := #[.long 118], vm := .none },
  { cls := 8, slots := #[.long 119], vm := .none },
  { cls := 8, slots := #[.long 120], vm := .none },
  { cls := 8, slots := #[.long 121], vm := .none },
  { cls := 8, slots := #[.long 122], vm := .none },
  { cls := 8, slots := #[.long 123], vm := .none },
  { cls := 8, slots := #[.long 124], vm := .none },
  { cls := 8, slots := #[.long 125], vm := .none },
  { cls := 8, slots := #[.long 126], vm := .none },
  { cls := 8, slots := #[.long 127], vm := .none }]
def classes : Array Class := #[k0, k1, k2, k3, k4, k5, k6, k7, k8, k9, k10, k11, k12, k13, k14, k15]
def interned : List (Array UInt16 × Addr) := []
def slotsUsed : Nat := 515
def theMethod : MethodId := ⟨1, 2⟩
def args0 : Array Value := #[.long 5, .long 6, .long 7, .long 8, .long 9, .int 3]
def aboutOver (below : List Frame) : State where
  vm := { classes := classes, interned := interned.toArray }
  heap := heap
  slotsUsed := slotsUsed
  threads := #[{ frames := .invoking theMethod args0 :: below }]
def below0 : List Frame := [.native { method := ⟨0, 0⟩, args := #[] }]
def about1 : State := aboutOver below0
def p0 : Program := .bare "" "" ""
def e0 : Env := launch0.env 0 0 0
theorem w_frames : about1.frames = Frame.invoking theMethod args0 :: below0 := rfl
set_option maxRecDepth 65536 in
theorem w_args : argsFit about1.vm theMethod args0 = true := by decide +kernel
set_option maxRecDepth 65536 in
theorem w_heap : heapFits about1 = true := by decide +kernel
set_option maxRecDepth 65536 in
theorem w_runnable : about1.curStatus? = some .runnable := by decide +kernel
set_option maxRecDepth 65536 in
theorem w_alone : about1.alone = true := by decide +kernel
set_option maxRecDepth 65536 in
theorem w_named : about1.methodNamed? x = some theMethod := by decide +kernel
set_option maxRecDepth 65536 in
theorem w_hears : about1.hears theMethod below0 = true := by decide +kernel
set_option maxRecDepth 65536 in
theorem w_ripe : about1.ripe theMethod args0 below0 = true := by decide +kernel
theorem w_running : about1.status = .running := rfl
set_option maxRecDepth 65536 in
theorem w_room : about1.hasRoom e0.platform room_1 = true :=
  launch0.hasRoom_least _ room_1 (by decide +kernel) (by decide +kernel) (by decide +kernel) (by decide +kernel) (by decide +kernel) (by decide +kernel)
theorem allAtoms_all (ts : List Jvm.Cond) (a : Array Jvm.Value) (st : Jvm.State) : (allAtoms ts).before a st = ts.all (fun c => c.before a st) := by
  induction ts with
  | nil => rfl
  | cons c t ih =>
    show (Jvm.Cond.and c (allAtoms t)).before a st = _
    rw [Jvm.Cond.before_and, ih, List.all_cons]
def words1 : List Jvm.Cond := Jvm.Cond.code x code maxLocals ret :: tables_1
/-- a 'code' word, met by the world's own term for the bytes: nothing is compared byte by byte -/
theorem code_word {y : MethodName} {bytes : ByteArray} {mx : Nat} {rt : Option FieldType} {a : Array Value} {s : State} {m : MethodId} {meth : Method} {c : Code} (h1 : s.methodNamed? y = some m) (h2 : s.vm.method? m = some meth) (h3 : meth.code = some c) (h4 : c.code = bytes)
    (h5 : (c.maxLocals == mx && c.exceptionTable.isEmpty && decide (c.maxStack ≤ mostOperands) && decide (meth.sig.returnType = rt) && !meth.locks && decide (parseMethodDescriptor y.desc = some meth.sig)) = true) : (Jvm.Cond.code y bytes mx rt).before a s = true := by
  simp only [Bool.and_eq_true, beq_iff_eq, Bool.not_eq_true', decide_eq_true_eq] at h5
  obtain ⟨⟨⟨⟨⟨g1, g2⟩, g3⟩, g4⟩, g5⟩, g6⟩ := h5
  simp [Cond.before, Cond.holds, Cond.value, h1, h2, h3, h4, g1, g2, g3, g4, g5, g6]
def isCode : Jvm.Cond → Bool
  | .code _ _ _ _ => true
  | _ => false
theorem all_split {L : List Jvm.Cond} {P : Jvm.Cond → Bool} (h1 : L.all (fun c => isCode c || P c) = true) (h2 : ∀ c ∈ L.filter isCode, P c = true) : L.all P = true := by
  refine List.all_eq_true.mpr fun c hc => ?_
  have h := List.all_eq_true.mp h1 c hc
  rcases Bool.eq_false_or_eq_true (isCode c) with hi | hi
  · exact h2 c (List.mem_filter.mpr ⟨hc, hi⟩)
  · simpa [hi] using h
set_option maxRecDepth 65536 in
theorem w_c0 : (Jvm.Cond.code x code maxLocals ret).before args0 about1 = true := code_word (m := ⟨1, 2⟩) (meth := k1m2) (c := k1c2) (by decide +kernel) rfl rfl rfl (by decide +kernel)
set_option maxRecDepth 65536 in
theorem w_c1 : (Jvm.Cond.code ({ cls := "com/example/rillgraph/rillgraph/core/input/SnapEdgeEqualsPinLaw", name := "make", desc := "(JJZJ)Lcom/example/rillgraph/rillgraph/core/input/SnapEdge;" } : Jvm.MethodName) method_2_code (7 : Nat) (Option.some (Jvm.ClassFile.FieldType.object "com/example/rillgraph/rillgraph/core/input/SnapEdge"))).before args0 about1 = true := code_word (m := ⟨1, 1⟩) (meth := k1m1) (c := k1c1) (by decide +kernel) rfl rfl rfl (by decide +kernel)
set_option maxRecDepth 65536 in
theorem w_c2 : (Jvm.Cond.code ({ cls := "com/example/rillgraph/rillgraph/core/input/SnapEdge", name := "<init>", desc := "(JJ)V" } : Jvm.MethodName) prog_58_method_1_code (5 : Nat) (Option.none : Option Jvm.ClassFile.FieldType)).before args0 about1 = true := code_word (m := ⟨2, 0⟩) (meth := k2m0) (c := k2c0) (by decide +kernel) rfl rfl rfl (by decide +kernel)
set_option maxRecDepth 65536 in
theorem w_c3 : (Jvm.Cond.code ({ cls := "com/example/rillgraph/rillgraph/core/input/SnapEdge", name := "<init>", desc := "(JJZJ)V" } : Jvm.MethodName) prog_58_method_3_code (8 : Nat) (Option.none : Option Jvm.ClassFile.FieldType)).before args0 about1 = true := code_word (m := ⟨2, 2⟩) (meth := k2m2) (c := k2c2) (by decide +kernel) rfl rfl rfl (by decide +kernel)
set_option maxRecDepth 65536 in
theorem w_c4 : (Jvm.Cond.code ({ cls := "java/lang/Object", name := "<init>", desc := "()V" } : Jvm.MethodName) object_method_1_code (1 : Nat) (Option.none : Option Jvm.ClassFile.FieldType)).before args0 about1 = true := code_word (m := ⟨0, 0⟩) (meth := k0m0) (c := k0c0) (by decide +kernel) rfl rfl rfl (by decide +kernel)
set_option maxRecDepth 65536 in
theorem w_c5 : (Jvm.Cond.code ({ cls := "com/example/rillgraph/rillgraph/core/input/SnapEdge", name := "equals", desc := "(Ljava/lang/Object;)Z" } : Jvm.MethodName) prog_58_method_9_code (3 : Nat) (Option.some Jvm.ClassFile.FieldType.boolean)).before args0 about1 = true := code_word (m := ⟨2, 3⟩) (meth := k2m3) (c := k2c3) (by decide +kernel) rfl rfl rfl (by decide +kernel)
set_option maxRecDepth 65536 in
theorem w_c6 : (Jvm.Cond.code ({ cls := "com/example/rillgraph/rillgraph/core/input/SnapEdge", name := "<init>", desc := "(JJJ)V" } : Jvm.MethodName) prog_58_method_2_code (7 : Nat) (Option.none : Option Jvm.ClassFile.FieldType)).before args0 about1 = true := code_word (m := ⟨2, 1⟩) (meth := k2m1) (c := k2c1) (by decide +kernel) rfl rfl rfl (by decide +kernel)
set_option maxRecDepth 65536 in
theorem w_c7 : (Jvm.Cond.code ({ cls := "java/lang/Long", name := "valueOf", desc := "(J)Ljava/lang/Long;" } : Jvm.MethodName) jdk_35_method_24_code (3 : Nat) (Option.some (Jvm.ClassFile.FieldType.object "java/lang/Long"))).before args0 about1 = true := code_word (m := ⟨8, 0⟩) (meth := k8m0) (c := k8c0) (by decide +kernel) rfl rfl rfl (by decide +kernel)
set_option maxRecDepth 65536 in
theorem w_c8 : (Jvm.Cond.code ({ cls := "java/lang/Long", name := "<init>", desc := "(J)V" } : Jvm.MethodName) jdk_35_method_26_code (3 : Nat) (Option.none : Option Jvm.ClassFile.FieldType)).before args0 about1 = true := code_word (m := ⟨8, 1⟩) (meth := k8m1) (c := k8c1) (by decide +kernel) rfl rfl rfl (by decide +kernel)
set_option maxRecDepth 65536 in
theorem w_c9 : (Jvm.Cond.code ({ cls := "java/lang/Number", name := "<init>", desc := "()V" } : Jvm.MethodName) jdk_18_method_1_code (1 : Nat) (Option.none : Option Jvm.ClassFile.FieldType)).before args0 about1 = true := code_word (m := ⟨4, 0⟩) (meth := k4m0) (c := k4c0) (by decide +kernel) rfl rfl rfl (by decide +kernel)
def codes1 : List Jvm.Cond := [Jvm.Cond.code x code maxLocals ret, Jvm.Cond.code ({ cls := "com/example/rillgraph/rillgraph/core/input/SnapEdgeEqualsPinLaw", name := "make", desc := "(JJZJ)Lcom/example/rillgraph/rillgraph/core/input/SnapEdge;" } : Jvm.MethodName) method_2_code (7 : Nat) (Option.some (Jvm.ClassFile.FieldType.object "com/example/rillgraph/rillgraph/core/input/SnapEdge")), Jvm.Cond.code ({ cls := "com/example/rillgraph/rillgraph/core/input/SnapEdge", name := "<init>", desc := "(JJ)V" } : Jvm.MethodName) prog_58_method_1_code (5 : Nat) (Option.none : Option Jvm.ClassFile.FieldType), Jvm.Cond.code ({ cls := "com/example/rillgraph/rillgraph/core/input/SnapEdge", name := "<init>", desc := "(JJZJ)V" } : Jvm.MethodName) prog_58_method_3_code (8 : Nat) (Option.none : Option Jvm.ClassFile.FieldType), Jvm.Cond.code ({ cls := "java/lang/Object", name := "<init>", desc := "()V" } : Jvm.MethodName) object_method_1_code (1 : Nat) (Option.none : Option Jvm.ClassFile.FieldType), Jvm.Cond.code ({ cls := "com/example/rillgraph/rillgraph/core/input/SnapEdge", name := "equals", desc := "(Ljava/lang/Object;)Z" } : Jvm.MethodName) prog_58_method_9_code (3 : Nat) (Option.some Jvm.ClassFile.FieldType.boolean), Jvm.Cond.code ({ cls := "com/example/rillgraph/rillgraph/core/input/SnapEdge", name := "<init>", desc := "(JJJ)V" } : Jvm.MethodName) prog_58_method_2_code (7 : Nat) (Option.none : Option Jvm.ClassFile.FieldType), Jvm.Cond.code ({ cls := "java/lang/Long", name := "valueOf", desc := "(J)Ljava/lang/Long;" } : Jvm.MethodName) jdk_35_method_24_code (3 : Nat) (Option.some (Jvm.ClassFile.FieldType.object "java/lang/Long")), Jvm.Cond.code ({ cls := "java/lang/Long", name := "<init>", desc := "(J)V" } : Jvm.MethodName) jdk_35_method_26_code (3 : Nat) (Option.none : Option Jvm.ClassFile.FieldType), Jvm.Cond.code ({ cls := "java/lang/Number", name := "<init>", desc := "()V" } : Jvm.MethodName) jdk_18_method_1_code (1 : Nat) (Option.none : Option Jvm.ClassFile.FieldType)]
set_option maxRecDepth 65536 in
theorem codes_eq : words1.filter isCode = codes1 := rfl
theorem w_codes : ∀ c ∈ words1.filter isCode, c.before args0 about1 = true := by
  rw [codes_eq]
  intro c hc
  simp only [codes1, List.mem_cons, List.not_mem_nil, or_false] at hc
  rcases hc with rfl | rfl | rfl | rfl | rfl | rfl | rfl | rfl | rfl | rfl
  · exact w_c0
  · exact w_c1
  · exact w_c2
  · exact w_c3
  · exact w_c4
  · exact w_c5
  · exact w_c6
  · exact w_c7
  · exact w_c8
  · exact w_c9
set_option maxRecDepth 65536 in
theorem w_t1 : (words1.take 24).all (fun c => isCode c || c.before args0 about1) = true := by decide +kernel
set_option maxRecDepth 65536 in
theorem w_t2 : ((words1.drop 24).take 24).all (fun c => isCode c || c.before args0 about1) = true := by decide +kernel
set_option maxRecDepth 65536 in
theorem w_t3 : ((words1.drop 24).drop 24).all (fun c => isCode c || c.before args0 about1) = true := by decide +kernel
theorem w_tables : (allAtoms (Jvm.Cond.code x code maxLocals ret :: tables_1)).before args0 about1 = true := by
  rw [allAtoms_all]
  show words1.all (fun c => c.before args0 about1) = true
  refine all_split ?_ w_codes
  rw [← List.take_append_drop 24 words1, List.all_append, w_t1, ← List.take_append_drop 24 (words1.drop 24), List.all_append, w_t2, w_t3]
  rfl
set_option maxRecDepth 65536 in
theorem w_rest : rest_1_c.before args0 about1 = true := by decide +kernel
set_option maxRecDepth 65536 in
theorem w_case : (Jvm.Cond.and given_1 narrow_1).before args0 about1 = true := by decide +kernel
theorem w_applies : (headSpec (Jvm.Cond.code x code maxLocals ret :: tables_1) room_1).applies x e0.platform about1 = true :=
  (Spec.applies_iff w_frames).mpr ⟨w_running, w_runnable, w_alone, w_named, w_hears, w_ripe, w_room, w_tables⟩
theorem atStart : AtStart classFile x code maxLocals ret World_1 tables_1 room_1 Calls_1 rest_1 Pre_1 launch0 p0 e0 about1 theMethod args0 below0 :=
  ⟨lists_1, trivial, launch0.admits_env _ _ _, launch0.least_env, fairChoices_fair.cas, fairChoices_fair.clock, w_frames, w_args, w_heap, w_applies, trivial, w_rest, w_case⟩
end start1
theorem witness_1 : WitnessClaimed_1 := ⟨start1.p0, start1.e0, start1.about1, start1.theMethod, start1.args0, start1.below0, start1.atStart⟩
end Jvm.Pilot.@@N@@
