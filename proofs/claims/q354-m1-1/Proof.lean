import JvmDerived
import JvmDerived.Pilot.@@N@@Statement
import JvmDerived.Pilot.@@N@@Code
set_option linter.unusedVariables false
set_option linter.unusedSimpArgs false
namespace Jvm.Pilot.@@N@@
open Jvm Jvm.ClassFile Sem Op Lib Jvm.Free Jvm.Stand Jvm.LawKit Jvm.RoadKit Bundle Jvm.Pilot.@@N@@.Jvm.D
/-- from t the run comes to an end of which P holds -/
def Goes (tb : Tables) (e : Env) (below : List Frame) (P : Outcome → State → Prop) (t : State) : Prop := ∃ s₂ o, Steps tb e below t s₂ ∧ s₂.status = .running ∧ Ended s₂ below o ∧ P o s₂
theorem Goes.on {tb : Tables} {e : Env} {below : List Frame} {P : Outcome → State → Prop} {t t' : State} (h : ∀ target, Steps tb e below t' target → Steps tb e below t target) (k : Goes tb e below P t') : Goes tb e below P t := by
  obtain ⟨s₂, o, h1, h2⟩ := k
  exact ⟨s₂, o, h _ h1, h2⟩
theorem Goes.to {tb : Tables} {e : Env} {below : List Frame} {P : Outcome → State → Prop} {t t' : State} (h : Steps tb e below t t') (k : Goes tb e below P t') : Goes tb e below P t := k.on fun _ q => h.trans q
/-- what a body's end says -/
def Ends (s : State) (Q : Option Value → Heap → List Loc → Prop) (C S : Nat) (o : Outcome) (U : State) : Prop := ∃ v L, o = .returned v ∧ Q v U.heap L ∧ FrameEnd s o U L C S
/-- a body's contract -/
def Met (l : Launch) (Z : State) (y : MethodName) (bytes : ByteArray) (maxL : Nat) (ret : Option FieldType) (rm : Room) (ws : List Jvm.Cond) (as' : Array Value) (h0 : Heap) (Q : Option Value → Heap → List Loc → Prop) : Prop :=
  MetFree l y (head1 (Jvm.Cond.code y bytes maxL ret :: ws) rm) (fun a U => a = as' ∧ Z.Warmed39 U.vm ∧ U.heap = h0) (fun _ _ _ _ _ => True) (fun _ U o U' => ∃ v L, o = .returned v ∧ Q v U'.heap L ∧ FrameEnd U o U' L rm.cells rm.slots)
section Own
variable {p : Program} {l : Launch} {e : Env} {R : Room} {s : State} {m : MethodId} {args : Array Value} {below : List Frame} {meth : Method} {c : Code} {T : State} {locs : List Loc} {cells slots cells' slots' : Nat} {Z : State} {a0 : Array Value} {h : Heap} {P : Outcome → State → Prop} {pc pc' : Nat} {L L' : Array Slot} {S : List Value}
theorem met_of {y : MethodName} {bytes : ByteArray} {maxL : Nat} {ret : Option FieldType} {rm : Room} {ws : List Jvm.Cond} {as' : Array Value} {h0 : Heap} {Q : Option Value → Heap → List Loc → Prop} {L0 : Array Slot}
    (hpn : plainFor y = true) (hef : ∀ m, entryFrame m as' maxL = mkF m 0 L0 [])
    (body : ∀ (p : Program) (e : Env) (s : State) (m : MethodId) (below : List Frame) (meth : Method) (c : Code) (T : State), p.tables.exec = Jvm.exec → c.code = bytes → c.maxLocals = maxL → s.vm.findClass y.cls = some m.cls → meth.name = y.name → meth.sig.returnType = ret → meth.locks = false → Z.Warmed39 s.vm → Stand p l e rm s m as' below meth c T [] 0 0 → T.heap = h0 → Goes p.tables e below (Ends s Q rm.cells rm.slots) (T.setTop (mkF m 0 L0 []))) :
    Met l Z y bytes maxL ret rm ws as' h0 Q := by
  refine MetFree.of_bodySF hpn hisR ?_
  intro p e s m args below meth c s₁ Bd hml0 hP hK
  obtain ⟨rfl, hZ, hh⟩ := hP
  have e0 : s₁.heap = h0 := by rw [← hh, Bd.state]; rfl
  obtain ⟨s₂, o, h1, h2, h3, h4⟩ := body p e s m below meth c s₁ Bd.exec Bd.bytes hml0 (findClass_of_methodNamed Bd.named) (name_of_methodNamed Bd.named Bd.method).1 Bd.returns (BodyLoose.notSynchronized Bd) hZ (Stand.of_body Bd) e0
  exact ⟨s₂, o, castTop (hef m) h1, h2, h3, h4⟩
theorem o_cat {v : Value} (h : v.isRef = true) : v.category = 1 := by rcases ref_cases h with rfl | ⟨a, rfl⟩ <;> rfl
theorem o_nar {C : String} {v : Value} (h : v.isRef = true) : narrow (.object C) v = v := by rcases ref_cases h with rfl | ⟨a, rfl⟩ <;> rfl
theorem o_fit {C : String} {v : Value} (h : v.isRef = true) : fits (.object C) v = true := by rcases ref_cases h with rfl | ⟨a, rfl⟩ <;> rfl
theorem o_nar01 {z : Int32} (h : z = 0 ∨ z = 1) : narrow .boolean (.int z) = .int z := by rcases h with rfl | rfl <;> rfl
theorem o_fit01 {z : Int32} (h : z = 0 ∨ z = 1) : fits .boolean (.int z) = true := by rcases h with rfl | rfl <;> rfl
theorem o_ret (X : Stand p l e R s m args below meth c T locs cells slots) (hx : p.tables.exec = Jvm.exec) (hlk : meth.locks = false) {w : Value} {t : FieldType} {i : Instr} {Q : Option Value → Heap → List Loc → Prop} {C Sl : Nat} (hret : meth.sig.returnType = some t) (hn : narrow t w = w)
    (hi : (i = .ireturn ∧ (t = .int ∨ t = .boolean ∨ t = .byte ∨ t = .char ∨ t = .short) ∧ ∃ z, w = .int z) ∨ (i = .lreturn ∧ t = .long ∧ ∃ z, w = .long z) ∨ (i = .dreturn ∧ t = .double ∧ ∃ z, w = .double z) ∨ (i = .freturn ∧ t = .float ∧ ∃ z, w = .float z) ∨ (i = .areturn ∧ t.isReference = true ∧ w.isRef = true))
    (hd : decode c.code pc = .ok (i, 1)) (hC : cells ≤ C) (hS : slots ≤ Sl) (eT : T.heap = h) (hq : Q (some w) h locs) : Goes p.tables e below (Ends s Q C Sl) (T.setTop (mkF m pc L (w :: S))) := by
  subst eT
  obtain ⟨fs, hr, hrun, hended, hW, hsame⟩ := X.leave (v := some w) (fun h => by rw [hret] at h; cases h) hlk
  exact ⟨_, _, retOut X hx hret hn hi hd hr, hrun, hended, _, _, rfl, hq, ⟨_, rfl⟩, hW, hsame.mono hC hS⟩
theorem o_retV (X : Stand p l e R s m args below meth c T locs cells slots) (hx : p.tables.exec = Jvm.exec) (hlk : meth.locks = false) {Q : Option Value → Heap → List Loc → Prop} {C Sl : Nat} (hret : meth.sig.returnType = none) (hd : decode c.code pc = .ok (.return_, 1)) (hC : cells ≤ C) (hS : slots ≤ Sl) (eT : T.heap = h) (hq : Q none h locs) :
    Goes p.tables e below (Ends s Q C Sl) (T.setTop (mkF m pc L [])) := by
  subst eT
  obtain ⟨fs, hr, hrun, hended, hW, hsame⟩ := X.leave (v := none) (fun _ => rfl) hlk
  exact ⟨_, _, X.returnOut hx hret hd hr, hrun, hended, _, _, rfl, hq, ⟨_, rfl⟩, hW, hsame.mono hC hS⟩
theorem o_iloadN (X : Stand p l e R s m args below meth c T locs cells slots) (hx : p.tables.exec = Jvm.exec) {k : Fin 4} {v : Int32} (hd : decode c.code pc = .ok (.iload_n k, 1)) (hl : L[k.val]? = some (.val (.int v))) (hp : pc + 1 = pc') (kk : Goes p.tables e below P (T.setTop (mkF m pc' L (.int v :: S)))) : Goes p.tables e below P (T.setTop (mkF m pc L S)) := by
  subst hp; exact kk.on fun _ k => XS.iloadN X.here hx rfl hd hl k
theorem o_iload (X : Stand p l e R s m args below meth c T locs cells slots) (hx : p.tables.exec = Jvm.exec) {k : Nat} {v : Int32} (hd : decode c.code pc = .ok (.iload k, 2)) (hl : L[k]? = some (.val (.int v))) (hp : pc + 2 = pc') (kk : Goes p.tables e below P (T.setTop (mkF m pc' L (.int v :: S)))) : Goes p.tables e below P (T.setTop (mkF m pc L S)) := by
  subst hp; exact kk.on fun _ k => XS.iload X.here hx rfl hd hl k
theorem o_istoreN (X : Stand p l e R s m args below meth c T locs cells slots) (hx : p.tables.exec = Jvm.exec) {k : Fin 4} {x : Int32} (hd : decode c.code pc = .ok (.istore_n k, 1)) (hl : storeLocals L k.val (.int x) = some L') (hp : pc + 1 = pc') (kk : Goes p.tables e below P (T.setTop (mkF m pc' L' S))) : Goes p.tables e below P (T.setTop (mkF m pc L (.int x :: S))) := by
  subst hp; exact kk.on fun _ k => XS.istoreN X.here hx rfl hd rfl hl k
theorem o_istore (X : Stand p l e R s m args below meth c T locs cells slots) (hx : p.tables.exec = Jvm.exec) {k : Nat} {x : Int32} (hd : decode c.code pc = .ok (.istore k, 2)) (hl : storeLocals L k (.int x) = some L') (hp : pc + 2 = pc') (kk : Goes p.tables e below P (T.setTop (mkF m pc' L' S))) : Goes p.tables e below P (T.setTop (mkF m pc L (.int x :: S))) := by
  subst hp; exact kk.on fun _ k => XS.istore X.here hx rfl hd rfl hl k
theorem o_lloadN (X : Stand p l e R s m args below meth c T locs cells slots) (hx : p.tables.exec = Jvm.exec) {k : Fin 4} {v : Int64} (hd : decode c.code pc = .ok (.lload_n k, 1)) (hl : L[k.val]? = some (.val (.long v))) (hp : pc + 1 = pc') (kk : Goes p.tables e below P (T.setTop (mkF m pc' L (.long v :: S)))) : Goes p.tables e below P (T.setTop (mkF m pc L S)) := by
  subst hp; exact kk.on fun _ k => XS.lloadN X.here hx rfl hd hl k
theorem o_lload (X : Stand p l e R s m args below meth c T locs cells slots) (hx : p.tables.exec = Jvm.exec) {k : Nat} {v : Int64} (hd : decode c.code pc = .ok (.lload k, 2)) (hl : L[k]? = some (.val (.long v))) (hp : pc + 2 = pc') (kk : Goes p.tables e below P (T.setTop (mkF m pc' L (.long v :: S)))) : Goes p.tables e below P (T.setTop (mkF m pc L S)) := by
  subst hp; exact kk.on fun _ k => XS.lload X.here hx rfl hd hl k
theorem o_lstoreN (X : Stand p l e R s m args below meth c T locs cells slots) (hx : p.tables.exec = Jvm.exec) {k : Fin 4} {x : Int64} (hd : decode c.code pc = .ok (.lstore_n k, 1)) (hl : storeLocals L k.val (.long x) = some L') (hp : pc + 1 = pc') (kk : Goes p.tables e below P (T.setTop (mkF m pc' L' S))) : Goes p.tables e below P (T.setTop (mkF m pc L (.long x :: S))) := by
  subst hp; exact kk.on fun _ k => XS.lstoreN X.here hx rfl hd rfl hl k
theorem o_lstore (X : Stand p l e R s m args below meth c T locs cells slots) (hx : p.tables.exec = Jvm.exec) {k : Nat} {x : Int64} (hd : decode c.code pc = .ok (.lstore k, 2)) (hl : storeLocals L k (.long x) = some L') (hp : pc + 2 = pc') (kk : Goes p.tables e below P (T.setTop (mkF m pc' L' S))) : Goes p.tables e below P (T.setTop (mkF m pc L (.long x :: S))) := by
  subst hp; exact kk.on fun _ k => XS.lstore X.here hx rfl hd rfl hl k
theorem o_aloadN (X : Stand p l e R s m args below meth c T locs cells slots) (hx : p.tables.exec = Jvm.exec) {k : Fin 4} {v : Value} (hd : decode c.code pc = .ok (.aload_n k, 1)) (hl : L[k.val]? = some (.val v)) (hv : v.isRef = true) (hp : pc + 1 = pc') (kk : Goes p.tables e below P (T.setTop (mkF m pc' L (v :: S)))) : Goes p.tables e below P (T.setTop (mkF m pc L S)) := by
  subst hp; exact kk.on fun _ k => XS.aloadN X.here hx rfl hd hl hv k
theorem o_aload (X : Stand p l e R s m args below meth c T locs cells slots) (hx : p.tables.exec = Jvm.exec) {k : Nat} {v : Value} (hd : decode c.code pc = .ok (.aload k, 2)) (hl : L[k]? = some (.val v)) (hv : v.isRef = true) (hp : pc + 2 = pc') (kk : Goes p.tables e below P (T.setTop (mkF m pc' L (v :: S)))) : Goes p.tables e below P (T.setTop (mkF m pc L S)) := by
  subst hp; exact kk.on fun _ k => XS.aload X.here hx rfl hd hl hv k
theorem o_astoreN (X : Stand p l e R s m args below meth c T locs cells slots) (hx : p.tables.exec = Jvm.exec) {k : Fin 4} {x : Value} (hd : decode c.code pc = .ok (.astore_n k, 1)) (hv : x.isRef = true) (hl : storeLocals L k.val x = some L') (hp : pc + 1 = pc') (kk : Goes p.tables e below P (T.setTop (mkF m pc' L' S))) : Goes p.tables e below P (T.setTop (mkF m pc L (x :: S))) := by
  subst hp; exact kk.on fun _ k => XS.astoreN X.here hx rfl hd rfl hv hl k
theorem o_astore (X : Stand p l e R s m args below meth c T locs cells slots) (hx : p.tables.exec = Jvm.exec) {k : Nat} {x : Value} (hd : decode c.code pc = .ok (.astore k, 2)) (hv : x.isRef = true) (hl : storeLocals L k x = some L') (hp : pc + 2 = pc') (kk : Goes p.tables e below P (T.setTop (mkF m pc' L' S))) : Goes p.tables e below P (T.setTop (mkF m pc L (x :: S))) := by
  subst hp; exact kk.on fun _ k => XS.astore X.here hx rfl hd rfl hv hl k
theorem o_iconst (X : Stand p l e R s m args below meth c T locs cells slots) (hx : p.tables.exec = Jvm.exec) {i : Int} {v : Int32} (hd : decode c.code pc = .ok (.iconst i, 1)) (hv : Int32.ofInt i = v) (hp : pc + 1 = pc') (kk : Goes p.tables e below P (T.setTop (mkF m pc' L (.int v :: S)))) : Goes p.tables e below P (T.setTop (mkF m pc L S)) := by
  subst hp; subst hv; exact kk.on fun _ k => XS.iconst X.here hx rfl hd  k
theorem o_bipush (X : Stand p l e R s m args below meth c T locs cells slots) (hx : p.tables.exec = Jvm.exec) {i : Int} {v : Int32} (hd : decode c.code pc = .ok (.bipush i, 2)) (hv : (Int8.ofInt i).toInt32 = v) (hp : pc + 2 = pc') (kk : Goes p.tables e below P (T.setTop (mkF m pc' L (.int v :: S)))) : Goes p.tables e below P (T.setTop (mkF m pc L S)) := by
  subst hp; subst hv; exact kk.on fun _ k => XS.bipush X.here hx rfl hd  k
theorem o_sipush (X : Stand p l e R s m args below meth c T locs cells slots) (hx : p.tables.exec = Jvm.exec) {i : Int} {v : Int32} (hd : decode c.code pc = .ok (.sipush i, 3)) (hv : (Int16.ofInt i).toInt32 = v) (hp : pc + 3 = pc') (kk : Goes p.tables e below P (T.setTop (mkF m pc' L (.int v :: S)))) : Goes p.tables e below P (T.setTop (mkF m pc L S)) := by
  subst hp; subst hv; exact kk.on fun _ k => XS.sipush X.here hx rfl hd  k
theorem o_lconst (X : Stand p l e R s m args below meth c T locs cells slots) (hx : p.tables.exec = Jvm.exec) {k : Fin 2} {v : Int64} (hd : decode c.code pc = .ok (.lconst k, 1)) (hv : Int64.ofNat k = v) (hp : pc + 1 = pc') (kk : Goes p.tables e below P (T.setTop (mkF m pc' L (.long v :: S)))) : Goes p.tables e below P (T.setTop (mkF m pc L S)) := by
  subst hp; subst hv; exact kk.on fun _ k => XS.lconst X.here hx rfl hd  k
theorem o_aconstNull (X : Stand p l e R s m args below meth c T locs cells slots) (hx : p.tables.exec = Jvm.exec)  (hd : decode c.code pc = .ok (.aconst_null, 1)) (hp : pc + 1 = pc') (kk : Goes p.tables e below P (T.setTop (mkF m pc' L (.null :: S)))) : Goes p.tables e below P (T.setTop (mkF m pc L S)) := by
  subst hp; exact kk.on fun _ k => XS.aconstNull X.here hx rfl hd  k
theorem o_iadd (X : Stand p l e R s m args below meth c T locs cells slots) (hx : p.tables.exec = Jvm.exec) {x y : Int32} (hd : decode c.code pc = .ok (.iadd, 1)) (hp : pc + 1 = pc') (kk : Goes p.tables e below P (T.setTop (mkF m pc' L (.int (x + y) :: S)))) : Goes p.tables e below P (T.setTop (mkF m pc L (.int y :: .int x :: S))) := by
  subst hp; exact kk.on fun _ k => XS.iadd X.here hx rfl hd rfl k
theorem o_isub (X : Stand p l e R s m args below meth c T locs cells slots) (hx : p.tables.exec = Jvm.exec) {x y : Int32} (hd : decode c.code pc = .ok (.isub, 1)) (hp : pc + 1 = pc') (kk : Goes p.tables e below P (T.setTop (mkF m pc' L (.int (x - y) :: S)))) : Goes p.tables e below P (T.setTop (mkF m pc L (.int y :: .int x :: S))) := by
  subst hp; exact kk.on fun _ k => XS.isub X.here hx rfl hd rfl k
theorem o_imul (X : Stand p l e R s m args below meth c T locs cells slots) (hx : p.tables.exec = Jvm.exec) {x y : Int32} (hd : decode c.code pc = .ok (.imul, 1)) (hp : pc + 1 = pc') (kk : Goes p.tables e below P (T.setTop (mkF m pc' L (.int (x * y) :: S)))) : Goes p.tables e below P (T.setTop (mkF m pc L (.int y :: .int x :: S))) := by
  subst hp; exact kk.on fun _ k => XS.imul X.here hx rfl hd rfl k
theorem o_iand (X : Stand p l e R s m args below meth c T locs cells slots) (hx : p.tables.exec = Jvm.exec) {x y : Int32} (hd : decode c.code pc = .ok (.iand, 1)) (hp : pc + 1 = pc') (kk : Goes p.tables e below P (T.setTop (mkF m pc' L (.int (x &&& y) :: S)))) : Goes p.tables e below P (T.setTop (mkF m pc L (.int y :: .int x :: S))) := by
  subst hp; exact kk.on fun _ k => XS.iand X.here hx rfl hd rfl k
theorem o_ior (X : Stand p l e R s m args below meth c T locs cells slots) (hx : p.tables.exec = Jvm.exec) {x y : Int32} (hd : decode c.code pc = .ok (.ior, 1)) (hp : pc + 1 = pc') (kk : Goes p.tables e below P (T.setTop (mkF m pc' L (.int (x ||| y) :: S)))) : Goes p.tables e below P (T.setTop (mkF m pc L (.int y :: .int x :: S))) := by
  subst hp; exact kk.on fun _ k => XS.ior X.here hx rfl hd rfl k
theorem o_ixor (X : Stand p l e R s m args below meth c T locs cells slots) (hx : p.tables.exec = Jvm.exec) {x y : Int32} (hd : decode c.code pc = .ok (.ixor, 1)) (hp : pc + 1 = pc') (kk : Goes p.tables e below P (T.setTop (mkF m pc' L (.int (x ^^^ y) :: S)))) : Goes p.tables e below P (T.setTop (mkF m pc L (.int y :: .int x :: S))) := by
  subst hp; exact kk.on fun _ k => XS.ixor X.here hx rfl hd rfl k
theorem o_ishl (X : Stand p l e R s m args below meth c T locs cells slots) (hx : p.tables.exec = Jvm.exec) {x y : Int32} (hd : decode c.code pc = .ok (.ishl, 1)) (hp : pc + 1 = pc') (kk : Goes p.tables e below P (T.setTop (mkF m pc' L (.int (x <<< (y &&& 31)) :: S)))) : Goes p.tables e below P (T.setTop (mkF m pc L (.int y :: .int x :: S))) := by
  subst hp; exact kk.on fun _ k => XS.ishl X.here hx rfl hd rfl k
theorem o_ishr (X : Stand p l e R s m args below meth c T locs cells slots) (hx : p.tables.exec = Jvm.exec) {x y : Int32} (hd : decode c.code pc = .ok (.ishr, 1)) (hp : pc + 1 = pc') (kk : Goes p.tables e below P (T.setTop (mkF m pc' L (.int (x >>> (y &&& 31)) :: S)))) : Goes p.tables e below P (T.setTop (mkF m pc L (.int y :: .int x :: S))) := by
  subst hp; exact kk.on fun _ k => XS.ishr X.here hx rfl hd rfl k
theorem o_iushr (X : Stand p l e R s m args below meth c T locs cells slots) (hx : p.tables.exec = Jvm.exec) {x y : Int32} (hd : decode c.code pc = .ok (.iushr, 1)) (hp : pc + 1 = pc') (kk : Goes p.tables e below P (T.setTop (mkF m pc' L (.int ((x.toUInt32 >>> (y &&& 31).toUInt32).toInt32) :: S)))) : Goes p.tables e below P (T.setTop (mkF m pc L (.int y :: .int x :: S))) := by
  subst hp; exact kk.on fun _ k => XS.iushr X.here hx rfl hd rfl k
theorem o_ladd (X : Stand p l e R s m args below meth c T locs cells slots) (hx : p.tables.exec = Jvm.exec) {x y : Int64} (hd : decode c.code pc = .ok (.ladd, 1)) (hp : pc + 1 = pc') (kk : Goes p.tables e below P (T.setTop (mkF m pc' L (.long (x + y) :: S)))) : Goes p.tables e below P (T.setTop (mkF m pc L (.long y :: .long x :: S))) := by
  subst hp; exact kk.on fun _ k => XS.ladd X.here hx rfl hd rfl k
theorem o_lsub (X : Stand p l e R s m args below meth c T locs cells slots) (hx : p.tables.exec = Jvm.exec) {x y : Int64} (hd : decode c.code pc = .ok (.lsub, 1)) (hp : pc + 1 = pc') (kk : Goes p.tables e below P (T.setTop (mkF m pc' L (.long (x - y) :: S)))) : Goes p.tables e below P (T.setTop (mkF m pc L (.long y :: .long x :: S))) := by
  subst hp; exact kk.on fun _ k => XS.lsub X.here hx rfl hd rfl k
theorem o_lmul (X : Stand p l e R s m args below meth c T locs cells slots) (hx : p.tables.exec = Jvm.exec) {x y : Int64} (hd : decode c.code pc = .ok (.lmul, 1)) (hp : pc + 1 = pc') (kk : Goes p.tables e below P (T.setTop (mkF m pc' L (.long (x * y) :: S)))) : Goes p.tables e below P (T.setTop (mkF m pc L (.long y :: .long x :: S))) := by
  subst hp; exact kk.on fun _ k => XS.lmul X.here hx rfl hd rfl k
theorem o_land (X : Stand p l e R s m args below meth c T locs cells slots) (hx : p.tables.exec = Jvm.exec) {x y : Int64} (hd : decode c.code pc = .ok (.land, 1)) (hp : pc + 1 = pc') (kk : Goes p.tables e below P (T.setTop (mkF m pc' L (.long (x &&& y) :: S)))) : Goes p.tables e below P (T.setTop (mkF m pc L (.long y :: .long x :: S))) := by
  subst hp; exact kk.on fun _ k => XS.land X.here hx rfl hd rfl k
theorem o_lor (X : Stand p l e R s m args below meth c T locs cells slots) (hx : p.tables.exec = Jvm.exec) {x y : Int64} (hd : decode c.code pc = .ok (.lor, 1)) (hp : pc + 1 = pc') (kk : Goes p.tables e below P (T.setTop (mkF m pc' L (.long (x ||| y) :: S)))) : Goes p.tables e below P (T.setTop (mkF m pc L (.long y :: .long x :: S))) := by
  subst hp; exact kk.on fun _ k => XS.lor X.here hx rfl hd rfl k
theorem o_lxor (X : Stand p l e R s m args below meth c T locs cells slots) (hx : p.tables.exec = Jvm.exec) {x y : Int64} (hd : decode c.code pc = .ok (.lxor, 1)) (hp : pc + 1 = pc') (kk : Goes p.tables e below P (T.setTop (mkF m pc' L (.long (x ^^^ y) :: S)))) : Goes p.tables e below P (T.setTop (mkF m pc L (.long y :: .long x :: S))) := by
  subst hp; exact kk.on fun _ k => XS.lxor X.here hx rfl hd rfl k
theorem o_lshl (X : Stand p l e R s m args below meth c T locs cells slots) (hx : p.tables.exec = Jvm.exec) {x : Int64} {y : Int32} (hd : decode c.code pc = .ok (.lshl, 1)) (hp : pc + 1 = pc') (kk : Goes p.tables e below P (T.setTop (mkF m pc' L (.long (x <<< (y &&& 0x3f).toInt64) :: S)))) : Goes p.tables e below P (T.setTop (mkF m pc L (.int y :: .long x :: S))) := by
  subst hp; exact kk.on fun _ k => XS.lshl X.here hx rfl hd rfl k
theorem o_lshr (X : Stand p l e R s m args below meth c T locs cells slots) (hx : p.tables.exec = Jvm.exec) {x : Int64} {y : Int32} (hd : decode c.code pc = .ok (.lshr, 1)) (hp : pc + 1 = pc') (kk : Goes p.tables e below P (T.setTop (mkF m pc' L (.long (x >>> (y &&& 0x3f).toInt64) :: S)))) : Goes p.tables e below P (T.setTop (mkF m pc L (.int y :: .long x :: S))) := by
  subst hp; exact kk.on fun _ k => XS.lshr X.here hx rfl hd rfl k
theorem o_lushr (X : Stand p l e R s m args below meth c T locs cells slots) (hx : p.tables.exec = Jvm.exec) {x : Int64} {y : Int32} (hd : decode c.code pc = .ok (.lushr, 1)) (hp : pc + 1 = pc') (kk : Goes p.tables e below P (T.setTop (mkF m pc' L (.long ((x.toUInt64 >>> (y &&& 0x3f).toInt64.toUInt64).toInt64) :: S)))) : Goes p.tables e below P (T.setTop (mkF m pc L (.int y :: .long x :: S))) := by
  subst hp; exact kk.on fun _ k => XS.lushr X.here hx rfl hd rfl k
theorem o_idiv (X : Stand p l e R s m args below meth c T locs cells slots) (hx : p.tables.exec = Jvm.exec) {x y : Int32} (hd : decode c.code pc = .ok (.idiv, 1)) (hy : y ≠ 0) (hp : pc + 1 = pc') (kk : Goes p.tables e below P (T.setTop (mkF m pc' L (.int (x / y) :: S)))) : Goes p.tables e below P (T.setTop (mkF m pc L (.int y :: .int x :: S))) := by
  subst hp; exact kk.on fun _ k => XS.idiv X.here hx rfl hd rfl hy k
theorem o_ldiv (X : Stand p l e R s m args below meth c T locs cells slots) (hx : p.tables.exec = Jvm.exec) {x y : Int64} (hd : decode c.code pc = .ok (.ldiv, 1)) (hy : y ≠ 0) (hp : pc + 1 = pc') (kk : Goes p.tables e below P (T.setTop (mkF m pc' L (.long (x / y) :: S)))) : Goes p.tables e below P (T.setTop (mkF m pc L (.long y :: .long x :: S))) := by
  subst hp; exact kk.on fun _ k => XS.ldiv X.here hx rfl hd rfl hy k
theorem o_lrem (X : Stand p l e R s m args below meth c T locs cells slots) (hx : p.tables.exec = Jvm.exec) {x y : Int64} (hd : decode c.code pc = .ok (.lrem, 1)) (hy : y ≠ 0) (hp : pc + 1 = pc') (kk : Goes p.tables e below P (T.setTop (mkF m pc' L (.long (x - (x / y) * y) :: S)))) : Goes p.tables e below P (T.setTop (mkF m pc L (.long y :: .long x :: S))) := by
  subst hp; exact kk.on fun _ k => XS.lrem X.here hx rfl hd rfl hy k
theorem o_irem (X : Stand p l e R s m args below meth c T locs cells slots) (hx : p.tables.exec = Jvm.exec) {x y : Int32} (hd : decode c.code pc = .ok (.irem, 1)) (hy : y ≠ 0) (hp : pc + 1 = pc') (kk : Goes p.tables e below P (T.setTop (mkF m pc' L (.int (x % y) :: S)))) : Goes p.tables e below P (T.setTop (mkF m pc L (.int y :: .int x :: S))) := by
  subst hp; exact kk.on fun _ k => iremM X hx rfl hd rfl hy k
theorem o_i2l (X : Stand p l e R s m args below meth c T locs cells slots) (hx : p.tables.exec = Jvm.exec) {x : Int32} (hd : decode c.code pc = .ok (.i2l, 1)) (hp : pc + 1 = pc') (kk : Goes p.tables e below P (T.setTop (mkF m pc' L (.long (x.toInt64) :: S)))) : Goes p.tables e below P (T.setTop (mkF m pc L (.int x :: S))) := by
  subst hp; exact kk.on fun _ k => XS.i2l X.here hx rfl hd rfl k
theorem o_l2i (X : Stand p l e R s m args below meth c T locs cells slots) (hx : p.tables.exec = Jvm.exec) {x : Int64} (hd : decode c.code pc = .ok (.l2i, 1)) (hp : pc + 1 = pc') (kk : Goes p.tables e below P (T.setTop (mkF m pc' L (.int (x.toInt32) :: S)))) : Goes p.tables e below P (T.setTop (mkF m pc L (.long x :: S))) := by
  subst hp; exact kk.on fun _ k => XS.l2i X.here hx rfl hd rfl k
theorem o_i2b (X : Stand p l e R s m args below meth c T locs cells slots) (hx : p.tables.exec = Jvm.exec) {x : Int32} (hd : decode c.code pc = .ok (.i2b, 1)) (hp : pc + 1 = pc') (kk : Goes p.tables e below P (T.setTop (mkF m pc' L (.int (x.toInt8.toInt32) :: S)))) : Goes p.tables e below P (T.setTop (mkF m pc L (.int x :: S))) := by
  subst hp; exact kk.on fun _ k => XS.i2b X.here hx rfl hd rfl k
theorem o_i2s (X : Stand p l e R s m args below meth c T locs cells slots) (hx : p.tables.exec = Jvm.exec) {x : Int32} (hd : decode c.code pc = .ok (.i2s, 1)) (hp : pc + 1 = pc') (kk : Goes p.tables e below P (T.setTop (mkF m pc' L (.int (x.toInt16.toInt32) :: S)))) : Goes p.tables e below P (T.setTop (mkF m pc L (.int x :: S))) := by
  subst hp; exact kk.on fun _ k => XS.i2s X.here hx rfl hd rfl k
theorem o_i2c (X : Stand p l e R s m args below meth c T locs cells slots) (hx : p.tables.exec = Jvm.exec) {x : Int32} (hd : decode c.code pc = .ok (.i2c, 1)) (hp : pc + 1 = pc') (kk : Goes p.tables e below P (T.setTop (mkF m pc' L (.int (x.toUInt32.toUInt16.toUInt32.toInt32) :: S)))) : Goes p.tables e below P (T.setTop (mkF m pc L (.int x :: S))) := by
  subst hp; exact kk.on fun _ k => XS.i2c X.here hx rfl hd rfl k
theorem o_ineg (X : Stand p l e R s m args below meth c T locs cells slots) (hx : p.tables.exec = Jvm.exec) {x : Int32} (hd : decode c.code pc = .ok (.ineg, 1)) (hp : pc + 1 = pc') (kk : Goes p.tables e below P (T.setTop (mkF m pc' L (.int (-x) :: S)))) : Goes p.tables e below P (T.setTop (mkF m pc L (.int x :: S))) := by
  subst hp; exact kk.on fun _ k => XS.ineg X.here hx rfl hd rfl k
theorem o_lneg (X : Stand p l e R s m args below meth c T locs cells slots) (hx : p.tables.exec = Jvm.exec) {x : Int64} (hd : decode c.code pc = .ok (.lneg, 1)) (hp : pc + 1 = pc') (kk : Goes p.tables e below P (T.setTop (mkF m pc' L (.long (-x) :: S)))) : Goes p.tables e below P (T.setTop (mkF m pc L (.long x :: S))) := by
  subst hp; exact kk.on fun _ k => XS.lneg X.here hx rfl hd rfl k
theorem o_lcmp (X : Stand p l e R s m args below meth c T locs cells slots) (hx : p.tables.exec = Jvm.exec) {x y : Int64} (hd : decode c.code pc = .ok (.lcmp, 1)) (hp : pc + 1 = pc') (kk : Goes p.tables e below P (T.setTop (mkF m pc' L (.int (lcmpW x y) :: S)))) : Goes p.tables e below P (T.setTop (mkF m pc L (.long y :: .long x :: S))) := by
  subst hp; exact kk.on fun _ k => XS.lcmp X.here hx rfl hd rfl k
theorem o_dup (X : Stand p l e R s m args below meth c T locs cells slots) (hx : p.tables.exec = Jvm.exec) {x : Value} (hd : decode c.code pc = .ok (.dup, 1)) (hc : x.category = 1) (hp : pc + 1 = pc') (kk : Goes p.tables e below P (T.setTop (mkF m pc' L (x :: x :: S)))) : Goes p.tables e below P (T.setTop (mkF m pc L (x :: S))) := by
  subst hp; exact kk.on fun _ k => XS.dup X.here hx rfl hd rfl hc k
theorem o_pop (X : Stand p l e R s m args below meth c T locs cells slots) (hx : p.tables.exec = Jvm.exec) {x : Value} (hd : decode c.code pc = .ok (.pop, 1)) (hc : x.category = 1) (hp : pc + 1 = pc') (kk : Goes p.tables e below P (T.setTop (mkF m pc' L S))) : Goes p.tables e below P (T.setTop (mkF m pc L (x :: S))) := by
  subst hp; exact kk.on fun _ k => XS.pop X.here hx rfl hd rfl hc k
theorem o_dupX1 (X : Stand p l e R s m args below meth c T locs cells slots) (hx : p.tables.exec = Jvm.exec) {x y : Value} (hd : decode c.code pc = .ok (.dup_x1, 1)) (hc : x.category = 1) (hc2 : y.category = 1) (hp : pc + 1 = pc') (kk : Goes p.tables e below P (T.setTop (mkF m pc' L (x :: y :: x :: S)))) : Goes p.tables e below P (T.setTop (mkF m pc L (x :: y :: S))) := by
  subst hp; exact kk.on fun _ k => XS.dupX1 X.here hx rfl hd rfl hc hc2 k
theorem o_iinc (X : Stand p l e R s m args below meth c T locs cells slots) (hx : p.tables.exec = Jvm.exec) {k : Nat} {cst : Int} {x v : Int32} (hd : decode c.code pc = .ok (.iinc k cst, 3)) (hl : L[k]? = some (.val (.int x))) (hv : x + Int32.ofInt cst = v) (hl' : storeLocals L k (.int v) = some L') (hp : pc + 3 = pc') (kk : Goes p.tables e below P (T.setTop (mkF m pc' L' S))) : Goes p.tables e below P (T.setTop (mkF m pc L S)) := by
  subst hp; subst hv; exact kk.on fun _ k => XS.iinc X.here hx rfl hd hl hl' k
theorem o_goto (X : Stand p l e R s m args below meth c T locs cells slots) (hx : p.tables.exec = Jvm.exec)  {o : Int} (hd : decode c.code pc = .ok (.goto o, 3)) (ho : 0 ≤ (pc : Int) + o) (hp : ((pc : Int) + o).toNat = pc') (kk : Goes p.tables e below P (T.setTop (mkF m pc' L S))) : Goes p.tables e below P (T.setTop (mkF m pc L S)) :=
  kk.on fun _ k => XS.goto X.here hx rfl (pc0 := pc) rfl hd  ho hp k
theorem o_ifYes (X : Stand p l e R s m args below meth c T locs cells slots) (hx : p.tables.exec = Jvm.exec) {cd : ClassFile.Cond} {x : Int32} {o : Int} (hd : decode c.code pc = .ok (.ifCond cd o, 3)) (hc : ifCond.holds cd x = true) (ho : 0 ≤ (pc : Int) + o) (hp : ((pc : Int) + o).toNat = pc') (kk : Goes p.tables e below P (T.setTop (mkF m pc' L S))) : Goes p.tables e below P (T.setTop (mkF m pc L (.int x :: S))) :=
  kk.on fun _ k => XS.ifYes X.here hx rfl (pc0 := pc) rfl hd rfl hc ho hp k
theorem o_icmpYes (X : Stand p l e R s m args below meth c T locs cells slots) (hx : p.tables.exec = Jvm.exec) {cd : ClassFile.Cond} {x y : Int32} {o : Int} (hd : decode c.code pc = .ok (.if_icmp cd o, 3)) (hc : if_icmp.holds cd x y = true) (ho : 0 ≤ (pc : Int) + o) (hp : ((pc : Int) + o).toNat = pc') (kk : Goes p.tables e below P (T.setTop (mkF m pc' L S))) : Goes p.tables e below P (T.setTop (mkF m pc L (.int y :: .int x :: S))) :=
  kk.on fun _ k => XS.icmpYes X.here hx rfl (pc0 := pc) rfl hd rfl hc ho hp k
theorem o_ifnullYes (X : Stand p l e R s m args below meth c T locs cells slots) (hx : p.tables.exec = Jvm.exec)  {o : Int} (hd : decode c.code pc = .ok (.ifnull o, 3)) (ho : 0 ≤ (pc : Int) + o) (hp : ((pc : Int) + o).toNat = pc') (kk : Goes p.tables e below P (T.setTop (mkF m pc' L S))) : Goes p.tables e below P (T.setTop (mkF m pc L (.null :: S))) :=
  kk.on fun _ k => XS.ifnullYes X.here hx rfl (pc0 := pc) rfl hd rfl ho hp k
theorem o_ifnonnullYes (X : Stand p l e R s m args below meth c T locs cells slots) (hx : p.tables.exec = Jvm.exec) {b : Addr} {o : Int} (hd : decode c.code pc = .ok (.ifnonnull o, 3)) (ho : 0 ≤ (pc : Int) + o) (hp : ((pc : Int) + o).toNat = pc') (kk : Goes p.tables e below P (T.setTop (mkF m pc' L S))) : Goes p.tables e below P (T.setTop (mkF m pc L (.ref b :: S))) :=
  kk.on fun _ k => XS.ifnonnullYes X.here hx rfl (pc0 := pc) rfl hd rfl ho hp k
theorem o_ifNo (X : Stand p l e R s m args below meth c T locs cells slots) (hx : p.tables.exec = Jvm.exec) {cd : ClassFile.Cond} {o : Int} {x : Int32} (hd : decode c.code pc = .ok (.ifCond cd o, 3)) (hc : ifCond.holds cd x = false) (hp : pc + 3 = pc') (kk : Goes p.tables e below P (T.setTop (mkF m pc' L S))) : Goes p.tables e below P (T.setTop (mkF m pc L (.int x :: S))) := by
  subst hp; exact kk.on fun _ k => XS.ifNo X.here hx rfl hd rfl hc k
theorem o_icmpNo (X : Stand p l e R s m args below meth c T locs cells slots) (hx : p.tables.exec = Jvm.exec) {cd : ClassFile.Cond} {o : Int} {x y : Int32} (hd : decode c.code pc = .ok (.if_icmp cd o, 3)) (hc : if_icmp.holds cd x y = false) (hp : pc + 3 = pc') (kk : Goes p.tables e below P (T.setTop (mkF m pc' L S))) : Goes p.tables e below P (T.setTop (mkF m pc L (.int y :: .int x :: S))) := by
  subst hp; exact kk.on fun _ k => XS.icmpNo X.here hx rfl hd rfl hc k
theorem o_ifnullNo (X : Stand p l e R s m args below meth c T locs cells slots) (hx : p.tables.exec = Jvm.exec) {o : Int} {b : Addr} (hd : decode c.code pc = .ok (.ifnull o, 3)) (hp : pc + 3 = pc') (kk : Goes p.tables e below P (T.setTop (mkF m pc' L S))) : Goes p.tables e below P (T.setTop (mkF m pc L (.ref b :: S))) := by
  subst hp; exact kk.on fun _ k => XS.ifnullNo X.here hx rfl hd rfl k
theorem o_ifnonnullNo (X : Stand p l e R s m args below meth c T locs cells slots) (hx : p.tables.exec = Jvm.exec) {o : Int} (hd : decode c.code pc = .ok (.ifnonnull o, 3)) (hp : pc + 3 = pc') (kk : Goes p.tables e below P (T.setTop (mkF m pc' L S))) : Goes p.tables e below P (T.setTop (mkF m pc L (.null :: S))) := by
  subst hp; exact kk.on fun _ k => XS.ifnonnullNo X.here hx rfl hd rfl k
theorem o_acmp (X : Stand p l e R s m args below meth c T locs cells slots) (hx : p.tables.exec = Jvm.exec) {cd : ACond} {x y : Value} {o : Int} {same : Bool} (hd : decode c.code pc = .ok (.if_acmp cd o, 3)) (h1 : x.isRef = true) (h2 : y.isRef = true) (hq : decide (x = y) = same) (ho : 0 ≤ (pc : Int) + o) (hp : pc' = if acV cd same = true then ((pc : Int) + o).toNat else pc + 3) (kk : Goes p.tables e below P (T.setTop (mkF m pc' L S))) : Goes p.tables e below P (T.setTop (mkF m pc L (y :: x :: S))) :=
  kk.on fun _ k => Jvm.RoadKit.acmp (g := mkF m pc L (y :: x :: S)) X hx rfl h1 h2 (pc0 := pc) (pc' := pc') (same := same) rfl hd rfl hq ho hp k
theorem o_tswIn (X : Stand p l e R s m args below meth c T locs cells slots) (hx : p.tables.exec = Jvm.exec) {dflt low high : Int} {offs : Array Int} {len : Nat} {o : Int} {i : Int32} (hd : decode c.code pc = .ok (.tableswitch dflt low high offs, len)) (hin : ¬ (i.toInt < low ∨ i.toInt > high)) (hoff : offs[(i.toInt - low).toNat]? = some o) (ho : 0 ≤ (pc : Int) + o) (hp : ((pc : Int) + o).toNat = pc') (kk : Goes p.tables e below P (T.setTop (mkF m pc' L S))) : Goes p.tables e below P (T.setTop (mkF m pc L (.int i :: S))) :=
  kk.on fun _ k => XS.tswIn X.here hx rfl (pc0 := pc) rfl hd rfl hin hoff ho hp k
theorem o_tswOut (X : Stand p l e R s m args below meth c T locs cells slots) (hx : p.tables.exec = Jvm.exec) {dflt low high : Int} {offs : Array Int} {len : Nat} {i : Int32} (hd : decode c.code pc = .ok (.tableswitch dflt low high offs, len)) (hout : i.toInt < low ∨ i.toInt > high) (ho : 0 ≤ (pc : Int) + dflt) (hp : ((pc : Int) + dflt).toNat = pc') (kk : Goes p.tables e below P (T.setTop (mkF m pc' L S))) : Goes p.tables e below P (T.setTop (mkF m pc L (.int i :: S))) :=
  kk.on fun _ k => XS.tswOut X.here hx rfl (pc0 := pc) rfl hd rfl hout ho hp k
theorem o_getF (X : Stand p l e R s m args below meth c T locs cells slots) (hx : p.tables.exec = Jvm.exec) (hZ : Z.Warmed39 s.vm) {own R0 O n d host : String} {index : Nat} (hown : s.vm.findClass own = some m.cls) (w : (Cond.fieldLink own index R0 n d).before a0 Z = true ∨ (Cond.fieldLinkNest own index R0 n d host).before a0 Z = true) (via : Via Z R0 O n d) (eT : T.heap = h) {a : Addr} {v : Value} (F : Fld Z h a O n d v) (hd : decode c.code pc = .ok (.getfield index, 3)) (hp : pc + 3 = pc')
    (kk : ∀ T', Stand p l e R s m args below meth c T' locs cells slots → T'.heap = h → Goes p.tables e below P (T'.setTop (mkF m pc' L (v :: S)))) : Goes p.tables e below P (T.setTop (mkF m pc L (.ref a :: S))) := by
  subst hp
  obtain ⟨T', X', e', st⟩ := getF X hx hZ hown w via eT F (g := mkF m pc L (.ref a :: S)) rfl rfl hd
  exact (kk T' X' e').on st
theorem o_getS (X : Stand p l e R s m args below meth c T locs cells slots) (hx : p.tables.exec = Jvm.exec) (hZ : Z.Warmed39 s.vm) {own R0 O n d host : String} {index : Nat} (hown : s.vm.findClass own = some m.cls) (w : (Cond.fieldLink own index R0 n d).before a0 Z = true ∨ (Cond.fieldLinkNest own index R0 n d host).before a0 Z = true) (via : Via Z R0 O n d) (eT : T.heap = h) {v : Value} (F : Sta Z h O n d v) (hd : decode c.code pc = .ok (.getstatic index, 3)) (hp : pc + 3 = pc')
    (kk : ∀ T', Stand p l e R s m args below meth c T' locs cells slots → T'.heap = h → Goes p.tables e below P (T'.setTop (mkF m pc' L (v :: S)))) : Goes p.tables e below P (T.setTop (mkF m pc L S)) := by
  subst hp
  obtain ⟨T', X', e', st⟩ := getS2 X hx hZ hown w via eT F (g := mkF m pc L S) rfl hd
  exact (kk T' X' e').on st
theorem o_putF (X : Stand p l e R s m args below meth c T locs cells slots) (hx : p.tables.exec = Jvm.exec) (hZ : Z.Warmed39 s.vm) {own R0 O n d host C : String} {index kk0 : Nat} {ty : FieldType} (hown : s.vm.findClass own = some m.cls) (w : (Cond.fieldLink own index R0 n d).before a0 Z = true ∨ (Cond.fieldLinkNest own index R0 n d host).before a0 Z = true) (via : Via Z R0 O n d) (eT : T.heap = h) {a : Addr} {v old : Value} (F : Fld Z h a O n d old) (E : Exa Z h a C) (Lw : (Cond.lays C O n d).before a0 Z = true ∨ ((Cond.laysFinal C O n d).before a0 Z = true ∧ own = O ∧ meth.name = "<init>")) (wi : (Cond.instantiable C kk0).before a0 Z = true)
    (hty : parseFieldDescriptor d = some ty) (hn : narrow ty v = v) (hf : fits ty v = true) (hd : decode c.code pc = .ok (.putfield index, 3)) (hp : pc + 3 = pc')
    (kk : ∀ T' h', Stand p l e R s m args below meth c T' (locs ++ [⟨a, Jvm.RoadKit.slotOf Z O n d⟩]) cells slots → T'.heap = h' → Wr h h' a (Jvm.RoadKit.slotOf Z O n d) v → Goes p.tables e below P (T'.setTop (mkF m pc' L S))) : Goes p.tables e below P (T.setTop (mkF m pc L (v :: .ref a :: S))) := by
  subst hp
  obtain ⟨T', h', X', e', W', st⟩ := putF X hx hZ hown w via eT F E Lw wi hty hn hf (g := mkF m pc L (v :: .ref a :: S)) rfl rfl hd
  exact (kk T' h' X' e' W').on st
theorem o_new (X : Stand p l e R s m args below meth c T locs cells slots) (hx : p.tables.exec = Jvm.exec) (hZ : Z.Warmed39 s.vm) {own C : String} {index n : Nat} (hown : s.vm.findClass own = some m.cls) (w : (Cond.classLink own index C).before a0 Z = true) (wi : (Cond.instantiable C n).before a0 Z = true) (wz : (Cond.initialized C).before a0 Z = true) (eT : T.heap = h) (hd : decode c.code pc = .ok (.new index, 3)) (hc : cells + 1 ≤ R.cells) (hl : slots + n ≤ R.slots) (hc' : cells + 1 = cells') (hs' : slots + n = slots') (hp : pc + 3 = pc')
    (kk : ∀ T' h' b, b = h.size → Stand p l e R s m args below meth c T' locs cells' slots' → T'.heap = h' → Ext h h' → Exa Z h' b C → (∀ {O nm d : String} {ty : FieldType}, Laid Z a0 C O nm d → parseFieldDescriptor d = some ty → Fld Z h' b O nm d (defaultValue ty)) → Goes p.tables e below P (T'.setTop (mkF m pc' L (.ref b :: S)))) : Goes p.tables e below P (T.setTop (mkF m pc L S)) := by
  subst hp hc' hs'
  obtain ⟨T', h', X', e', E', A', D', -, st⟩ := newO X hx hZ hown w wi wz eT (g := mkF m pc L S) rfl hd hc hl
  exact (kk T' h' _ rfl X' e' E' A' D').on st
theorem o_newP (X : Stand p l e R s m args below meth c T locs cells slots) (hx : p.tables.exec = Jvm.exec) (hZ : Z.Warmed39 s.vm) {aty : ArrayType} (w : (Cond.arrayClass (newarray.typeOf aty)).before a0 Z = true) (eT : T.heap = h) (hd : decode c.code pc = .ok (.newarray aty, 2)) {n : Int32} (hn : ¬ n < 0) {cap : Nat} (hcap : n.toNatClampNeg ≤ cap) (hb : cap * 8 ≤ 536870912) (hc : cells + 1 ≤ R.cells) (hl : slots + cap ≤ R.slots) (hc' : cells + 1 = cells') (hs' : slots + cap = slots') (hp : pc + 2 = pc')
    (kk : ∀ T' h' k b, b = h.size → Stand p l e R s m args below meth c T' locs cells' slots' → T'.heap = h' → Ext h h' → Arr Z h' b (newA k (newarray.typeOf aty) n) (newarray.typeOf aty) → Goes p.tables e below P (T'.setTop (mkF m pc' L (.ref b :: S)))) : Goes p.tables e below P (T.setTop (mkF m pc L (.int n :: S))) := by
  subst hp hc' hs'
  obtain ⟨T', h', k, X', e', E', A', st⟩ := newP X hx hZ w eT (g := mkF m pc L (.int n :: S)) rfl hd rfl hn hcap hb hc hl
  exact (kk T' h' k _ rfl X' e' E' A').on st
theorem o_initO (X : Stand p l e R s m args below meth c T locs cells slots) (hx : p.tables.exec = Jvm.exec) (hZ : Z.Warmed39 s.vm) {own : String} {idx : Nat} (hown : s.vm.findClass own = some m.cls) (w1 : (Cond.methodLink own idx Lib.objectInit).before a0 Z = true) (w2 : (Cond.instanceMethod Lib.objectInit).before a0 Z = true) (w3 : (Cond.code Lib.objectInit ⟨#[0xb1]⟩ 1 none).before a0 Z = true) (eT : T.heap = h) (hsize : L.size = c.maxLocals) {a : Addr} (hd : decode c.code pc = .ok (.invokespecial idx, 3)) (hf : 1 ≤ R.frames) {W : Nat} (hW : (S.map fun v => v.category).sum = W) (hl : W + 12 ≤ R.locals) (hp : pc + 3 = pc')
    (kk : ∀ T', Stand p l e R s m args below meth c T' locs cells slots → T'.heap = h → Goes p.tables e below P (T'.setTop (mkF m pc' L S))) : Goes p.tables e below P (T.setTop (mkF m pc L (.ref a :: S))) := by
  subst hp
  obtain ⟨T', X', e', st⟩ := initO X hx hZ hown w1 w2 w3 eT (g := mkF m pc L (.ref a :: S)) rfl hsize rfl hd hf (W := W) (by rw [← hW]; show 2 * 0 + _ ≤ _; omega) hl
  exact (kk T' X' e').on st
theorem o_stI (X : Stand p l e R s m args below meth c T locs cells slots) (hx : p.tables.exec = Jvm.exec) (hZ : Z.Warmed39 s.vm) (eT : T.heap = h) {a : Addr} {kc : ClassId} {z : Int32} {vs : List Value} {dv : Value} (A : Arv Z h a kc .int z vs dv) {j : Int32} {x : Int32} {i : Nat} (hj : ¬ j < 0 ∧ j < z) (hi : j.toNatClampNeg = i) (hv : i < vs.length) (hd : decode c.code pc = .ok (.iastore, 1)) (hp : pc + 1 = pc')
    (kk : ∀ T' h', Stand p l e R s m args below meth c T' (locs ++ [⟨a, i⟩]) cells slots → T'.heap = h' → Wr h h' a i (.int x) → Arv Z h' a kc .int z (vs.set i (.int x)) dv → Goes p.tables e below P (T'.setTop (mkF m pc' L S))) : Goes p.tables e below P (T.setTop (mkF m pc L ((.int x) :: .int j :: .ref a :: S))) := by
  subst hp
  obtain ⟨cl, A1, q1, S1, N1, H1, G1⟩ := A
  obtain ⟨T', h', X', e', W', st⟩ := stI X hx hZ eT A1 (j := j) (x := x) (inb_of S1 hj) (g := mkF m pc L ((.int x) :: .int j :: .ref a :: S)) rfl rfl hd
  have V' := Arv.set A1 q1 S1 N1 H1 G1 (rfl) W' i hi hv
  rw [hi] at X' W'
  exact (kk T' h' X' e' W' V').on st
theorem o_stJ (X : Stand p l e R s m args below meth c T locs cells slots) (hx : p.tables.exec = Jvm.exec) (hZ : Z.Warmed39 s.vm) (eT : T.heap = h) {a : Addr} {kc : ClassId} {z : Int32} {vs : List Value} {dv : Value} (A : Arv Z h a kc .long z vs dv) {j : Int32} {x : Int64} {i : Nat} (hj : ¬ j < 0 ∧ j < z) (hi : j.toNatClampNeg = i) (hv : i < vs.length) (hd : decode c.code pc = .ok (.lastore, 1)) (hp : pc + 1 = pc')
    (kk : ∀ T' h', Stand p l e R s m args below meth c T' (locs ++ [⟨a, i⟩]) cells slots → T'.heap = h' → Wr h h' a i (.long x) → Arv Z h' a kc .long z (vs.set i (.long x)) dv → Goes p.tables e below P (T'.setTop (mkF m pc' L S))) : Goes p.tables e below P (T.setTop (mkF m pc L ((.long x) :: .int j :: .ref a :: S))) := by
  subst hp
  obtain ⟨cl, A1, q1, S1, N1, H1, G1⟩ := A
  obtain ⟨T', h', X', e', W', st⟩ := stJ X hx hZ eT A1 (j := j) (x := x) (inb_of S1 hj) (g := mkF m pc L ((.long x) :: .int j :: .ref a :: S)) rfl rfl hd
  have V' := Arv.set A1 q1 S1 N1 H1 G1 (rfl) W' i hi hv
  rw [hi] at X' W'
  exact (kk T' h' X' e' W' V').on st
theorem o_stC (X : Stand p l e R s m args below meth c T locs cells slots) (hx : p.tables.exec = Jvm.exec) (hZ : Z.Warmed39 s.vm) (eT : T.heap = h) {a : Addr} {kc : ClassId} {z : Int32} {vs : List Value} {dv : Value} (A : Arv Z h a kc .char z vs dv) {j : Int32} {x : Int32} {i : Nat} (hj : ¬ j < 0 ∧ j < z) (hi : j.toNatClampNeg = i) (hv : i < vs.length) (hd : decode c.code pc = .ok (.castore, 1)) (hp : pc + 1 = pc')
    (kk : ∀ T' h', Stand p l e R s m args below meth c T' (locs ++ [⟨a, i⟩]) cells slots → T'.heap = h' → Wr h h' a i (.int (nar .char x)) → Arv Z h' a kc .char z (vs.set i (.int (nar .char x))) dv → Goes p.tables e below P (T'.setTop (mkF m pc' L S))) : Goes p.tables e below P (T.setTop (mkF m pc L ((.int x) :: .int j :: .ref a :: S))) := by
  subst hp
  obtain ⟨cl, A1, q1, S1, N1, H1, G1⟩ := A
  obtain ⟨T', h', X', e', W', st⟩ := stC X hx hZ eT A1 (j := j) (x := x) (inb_of S1 hj) (g := mkF m pc L ((.int x) :: .int j :: .ref a :: S)) rfl rfl hd
  have V' := Arv.set A1 q1 S1 N1 H1 G1 (fits_nar_char _) W' i hi hv
  rw [hi] at X' W'
  exact (kk T' h' X' e' W' V').on st
theorem o_stB (X : Stand p l e R s m args below meth c T locs cells slots) (hx : p.tables.exec = Jvm.exec) (hZ : Z.Warmed39 s.vm) (eT : T.heap = h) {a : Addr} {kc : ClassId} {z : Int32} {vs : List Value} {dv : Value} (A : Arv Z h a kc .byte z vs dv) {j : Int32} {x : Int32} {i : Nat} (hj : ¬ j < 0 ∧ j < z) (hi : j.toNatClampNeg = i) (hv : i < vs.length) (hd : decode c.code pc = .ok (.bastore, 1)) (hp : pc + 1 = pc')
    (kk : ∀ T' h', Stand p l e R s m args below meth c T' (locs ++ [⟨a, i⟩]) cells slots → T'.heap = h' → Wr h h' a i (.int (nar .byte x)) → Arv Z h' a kc .byte z (vs.set i (.int (nar .byte x))) dv → Goes p.tables e below P (T'.setTop (mkF m pc' L S))) : Goes p.tables e below P (T.setTop (mkF m pc L ((.int x) :: .int j :: .ref a :: S))) := by
  subst hp
  obtain ⟨cl, A1, q1, S1, N1, H1, G1⟩ := A
  obtain ⟨T', h', X', e', W', st⟩ := stB X hx hZ eT A1 (j := j) (x := x) (inb_of S1 hj) (g := mkF m pc L ((.int x) :: .int j :: .ref a :: S)) rfl rfl hd
  have V' := Arv.set A1 q1 S1 N1 H1 G1 (fits_nar_byte _) W' i hi hv
  rw [hi] at X' W'
  exact (kk T' h' X' e' W' V').on st
theorem o_stZ (X : Stand p l e R s m args below meth c T locs cells slots) (hx : p.tables.exec = Jvm.exec) (hZ : Z.Warmed39 s.vm) (eT : T.heap = h) {a : Addr} {kc : ClassId} {z : Int32} {vs : List Value} {dv : Value} (A : Arv Z h a kc .boolean z vs dv) {j : Int32} {x : Int32} {i : Nat} (hj : ¬ j < 0 ∧ j < z) (hi : j.toNatClampNeg = i) (hv : i < vs.length) (hd : decode c.code pc = .ok (.bastore, 1)) (hp : pc + 1 = pc')
    (kk : ∀ T' h', Stand p l e R s m args below meth c T' (locs ++ [⟨a, i⟩]) cells slots → T'.heap = h' → Wr h h' a i (.int (nar .boolean x)) → Arv Z h' a kc .boolean z (vs.set i (.int (nar .boolean x))) dv → Goes p.tables e below P (T'.setTop (mkF m pc' L S))) : Goes p.tables e below P (T.setTop (mkF m pc L ((.int x) :: .int j :: .ref a :: S))) := by
  subst hp
  obtain ⟨cl, A1, q1, S1, N1, H1, G1⟩ := A
  obtain ⟨T', h', X', e', W', st⟩ := stZ X hx hZ eT A1 (j := j) (x := x) (inb_of S1 hj) (g := mkF m pc L ((.int x) :: .int j :: .ref a :: S)) rfl rfl hd
  have V' := Arv.set A1 q1 S1 N1 H1 G1 (fits_nar_bool _) W' i hi hv
  rw [hi] at X' W'
  exact (kk T' h' X' e' W' V').on st
theorem o_stD (X : Stand p l e R s m args below meth c T locs cells slots) (hx : p.tables.exec = Jvm.exec) (hZ : Z.Warmed39 s.vm) (eT : T.heap = h) {a : Addr} {kc : ClassId} {z : Int32} {vs : List Value} {dv : Value} (A : Arv Z h a kc .double z vs dv) {j : Int32} {x : UInt64} {i : Nat} (hj : ¬ j < 0 ∧ j < z) (hi : j.toNatClampNeg = i) (hv : i < vs.length) (hd : decode c.code pc = .ok (.dastore, 1)) (hp : pc + 1 = pc')
    (kk : ∀ T' h', Stand p l e R s m args below meth c T' (locs ++ [⟨a, i⟩]) cells slots → T'.heap = h' → Wr h h' a i (.double x) → Arv Z h' a kc .double z (vs.set i (.double x)) dv → Goes p.tables e below P (T'.setTop (mkF m pc' L S))) : Goes p.tables e below P (T.setTop (mkF m pc L ((.double x) :: .int j :: .ref a :: S))) := by
  subst hp
  obtain ⟨cl, A1, q1, S1, N1, H1, G1⟩ := A
  obtain ⟨T', h', X', e', W', st⟩ := stD X hx hZ eT A1 (j := j) (x := x) (inb_of S1 hj) (g := mkF m pc L ((.double x) :: .int j :: .ref a :: S)) rfl rfl hd
  have V' := Arv.set A1 q1 S1 N1 H1 G1 (rfl) W' i hi hv
  rw [hi] at X' W'
  exact (kk T' h' X' e' W' V').on st
theorem o_castY (X : Stand p l e R s m args below meth c T locs cells slots) (hx : p.tables.exec = Jvm.exec) (hZ : Z.Warmed39 s.vm) {own K : String} {index : Nat} (hown : s.vm.findClass own = some m.cls) (w : (Cond.classLink own index K).before a0 Z = true) (eT : T.heap = h) {a : Addr} (F : Ins Z h a K true) (hd : decode c.code pc = .ok (.checkcast index, 3)) (hp : pc + 3 = pc')
    (kk : ∀ T', Stand p l e R s m args below meth c T' locs cells slots → T'.heap = h → Goes p.tables e below P (T'.setTop (mkF m pc' L (.ref a :: S)))) : Goes p.tables e below P (T.setTop (mkF m pc L (.ref a :: S))) := by
  subst hp
  obtain ⟨T', X', e', st⟩ := castY X hx hZ hown w eT F (g := mkF m pc L (.ref a :: S)) rfl rfl hd
  exact (kk T' X' e').on st
theorem o_instY (X : Stand p l e R s m args below meth c T locs cells slots) (hx : p.tables.exec = Jvm.exec) (hZ : Z.Warmed39 s.vm) {own K : String} {index : Nat} (hown : s.vm.findClass own = some m.cls) (w : (Cond.classLink own index K).before a0 Z = true) (eT : T.heap = h) {a : Addr} (F : Ins Z h a K true) (hd : decode c.code pc = .ok (.instanceof index, 3)) (hp : pc + 3 = pc')
    (kk : ∀ T', Stand p l e R s m args below meth c T' locs cells slots → T'.heap = h → Goes p.tables e below P (T'.setTop (mkF m pc' L (.int 1 :: S)))) : Goes p.tables e below P (T.setTop (mkF m pc L (.ref a :: S))) := by
  subst hp
  obtain ⟨T', X', e', st⟩ := instY X hx hZ hown w eT F (g := mkF m pc L (.ref a :: S)) rfl rfl hd
  exact (kk T' X' e').on st
theorem o_instNo (X : Stand p l e R s m args below meth c T locs cells slots) (hx : p.tables.exec = Jvm.exec) (hZ : Z.Warmed39 s.vm) {own K C : String} {index : Nat} (hown : s.vm.findClass own = some m.cls) (w : (Cond.classLink own index K).before a0 Z = true) (eT : T.heap = h) {a : Addr} (E : Exa Z h a C) (F : ∃ c t, Z.vm.findClass C = some c ∧ Z.vm.findClass K = some t ∧ Z.vm.assignable c t = false) (hd : decode c.code pc = .ok (.instanceof index, 3)) (hp : pc + 3 = pc')
    (kk : ∀ T', Stand p l e R s m args below meth c T' locs cells slots → T'.heap = h → Goes p.tables e below P (T'.setTop (mkF m pc' L (.int 0 :: S)))) : Goes p.tables e below P (T.setTop (mkF m pc L (.ref a :: S))) := by
  subst hp
  obtain ⟨T', X', e', st⟩ := instNo X hx hZ hown w eT E F (g := mkF m pc L (.ref a :: S)) rfl rfl hd
  exact (kk T' X' e').on st
theorem o_static (X : Stand p l e R s m args below meth c T locs cells slots) (hx : p.tables.exec = Jvm.exec) (hZ : Z.Warmed39 s.vm) {own : String} {index : Nat} {y : MethodName} {bytes : ByteArray} {maxL : Nat} {ret : Option FieldType} (hown : s.vm.findClass own = some m.cls) (w1 : (Cond.methodLink own index y).before a0 Z = true) (w2 : (Cond.static y).before a0 Z = true) (hy : y.cls ≠ "java/lang/invoke/MethodHandle" ∧ y.cls ≠ "java/lang/invoke/VarHandle") {rm : Room} {as' : Array Value} {Q : Option Value → Heap → List Loc → Prop} (hM : Met l Z y bytes maxL ret rm [] as' h Q) (hwc : (Cond.code y bytes maxL ret).before a0 Z = true) (hwi : (Cond.initialized y.cls).before a0 Z = true) (eT : T.heap = h) (hsize : L.size = c.maxLocals) {argsL rest : List Value} {W : Nat} {ps : List FieldType} {rr : Option FieldType} (hpd : parseMethodDescriptor y.desc = some ⟨ps, rr⟩) (hlen : argsL.length = ps.length) (hst : S = argsL.reverse ++ rest) (has : as' = (argsL).toArray) (hW : (rest.map fun v => v.category).sum = W) (hd : decode c.code pc = .ok (.invokestatic index, 3)) (hf : rm.frames + 1 ≤ R.frames) (hlo : W + (maxL + 11) + rm.locals ≤ R.locals) (hc : cells + rm.cells ≤ R.cells) (hs : slots + rm.slots ≤ R.slots) (hc' : cells + rm.cells = cells') (hs' : slots + rm.slots = slots') (hp : pc + 3 = pc')
    (kk : ∀ v T' h' Lc, Stand p l e R s m args below meth c T' (locs ++ Lc) cells' slots' → T'.heap = h' → Q v h' Lc → Goes p.tables e below P (T'.setTop (mkF m pc' L (v.toList ++ rest)))) : Goes p.tables e below P (T.setTop (mkF m pc L S)) := by
  subst hp hc' hs' hst has
  obtain ⟨_, _, ⟨T1, L1, k1, n1⟩, -, X1, ⟨Lc, hQ, l1, y1, z1⟩, st⟩ := Jvm.LawKit.callS X hx hown (mvT hZ w1) (mvT hZ w2) (mvT hZ hwi) (mvT hZ hwc) hy (backOf (W := W) hM hZ hwc hwi hf hlo) (g := mkF m pc L (argsL.reverse ++ rest)) rfl hsize (argsL := argsL) (rest := rest) (lenOf hpd hlen) rfl (by rw [← hW]; show 2 * 0 + _ ≤ _; omega) hd (fun _ _ => ⟨rfl, eT, hc, hs⟩)
  dsimp only [Pt.U, Pt.locs, Pt.cells, Pt.slots] at X1 l1 y1 z1 st hQ
  subst l1 y1 z1
  exact (kk _ _ _ _ X1 rfl hQ).on st
theorem o_special (X : Stand p l e R s m args below meth c T locs cells slots) (hx : p.tables.exec = Jvm.exec) (hZ : Z.Warmed39 s.vm) {own : String} {index : Nat} {y : MethodName} {bytes : ByteArray} {maxL : Nat} {ret : Option FieldType} (hr : ret = none) (hy1 : y.name = "<init>") (hown : s.vm.findClass own = some m.cls) (w1 : (Cond.methodLink own index y).before a0 Z = true) (w2 : (Cond.instanceMethod y).before a0 Z = true) (hy : y.cls ≠ "java/lang/invoke/MethodHandle" ∧ y.cls ≠ "java/lang/invoke/VarHandle") {a : Addr} {rm : Room} {as' : Array Value} {Q : Option Value → Heap → List Loc → Prop} (hM : Met l Z y bytes maxL ret rm [] as' h Q) (hwc : (Cond.code y bytes maxL ret).before a0 Z = true) (hwi : (Cond.initialized y.cls).before a0 Z = true) (eT : T.heap = h) (hsize : L.size = c.maxLocals) {argsL rest : List Value} {W : Nat} {ps : List FieldType} {rr : Option FieldType} (hpd : parseMethodDescriptor y.desc = some ⟨ps, rr⟩) (hlen : argsL.length = ps.length) (hst : S = argsL.reverse ++ .ref a :: rest) (has : as' = (.ref a :: argsL).toArray) (hW : (rest.map fun v => v.category).sum = W) (hd : decode c.code pc = .ok (.invokespecial index, 3)) (hf : rm.frames + 1 ≤ R.frames) (hlo : W + (maxL + 11) + rm.locals ≤ R.locals) (hc : cells + rm.cells ≤ R.cells) (hs : slots + rm.slots ≤ R.slots) (hc' : cells + rm.cells = cells') (hs' : slots + rm.slots = slots') (hp : pc + 3 = pc')
    (kk : ∀ v T' h' Lc, Stand p l e R s m args below meth c T' (locs ++ Lc) cells' slots' → T'.heap = h' → Q v h' Lc → Goes p.tables e below P (T'.setTop (mkF m pc' L (v.toList ++ rest)))) : Goes p.tables e below P (T.setTop (mkF m pc L S)) := by
  subst hp hc' hs' hst has hr
  obtain ⟨_, _, ⟨T1, L1, k1, n1⟩, -, X1, ⟨Lc, hQ, l1, y1, z1⟩, st⟩ := X.specialBack hx hy1 hown (mvT hZ w1) (mvT hZ w2) (mvT hZ hwc) hy (backOf (W := W) hM hZ hwc hwi hf hlo) (g := mkF m pc L (argsL.reverse ++ .ref a :: rest)) rfl hsize (Steps.refl _) (a := a) (argsL := argsL) (rest := rest) (lenOf hpd hlen) rfl (by rw [← hW]; show 2 * 0 + _ ≤ _; omega) hd (fun _ _ => ⟨rfl, eT, hc, hs⟩)
  dsimp only [Pt.U, Pt.locs, Pt.cells, Pt.slots] at X1 l1 y1 z1 st hQ
  subst l1 y1 z1
  exact (kk _ _ _ _ X1 rfl hQ).to st
theorem o_virtual (X : Stand p l e R s m args below meth c T locs cells slots) (hx : p.tables.exec = Jvm.exec) (hZ : Z.Warmed39 s.vm) {own C : String} {index : Nat} {y z : MethodName} {bytes : ByteArray} {maxL : Nat} {ret : Option FieldType} (hown : s.vm.findClass own = some m.cls) (w1 : (Cond.methodLink own index y).before a0 Z = true) (w2 : (Cond.declares y).before a0 Z = true) (hnf : NotFace s y) (w3 : (Cond.selects C y z).before a0 Z = true) (w4 : (Cond.instanceMethod z).before a0 Z = true) (hy : y.cls ≠ "java/lang/invoke/MethodHandle" ∧ y.cls ≠ "java/lang/invoke/VarHandle") {a : Addr} (E : Exa Z h a C) {rm : Room} {as' : Array Value} {Q : Option Value → Heap → List Loc → Prop} (hM : Met l Z z bytes maxL ret rm [] as' h Q) (hwc : (Cond.code z bytes maxL ret).before a0 Z = true) (hwi : (Cond.initialized z.cls).before a0 Z = true) (eT : T.heap = h) (hsize : L.size = c.maxLocals) {argsL rest : List Value} {W : Nat} {ps : List FieldType} {rr : Option FieldType} (hpd : parseMethodDescriptor y.desc = some ⟨ps, rr⟩) (hlen : argsL.length = ps.length) (hst : S = argsL.reverse ++ .ref a :: rest) (has : as' = (.ref a :: argsL).toArray) (hW : (rest.map fun v => v.category).sum = W) (hd : decode c.code pc = .ok (.invokevirtual index, 3)) (hf : rm.frames + 1 ≤ R.frames) (hlo : W + (maxL + 11) + rm.locals ≤ R.locals) (hc : cells + rm.cells ≤ R.cells) (hs : slots + rm.slots ≤ R.slots) (hc' : cells + rm.cells = cells') (hs' : slots + rm.slots = slots') (hp : pc + 3 = pc')
    (kk : ∀ v T' h' Lc, Stand p l e R s m args below meth c T' (locs ++ Lc) cells' slots' → T'.heap = h' → Q v h' Lc → Goes p.tables e below P (T'.setTop (mkF m pc' L (v.toList ++ rest)))) : Goes p.tables e below P (T.setTop (mkF m pc L S)) := by
  subst hp hc' hs' hst has
  obtain ⟨cq, kq, qa, qb, qc⟩ := isOf (T := T) hZ eT E
  obtain ⟨_, _, ⟨T1, L1, k1, n1⟩, -, X1, ⟨Lc, hQ, l1, y1, z1⟩, st⟩ := X.virtualBack hx hown (mvT hZ w1) (mvT hZ w2) hnf (mvT hZ w3) (mvT hZ w4) hy (backOf (W := W) hM hZ hwc hwi hf hlo) qa qc (g := mkF m pc L (argsL.reverse ++ .ref a :: rest)) rfl hsize (Steps.refl _) (argsL := argsL) (rest := rest) (lenOf hpd hlen) rfl (by rw [← hW]; show 2 * 0 + _ ≤ _; omega) hd (fun _ _ => ⟨rfl, eT, hc, hs⟩)
  dsimp only [Pt.U, Pt.locs, Pt.cells, Pt.slots] at X1 l1 y1 z1 st hQ
  subst l1 y1 z1
  exact (kk _ _ _ _ X1 rfl hQ).to st
theorem o_iface (X : Stand p l e R s m args below meth c T locs cells slots) (hx : p.tables.exec = Jvm.exec) (hZ : Z.Warmed39 s.vm) {own C : String} {index count : Nat} {xi y : MethodName} {bytes : ByteArray} {maxL : Nat} {ret : Option FieldType} (hown : s.vm.findClass own = some m.cls) (w1 : (Cond.methodLink own index xi).before a0 Z = true) (w2 : (Cond.declares xi).before a0 Z = true) (w3 : (Cond.interfaceMethod xi.cls xi.cls xi.name xi.desc).before args s = true) (w4 : (Cond.selects C xi y).before a0 Z = true) (w5 : (Cond.instanceMethod y).before a0 Z = true) (w6 : (Cond.publicMethod y).before a0 Z = true) (w7 : (Cond.unhidden C xi.name xi.desc).before a0 Z = true) (w8 : (Cond.castable C xi.cls).before a0 Z = true) (hy : xi.cls ≠ "java/lang/invoke/MethodHandle" ∧ xi.cls ≠ "java/lang/invoke/VarHandle") {a : Addr} (E : Exa Z h a C) {rm : Room} {as' : Array Value} {Q : Option Value → Heap → List Loc → Prop} (hM : Met l Z y bytes maxL ret rm [] as' h Q) (hwc : (Cond.code y bytes maxL ret).before a0 Z = true) (hwi : (Cond.initialized y.cls).before a0 Z = true) (eT : T.heap = h) (hsize : L.size = c.maxLocals) {argsL rest : List Value} {W : Nat} {ps : List FieldType} {rr : Option FieldType} (hpd : parseMethodDescriptor xi.desc = some ⟨ps, rr⟩) (hlen : argsL.length = ps.length) (hst : S = argsL.reverse ++ .ref a :: rest) (has : as' = (.ref a :: argsL).toArray) (hW : (rest.map fun v => v.category).sum = W) (hd : decode c.code pc = .ok (.invokeinterface index count, 5)) (hf : rm.frames + 1 ≤ R.frames) (hlo : W + (maxL + 11) + rm.locals ≤ R.locals) (hc : cells + rm.cells ≤ R.cells) (hs : slots + rm.slots ≤ R.slots) (hc' : cells + rm.cells = cells') (hs' : slots + rm.slots = slots') (hp : pc + 5 = pc')
    (kk : ∀ v T' h' Lc, Stand p l e R s m args below meth c T' (locs ++ Lc) cells' slots' → T'.heap = h' → Q v h' Lc → Goes p.tables e below P (T'.setTop (mkF m pc' L (v.toList ++ rest)))) : Goes p.tables e below P (T.setTop (mkF m pc L S)) := by
  subst hp hc' hs' hst has
  obtain ⟨cq, kq, qa, qb, qc⟩ := isOf (T := T) hZ eT E
  obtain ⟨_, _, ⟨T1, L1, k1, n1⟩, -, X1, ⟨Lc, hQ, l1, y1, z1⟩, st⟩ := X.interfaceBack hx hown (mvT hZ w1) (mvT hZ w2) w3 (mvT hZ w4) (mvT hZ w5) (mvT hZ w6) (mvT hZ w7) (mvT hZ w8) hy (backOf (W := W) hM hZ hwc hwi hf hlo) qa qb qc (g := mkF m pc L (argsL.reverse ++ .ref a :: rest)) rfl hsize (Steps.refl _) (argsL := argsL) (rest := rest) (lenOf hpd hlen) rfl (by rw [← hW]; show 2 * 0 + _ ≤ _; omega) hd (fun _ _ => ⟨rfl, eT, hc, hs⟩)
  dsimp only [Pt.U, Pt.locs, Pt.cells, Pt.slots] at X1 l1 y1 z1 st hQ
  subst l1 y1 z1
  exact (kk _ _ _ _ X1 rfl hQ).to st
theorem o_virtualUp (X : Stand p l e R s m args below meth c T locs cells slots) (hx : p.tables.exec = Jvm.exec) (hZ : Z.Warmed39 s.vm) {own C owner : String} {index : Nat} {x y : MethodName} {bytes : ByteArray} {maxL : Nat} {ret : Option FieldType} (hown : s.vm.findClass own = some m.cls) (w1 : (Cond.methodLink own index x).before a0 Z = true) (w2 : (Cond.sameMethod x.cls owner x.name x.desc).before a0 Z = true) (w2' : (Cond.declares ⟨owner, x.name, x.desc⟩).before a0 Z = true) (w3 : (Cond.selects C x y).before a0 Z = true) (w4 : (Cond.instanceMethod y).before a0 Z = true) (hy : owner ≠ "java/lang/invoke/MethodHandle" ∧ owner ≠ "java/lang/invoke/VarHandle") {a : Addr} (E : Exa Z h a C) {rm : Room} {as' : Array Value} {Q : Option Value → Heap → List Loc → Prop} (hM : Met l Z y bytes maxL ret rm [] as' h Q) (hwc : (Cond.code y bytes maxL ret).before a0 Z = true) (hwi : (Cond.initialized y.cls).before a0 Z = true) (eT : T.heap = h) (hsize : L.size = c.maxLocals) {argsL rest : List Value} {W : Nat} {ps : List FieldType} {rr : Option FieldType} (hpd : parseMethodDescriptor x.desc = some ⟨ps, rr⟩) (hlen : argsL.length = ps.length) (hst : S = argsL.reverse ++ .ref a :: rest) (has : as' = (.ref a :: argsL).toArray) (hW : (rest.map fun v => v.category).sum = W) (hd : decode c.code pc = .ok (.invokevirtual index, 3)) (hf : rm.frames + 1 ≤ R.frames) (hlo : W + (maxL + 11) + rm.locals ≤ R.locals) (hc : cells + rm.cells ≤ R.cells) (hs : slots + rm.slots ≤ R.slots) (hc' : cells + rm.cells = cells') (hs' : slots + rm.slots = slots') (hp : pc + 3 = pc')
    (kk : ∀ v T' h' Lc, Stand p l e R s m args below meth c T' (locs ++ Lc) cells' slots' → T'.heap = h' → Q v h' Lc → Goes p.tables e below P (T'.setTop (mkF m pc' L (v.toList ++ rest)))) : Goes p.tables e below P (T.setTop (mkF m pc L S)) := by
  subst hp hc' hs' hst has
  obtain ⟨cq, kq, qa, qb, qc⟩ := isOf (T := T) hZ eT E
  obtain ⟨_, _, ⟨T1, L1, k1, n1⟩, -, X1, ⟨Lc, hQ, l1, y1, z1⟩, st⟩ := X.virtualBackUp hx hown (mvT hZ w1) (mvT hZ w2) (mvT hZ w2') hy (mvT hZ w3) (mvT hZ w4) (backOf (W := W) hM hZ hwc hwi hf hlo) qa qc (g := mkF m pc L (argsL.reverse ++ .ref a :: rest)) rfl hsize (Steps.refl _) (argsL := argsL) (rest := rest) (lenOf hpd hlen) rfl (by rw [← hW]; show 2 * 0 + _ ≤ _; omega) hd (fun _ _ => ⟨rfl, eT, hc, hs⟩)
  dsimp only [Pt.U, Pt.locs, Pt.cells, Pt.slots] at X1 l1 y1 z1 st hQ
  subst l1 y1 z1
  exact (kk _ _ _ _ X1 rfl hQ).to st
theorem o_alen (X : Stand p l e R s m args below meth c T locs cells slots) (hx : p.tables.exec = Jvm.exec) (hZ : Z.Warmed39 s.vm) (eT : T.heap = h) {a : Addr} {kc : ClassId} {ty : FieldType} {z : Int32} {vs : List Value} {dv : Value} (A : Arv Z h a kc ty z vs dv) (hd : decode c.code pc = .ok (.arraylength, 1)) (hp : pc + 1 = pc') (kk : Goes p.tables e below P (T.setTop (mkF m pc' L (.int z :: S)))) : Goes p.tables e below P (T.setTop (mkF m pc L (.ref a :: S))) := by
  subst hp
  obtain ⟨cl, A1, q1, S1, N1, H1, G1⟩ := A
  rw [← len_of S1 N1] at kk
  exact kk.on fun _ k => X.arraylength hx (by rw [eT]; exact A1.1) (State.isArrayOf_alike hZ.alike A1.2.1) (g := mkF m pc L (.ref a :: S)) rfl rfl hd _ k
theorem o_iaload (X : Stand p l e R s m args below meth c T locs cells slots) (hx : p.tables.exec = Jvm.exec) (hZ : Z.Warmed39 s.vm) (eT : T.heap = h) {a : Addr} {kc : ClassId} {z : Int32} {vs : List Value} {dv v : Value} (A : Arv Z h a kc .int z vs dv) {j : Int32} (hj : ¬ j < 0 ∧ j < z) (hv : vs.getD j.toNatClampNeg dv = v) (hd : decode c.code pc = .ok (.iaload, 1)) (hp : pc + 1 = pc') (kk : Goes p.tables e below P (T.setTop (mkF m pc' L (v :: S)))) : Goes p.tables e below P (T.setTop (mkF m pc L (.int j :: .ref a :: S))) := by
  subst hp
  obtain ⟨cl, A1, q1, S1, N1, H1, G1⟩ := A
  have hin := inb_of S1 hj
  exact kk.on fun _ k => X.iaload hx (j := j) (v := v) (by rw [eT]; exact A1.1) (State.isArrayOf_alike hZ.alike A1.2.1) A1.2.2 hin (H1.at hin hv) (g := mkF m pc L (.int j :: .ref a :: S)) rfl rfl hd _ k
theorem o_laload (X : Stand p l e R s m args below meth c T locs cells slots) (hx : p.tables.exec = Jvm.exec) (hZ : Z.Warmed39 s.vm) (eT : T.heap = h) {a : Addr} {kc : ClassId} {z : Int32} {vs : List Value} {dv v : Value} (A : Arv Z h a kc .long z vs dv) {j : Int32} (hj : ¬ j < 0 ∧ j < z) (hv : vs.getD j.toNatClampNeg dv = v) (hd : decode c.code pc = .ok (.laload, 1)) (hp : pc + 1 = pc') (kk : Goes p.tables e below P (T.setTop (mkF m pc' L (v :: S)))) : Goes p.tables e below P (T.setTop (mkF m pc L (.int j :: .ref a :: S))) := by
  subst hp
  obtain ⟨cl, A1, q1, S1, N1, H1, G1⟩ := A
  have hin := inb_of S1 hj
  exact kk.on fun _ k => X.laload hx (j := j) (v := v) (by rw [eT]; exact A1.1) (State.isArrayOf_alike hZ.alike A1.2.1) A1.2.2 hin (H1.at hin hv) (g := mkF m pc L (.int j :: .ref a :: S)) rfl rfl hd _ k
theorem o_caload (X : Stand p l e R s m args below meth c T locs cells slots) (hx : p.tables.exec = Jvm.exec) (hZ : Z.Warmed39 s.vm) (eT : T.heap = h) {a : Addr} {kc : ClassId} {z : Int32} {vs : List Value} {dv v : Value} (A : Arv Z h a kc .char z vs dv) {j : Int32} (hj : ¬ j < 0 ∧ j < z) (hv : vs.getD j.toNatClampNeg dv = v) (hd : decode c.code pc = .ok (.caload, 1)) (hp : pc + 1 = pc') (kk : Goes p.tables e below P (T.setTop (mkF m pc' L (v :: S)))) : Goes p.tables e below P (T.setTop (mkF m pc L (.int j :: .ref a :: S))) := by
  subst hp
  obtain ⟨cl, A1, q1, S1, N1, H1, G1⟩ := A
  have hin := inb_of S1 hj
  exact kk.on fun _ k => X.caload hx (j := j) (v := v) (by rw [eT]; exact A1.1) (State.isArrayOf_alike hZ.alike A1.2.1) A1.2.2 hin (H1.at hin hv) (g := mkF m pc L (.int j :: .ref a :: S)) rfl rfl hd _ k
theorem o_baloadBytes (X : Stand p l e R s m args below meth c T locs cells slots) (hx : p.tables.exec = Jvm.exec) (hZ : Z.Warmed39 s.vm) (eT : T.heap = h) {a : Addr} {kc : ClassId} {z : Int32} {vs : List Value} {dv v : Value} (A : Arv Z h a kc .byte z vs dv) {j : Int32} (hj : ¬ j < 0 ∧ j < z) (hv : vs.getD j.toNatClampNeg dv = v) (hd : decode c.code pc = .ok (.baload, 1)) (hp : pc + 1 = pc') (kk : Goes p.tables e below P (T.setTop (mkF m pc' L (v :: S)))) : Goes p.tables e below P (T.setTop (mkF m pc L (.int j :: .ref a :: S))) := by
  subst hp
  obtain ⟨cl, A1, q1, S1, N1, H1, G1⟩ := A
  have hin := inb_of S1 hj
  exact kk.on fun _ k => X.baloadBytes hx (j := j) (v := v) (by rw [eT]; exact A1.1) (State.isArrayOf_alike hZ.alike A1.2.1) A1.2.2 hin (H1.at hin hv) (g := mkF m pc L (.int j :: .ref a :: S)) rfl rfl hd _ k
theorem o_daload (X : Stand p l e R s m args below meth c T locs cells slots) (hx : p.tables.exec = Jvm.exec) (hZ : Z.Warmed39 s.vm) (eT : T.heap = h) {a : Addr} {kc : ClassId} {z : Int32} {vs : List Value} {dv v : Value} (A : Arv Z h a kc .double z vs dv) {j : Int32} (hj : ¬ j < 0 ∧ j < z) (hv : vs.getD j.toNatClampNeg dv = v) (hd : decode c.code pc = .ok (.daload, 1)) (hp : pc + 1 = pc') (kk : Goes p.tables e below P (T.setTop (mkF m pc' L (v :: S)))) : Goes p.tables e below P (T.setTop (mkF m pc L (.int j :: .ref a :: S))) := by
  subst hp
  obtain ⟨cl, A1, q1, S1, N1, H1, G1⟩ := A
  have hin := inb_of S1 hj
  exact kk.on fun _ k => X.daload hx (j := j) (v := v) (by rw [eT]; exact A1.1) (State.isArrayOf_alike hZ.alike A1.2.1) A1.2.2 hin (H1.at hin hv) (g := mkF m pc L (.int j :: .ref a :: S)) rfl rfl hd _ k
end Own
section Flt
variable {p : Program} {l : Launch} {e : Env} {R : Room} {s : State} {m : MethodId} {args : Array Value} {below : List Frame} {meth : Method} {c : Code} {T : State} {locs : List Loc} {cells slots cells' slots' : Nat} {Z : State} {a0 : Array Value} {h : Heap} {P : Outcome → State → Prop} {pc pc' : Nat} {L L' : Array Slot} {S : List Value}
theorem o_dloadN (X : Stand p l e R s m args below meth c T locs cells slots) (hx : p.tables.exec = Jvm.exec) {k : Fin 4} {v : UInt64} (hd : decode c.code pc = .ok (.dload_n k, 1)) (hl : L[k.val]? = some (.val (.double v))) (hp : pc + 1 = pc') (kk : Goes p.tables e below P (T.setTop (mkF m pc' L (.double v :: S)))) : Goes p.tables e below P (T.setTop (mkF m pc L S)) := by
  subst hp; exact kk.on fun _ k => XS.dloadN X.here hx rfl hd hl k
theorem o_dload (X : Stand p l e R s m args below meth c T locs cells slots) (hx : p.tables.exec = Jvm.exec) {k : Nat} {v : UInt64} (hd : decode c.code pc = .ok (.dload k, 2)) (hl : L[k]? = some (.val (.double v))) (hp : pc + 2 = pc') (kk : Goes p.tables e below P (T.setTop (mkF m pc' L (.double v :: S)))) : Goes p.tables e below P (T.setTop (mkF m pc L S)) := by
  subst hp; exact kk.on fun _ k => XS.dload X.here hx rfl hd hl k
theorem o_dstoreN (X : Stand p l e R s m args below meth c T locs cells slots) (hx : p.tables.exec = Jvm.exec) {k : Fin 4} {x : UInt64} (hd : decode c.code pc = .ok (.dstore_n k, 1)) (hl : storeLocals L k.val (.double x) = some L') (hp : pc + 1 = pc') (kk : Goes p.tables e below P (T.setTop (mkF m pc' L' S))) : Goes p.tables e below P (T.setTop (mkF m pc L (.double x :: S))) := by
  subst hp; exact kk.on fun _ k => XS.dstoreN X.here hx rfl hd rfl hl k
theorem o_dstore (X : Stand p l e R s m args below meth c T locs cells slots) (hx : p.tables.exec = Jvm.exec) {k : Nat} {x : UInt64} (hd : decode c.code pc = .ok (.dstore k, 2)) (hl : storeLocals L k (.double x) = some L') (hp : pc + 2 = pc') (kk : Goes p.tables e below P (T.setTop (mkF m pc' L' S))) : Goes p.tables e below P (T.setTop (mkF m pc L (.double x :: S))) := by
  subst hp; exact kk.on fun _ k => XS.dstore X.here hx rfl hd rfl hl k
theorem o_dnn {i : Int} {v : UInt64} (h : Jvm.FP.Core.DInt i v) : Jvm.Free.Fl.NoNaN64 v := Jvm.Free.Fl.noNaN64_no.mpr ((Jvm.FP.Core.notNaN_iff v).mpr (fun q => by unfold Jvm.FP.Core.DInt at h; rw [q] at h; exact h))
theorem o_daddI (X : Stand p l e R s m args below meth c T locs cells slots) (hx : p.tables.exec = Jvm.exec) {x y : UInt64} {i j k : Int} (hd : decode c.code pc = .ok (.dadd, 1)) (ha : Jvm.FP.Core.DInt i x) (hb : Jvm.FP.Core.DInt j y) (hk : i + j = k) (hB : k.natAbs ≤ 2 ^ 53) (hp : pc + 1 = pc') (kk : ∀ v, Jvm.FP.Core.DInt k v → Goes p.tables e below P (T.setTop (mkF m pc' L (.double v :: S)))) : Goes p.tables e below P (T.setTop (mkF m pc L (.double y :: .double x :: S))) := by
  subst hk hp
  have hv : Jvm.FP.Core.DInt (i + j) (Jvm.FP.dadd x y) := Jvm.FP.Core.dadd_int ha hb hB
  exact (kk _ hv).on fun _ q => XS.daddS X.here hx rfl hd rfl (o_dnn hv) rfl q
theorem o_dsubI (X : Stand p l e R s m args below meth c T locs cells slots) (hx : p.tables.exec = Jvm.exec) {x y : UInt64} {i j k : Int} (hd : decode c.code pc = .ok (.dsub, 1)) (ha : Jvm.FP.Core.DInt i x) (hb : Jvm.FP.Core.DInt j y) (hk : i - j = k) (hB : k.natAbs ≤ 2 ^ 53) (hp : pc + 1 = pc') (kk : ∀ v, Jvm.FP.Core.DInt k v → Goes p.tables e below P (T.setTop (mkF m pc' L (.double v :: S)))) : Goes p.tables e below P (T.setTop (mkF m pc L (.double y :: .double x :: S))) := by
  subst hk hp
  have hv : Jvm.FP.Core.DInt (i - j) (Jvm.FP.dsub x y) := Jvm.FP.Core.dsub_int ha hb hB
  exact (kk _ hv).on fun _ q => XS.dsubS X.here hx rfl hd rfl (o_dnn hv) rfl q
theorem o_dmulI (X : Stand p l e R s m args below meth c T locs cells slots) (hx : p.tables.exec = Jvm.exec) {x y : UInt64} {i j k : Int} (hd : decode c.code pc = .ok (.dmul, 1)) (ha : Jvm.FP.Core.DInt i x) (hb : Jvm.FP.Core.DInt j y) (hk : i * j = k) (hB : k.natAbs ≤ 2 ^ 53) (hp : pc + 1 = pc') (kk : ∀ v, Jvm.FP.Core.DInt k v → Goes p.tables e below P (T.setTop (mkF m pc' L (.double v :: S)))) : Goes p.tables e below P (T.setTop (mkF m pc L (.double y :: .double x :: S))) := by
  subst hk hp
  have hv : Jvm.FP.Core.DInt (i * j) (Jvm.FP.dmul x y) := Jvm.FP.Core.dmul_int ha hb hB
  exact (kk _ hv).on fun _ q => XS.dmulS X.here hx rfl hd rfl (o_dnn hv) rfl q
theorem o_l2dI (X : Stand p l e R s m args below meth c T locs cells slots) (hx : p.tables.exec = Jvm.exec) {x : Int64} (hd : decode c.code pc = .ok (.l2d, 1)) (hB : x.toInt.natAbs ≤ 2 ^ 53) (hp : pc + 1 = pc') (kk : ∀ v, Jvm.FP.Core.DInt x.toInt v → Goes p.tables e below P (T.setTop (mkF m pc' L (.double v :: S)))) : Goes p.tables e below P (T.setTop (mkF m pc L (.long x :: S))) := by
  subst hp
  exact (kk _ (Jvm.FP.Core.l2d_int hB)).on fun _ q => XS.l2dS X.here hx rfl hd rfl rfl q
theorem o_i2dI (X : Stand p l e R s m args below meth c T locs cells slots) (hx : p.tables.exec = Jvm.exec) {x : Int32} (hd : decode c.code pc = .ok (.i2d, 1)) (hp : pc + 1 = pc') (kk : ∀ v, Jvm.FP.Core.DInt x.toInt v → Goes p.tables e below P (T.setTop (mkF m pc' L (.double v :: S)))) : Goes p.tables e below P (T.setTop (mkF m pc L (.int x :: S))) := by
  subst hp
  exact (kk _ (Jvm.FP.Core.i2d_int x)).on fun _ q => XS.i2dS X.here hx rfl hd rfl rfl q
theorem o_dconst0I (X : Stand p l e R s m args below meth c T locs cells slots) (hx : p.tables.exec = Jvm.exec) (hd : decode c.code pc = .ok (.dconst 0, 1)) (hp : pc + 1 = pc') (kk : ∀ v, Jvm.FP.Core.DInt 0 v → Goes p.tables e below P (T.setTop (mkF m pc' L (.double v :: S)))) : Goes p.tables e below P (T.setTop (mkF m pc L S)) := by
  subst hp
  exact (kk _ (by have q := Jvm.FP.Core.i2d_int 0; exact q)).on fun _ q => XS.dconst0 X.here hx rfl hd (show Jvm.FP.dconst0 = Jvm.FP.i2d 0 by decide +kernel) q
def cmpZ (i j : Int) : Int32 := if i < j then -1 else if i = j then 0 else 1
theorem oc_lt (i j : Int) : cmpZ i j < 0 ↔ i < j := by unfold cmpZ; split <;> (try split) <;> simp_all <;> (first | decide | omega)
theorem oc_gt (i j : Int) : 0 < cmpZ i j ↔ j < i := by unfold cmpZ; split <;> (try split) <;> simp_all <;> (first | decide | omega)
theorem oc_eq (i j : Int) : cmpZ i j = 0 ↔ i = j := by unfold cmpZ; split <;> (try split) <;> simp_all <;> (first | decide | omega)
theorem o_dcmpI (X : Stand p l e R s m args below meth c T locs cells slots) (hx : p.tables.exec = Jvm.exec) {x y : UInt64} {i j : Int} {o : CmpOp} (hd : decode c.code pc = .ok (.dcmp o, 1)) (ha : Jvm.FP.Core.DInt i x) (hb : Jvm.FP.Core.DInt j y) (hp : pc + 1 = pc') (kk : Goes p.tables e below P (T.setTop (mkF m pc' L (.int (cmpZ i j) :: S)))) : Goes p.tables e below P (T.setTop (mkF m pc L (.double y :: .double x :: S))) := by
  subst hp
  have hv : cmpValue (Jvm.FP.dcmp x y) o = cmpZ i j := by
    rw [show Jvm.FP.dcmp x y = some (compare i j) from Jvm.FP.Core.dcmp_int ha hb]
    unfold cmpZ
    rcases Int.lt_trichotomy i j with h | h | h
    · rw [Int.compare_eq_lt.mpr h, if_pos h]; cases o <;> rfl
    · rw [Int.compare_eq_eq.mpr h, if_neg (by omega), if_pos h]; cases o <;> rfl
    · rw [Int.compare_eq_gt.mpr h, if_neg (by omega), if_neg (by omega)]; cases o <;> rfl
  exact kk.on fun _ q => XS.dcmpS X.here hx rfl hd rfl hv q
theorem own_sg {i j : Int} {x y z : UInt64} (ha : Jvm.FP.Core.DInt i x) (hb : Jvm.FP.Core.DInt j y) (hz : Jvm.FP.Core.DInt 0 z) : Jvm.FP.Core.dcmp (Jvm.FP.Core.dmul x y) z = some (compare (i * j) 0) ∧ Jvm.FP.Core.val64 (Jvm.FP.Core.dmul x y) ≠ .nan := by
  have hW : Jvm.FP.Core.Whole (i * j) (Jvm.FP.Core.exactProduct (Jvm.FP.Core.val64 x) (Jvm.FP.Core.val64 y)) := Jvm.FP.Core.whole_product ha hb
  by_cases h0 : i * j = 0
  · have q := Jvm.FP.Core.dmul_int ha hb (by rw [h0]; decide)
    exact ⟨Jvm.FP.Core.dcmp_int q hz, Jvm.FP.Core.Whole.ne_nan q⟩
  · have hv := Jvm.FP.Core.val64_dmul x y
    cases hP : Jvm.FP.Core.exactProduct (Jvm.FP.Core.val64 x) (Jvm.FP.Core.val64 y) with
    | nan => rw [hP] at hW; exact hW.elim
    | inf s => rw [hP] at hW; exact hW.elim
    | fin s c q =>
      rw [hP] at hW hv
      have hn : Jvm.FP.Core.val64 (Jvm.FP.Core.dmul x y) ≠ .nan := by rw [hv]; intro h; exact Jvm.FP.Core.Datum.noConfusion (Jvm.FP.Core.round_nan.mp h)
      refine ⟨?_, hn⟩
      rw [Jvm.FP.Core.dcmp_zval hn (Jvm.FP.Core.Whole.ne_nan hz), Jvm.FP.Core.DInt_zval hz, Int.zero_mul]
      generalize hk : i * j = k at *
      have hv' : Jvm.FP.Core.val64 (Jvm.FP.Core.dmul x y) = Jvm.FP.Core.round Jvm.FP.Core.b64 (.fin (decide (k < 0)) k.natAbs 0) := by rw [hv, Jvm.FP.Core.round_whole hW, Jvm.FP.Core.whole_sign hW h0]; rfl
      have h1 := Jvm.FP.Core.one64_pos
      rcases Int.lt_or_gt_of_ne h0 with hneg | hpos
      · have hd1 : Jvm.FP.Core.DInt (-1) (Jvm.FP.Core.i2d (-1)) := Jvm.FP.Core.i2d_int (-1)
        have hz1 := Jvm.FP.Core.DInt_zval hd1
        have r : Jvm.FP.Core.zval Jvm.FP.Core.b64 (Jvm.FP.Core.round Jvm.FP.Core.b64 (.fin (decide (k < 0)) k.natAbs 0)) ≤ Jvm.FP.Core.zval Jvm.FP.Core.b64 (Jvm.FP.Core.val64 (Jvm.FP.Core.i2d (-1))) := by
          refine Jvm.FP.Core.zval_round_le Jvm.FP.Core.good_b64 (Jvm.FP.Core.val64_fits _) (Jvm.FP.Core.Whole.ne_nan hd1) (e0 := Jvm.FP.Core.b64.qmin) (Int.le_refl _) (by decide +kernel) ?_
          rw [Jvm.FP.Core.ofInt_units Jvm.FP.Core.b64, Jvm.FP.Core.pow_qmin64, Int.sub_self]
          show _ ≤ _ * ((1 : Nat) : Int)
          rw [show ((1 : Nat) : Int) = 1 from rfl, Int.mul_one, hz1]
          exact Int.mul_le_mul_of_nonneg_right (by omega) (by omega)
        rw [← hv', hz1] at r
        rw [Int.compare_eq_lt.mpr (show Jvm.FP.Core.zval Jvm.FP.Core.b64 (Jvm.FP.Core.val64 (Jvm.FP.Core.dmul x y)) < 0 by omega), Int.compare_eq_lt.mpr hneg]
      · have hd1 : Jvm.FP.Core.DInt 1 (Jvm.FP.Core.i2d 1) := Jvm.FP.Core.i2d_int 1
        have hz1 := Jvm.FP.Core.DInt_zval hd1
        have r : Jvm.FP.Core.zval Jvm.FP.Core.b64 (Jvm.FP.Core.val64 (Jvm.FP.Core.i2d 1)) ≤ Jvm.FP.Core.zval Jvm.FP.Core.b64 (Jvm.FP.Core.round Jvm.FP.Core.b64 (.fin (decide (k < 0)) k.natAbs 0)) := by
          refine Jvm.FP.Core.zval_round_ge Jvm.FP.Core.good_b64 (Jvm.FP.Core.val64_fits _) (Jvm.FP.Core.Whole.ne_nan hd1) (e0 := Jvm.FP.Core.b64.qmin) (Int.le_refl _) (by decide +kernel) ?_
          rw [Jvm.FP.Core.ofInt_units Jvm.FP.Core.b64, Jvm.FP.Core.pow_qmin64, Int.sub_self]
          show _ * ((1 : Nat) : Int) ≤ _
          rw [show ((1 : Nat) : Int) = 1 from rfl, Int.mul_one, hz1]
          exact Int.mul_le_mul_of_nonneg_right (by omega) (by omega)
        rw [← hv', hz1] at r
        rw [Int.compare_eq_gt.mpr (show 0 < Jvm.FP.Core.zval Jvm.FP.Core.b64 (Jvm.FP.Core.val64 (Jvm.FP.Core.dmul x y)) by omega), Int.compare_eq_gt.mpr hpos]
def Sg (k : Int) (v : UInt64) : Prop := Jvm.Free.Fl.NoNaN64 v ∧ ∀ z, Jvm.FP.Core.DInt 0 z → Jvm.FP.dcmp v z = some (compare k 0)
theorem o_dmulSg (X : Stand p l e R s m args below meth c T locs cells slots) (hx : p.tables.exec = Jvm.exec) {x y : UInt64} {i j : Int} (hd : decode c.code pc = .ok (.dmul, 1)) (ha : Jvm.FP.Core.DInt i x) (hb : Jvm.FP.Core.DInt j y) (hp : pc + 1 = pc') (kk : ∀ v, Sg (i * j) v → Goes p.tables e below P (T.setTop (mkF m pc' L (.double v :: S)))) : Goes p.tables e below P (T.setTop (mkF m pc L (.double y :: .double x :: S))) := by
  subst hp
  have hn : Jvm.Free.Fl.NoNaN64 (Jvm.FP.dmul x y) := Jvm.Free.Fl.noNaN64_no.mpr ((Jvm.FP.Core.notNaN_iff _).mpr (own_sg ha hb (Jvm.FP.Core.i2d_int 0)).2)
  exact (kk _ ⟨hn, fun z hz => (own_sg ha hb hz).1⟩).on fun _ q => XS.dmulS X.here hx rfl hd rfl hn rfl q
theorem o_cmpV {i j : Int} {o : CmpOp} {r : Option Ordering} (h : r = some (compare i j)) : cmpValue r o = cmpZ i j := by
  rw [h]
  unfold cmpZ
  rcases Int.lt_trichotomy i j with h | h | h
  · rw [Int.compare_eq_lt.mpr h, if_pos h]; cases o <;> rfl
  · rw [Int.compare_eq_eq.mpr h, if_neg (by omega), if_pos h]; cases o <;> rfl
  · rw [Int.compare_eq_gt.mpr h, if_neg (by omega), if_neg (by omega)]; cases o <;> rfl
theorem o_dcmpSg (X : Stand p l e R s m args below meth c T locs cells slots) (hx : p.tables.exec = Jvm.exec) {x y : UInt64} {k : Int} {o : CmpOp} (hd : decode c.code pc = .ok (.dcmp o, 1)) (ha : Sg k x) (hb : Jvm.FP.Core.DInt 0 y) (hp : pc + 1 = pc') (kk : Goes p.tables e below P (T.setTop (mkF m pc' L (.int (cmpZ k 0) :: S)))) : Goes p.tables e below P (T.setTop (mkF m pc L (.double y :: .double x :: S))) := by
  subst hp
  exact kk.on fun _ q => XS.dcmpS X.here hx rfl hd rfl (o_cmpV (ha.2 y hb)) q
theorem own_mulb {a b : Int} {A B C : Nat} (ha : a.natAbs ≤ A) (hb : b.natAbs ≤ B) (hC : A * B = C) : (a * b).natAbs ≤ C := by
  subst hC; rw [Int.natAbs_mul]; exact Nat.mul_le_mul ha hb
theorem own_subb {a b : Int} {A B C : Nat} (ha : a.natAbs ≤ A) (hb : b.natAbs ≤ B) (hC : A + B = C) : (a - b).natAbs ≤ C := by omega
theorem own_addb {a b : Int} {A B C : Nat} (ha : a.natAbs ≤ A) (hb : b.natAbs ≤ B) (hC : A + B = C) : (a + b).natAbs ≤ C := by omega
end Flt
theorem own_tq {w : Int32} : 16 ≤ ((16 : Int32) + ((w &&& 2147483647) % 14)).toInt ∧ ((16 : Int32) + ((w &&& 2147483647) % 14)).toInt ≤ 29 := by
  have h : 0 ≤ (w &&& 2147483647).toInt := by
    have hb : (w &&& (2147483647 : Int32)).toInt = ((w.toBitVec &&& 2147483647#32)).toInt := rfl
    rw [hb, BitVec.toInt_eq_toNat_of_msb]
    · exact Int.natCast_nonneg _
    · simp only [BitVec.msb_and, show (2147483647#32).msb = false from by decide, Bool.and_false]
  have h2 : ((w &&& 2147483647) % 14 : Int32).toInt = (w &&& 2147483647).toInt.tmod 14 := by
    rw [Int32.toInt_mod]; rfl
  have h3 : 0 ≤ (w &&& 2147483647).toInt.tmod 14 := Int.tmod_nonneg _ h
  have h4 : (w &&& 2147483647).toInt.tmod 14 < 14 := Int.tmod_lt_of_pos _ (by decide)
  rw [Int32.toInt_add, h2]
  have h5 : (16 : Int32).toInt = 16 := rfl
  rw [h5, Int.bmod_eq_of_le (by omega) (by omega)]
  omega
theorem own_sh {x t : Int32} (h1 : 16 ≤ t.toInt) (h2 : t.toInt ≤ 29) : (Int32.toInt64 (x >>> (t &&& 31))).toInt.natAbs ≤ 32768 := by
  rw [Int32.toInt_toInt64]
  have hx1 := Int32.minValue_le_toInt x
  have hx2 := Int32.toInt_le x
  have e1 : Int32.minValue.toInt = -2147483648 := rfl
  have e2 : Int32.maxValue.toInt = 2147483647 := rfl
  have hc : t = 16 ∨ t = 17 ∨ t = 18 ∨ t = 19 ∨ t = 20 ∨ t = 21 ∨ t = 22 ∨ t = 23 ∨ t = 24 ∨ t = 25 ∨ t = 26 ∨ t = 27 ∨ t = 28 ∨ t = 29 := by
    have q : ∀ k : Int32, t.toInt = k.toInt → t = k := fun k h => Int32.toInt_inj.mp h
    have hh : t.toInt = 16 ∨ t.toInt = 17 ∨ t.toInt = 18 ∨ t.toInt = 19 ∨ t.toInt = 20 ∨ t.toInt = 21 ∨ t.toInt = 22 ∨ t.toInt = 23 ∨ t.toInt = 24 ∨ t.toInt = 25 ∨ t.toInt = 26 ∨ t.toInt = 27 ∨ t.toInt = 28 ∨ t.toInt = 29 := by omega
    rcases hh with h | h | h | h | h | h | h | h | h | h | h | h | h | h
    · exact Or.inl (q 16 h)
    · exact .inr (.inl (q 17 h))
    · exact .inr (.inr (.inl (q 18 h)))
    · exact .inr (.inr (.inr (.inl (q 19 h))))
    · exact .inr (.inr (.inr (.inr (.inl (q 20 h)))))
    · exact .inr (.inr (.inr (.inr (.inr (.inl (q 21 h))))))
    · exact .inr (.inr (.inr (.inr (.inr (.inr (.inl (q 22 h)))))))
    · exact .inr (.inr (.inr (.inr (.inr (.inr (.inr (.inl (q 23 h))))))))
    · exact .inr (.inr (.inr (.inr (.inr (.inr (.inr (.inr (.inl (q 24 h)))))))))
    · exact .inr (.inr (.inr (.inr (.inr (.inr (.inr (.inr (.inr (.inl (q 25 h))))))))))
    · exact .inr (.inr (.inr (.inr (.inr (.inr (.inr (.inr (.inr (.inr (.inl (q 26 h)))))))))))
    · exact .inr (.inr (.inr (.inr (.inr (.inr (.inr (.inr (.inr (.inr (.inr (.inl (q 27 h))))))))))))
    · exact .inr (.inr (.inr (.inr (.inr (.inr (.inr (.inr (.inr (.inr (.inr (.inr (.inl (q 28 h)))))))))))))
    · exact .inr (.inr (.inr (.inr (.inr (.inr (.inr (.inr (.inr (.inr (.inr (.inr (.inr (q 29 h)))))))))))))
  rcases hc with rfl | rfl | rfl | rfl | rfl | rfl | rfl | rfl | rfl | rfl | rfl | rfl | rfl | rfl
  · rw [Jvm.RoadKit.c_ishr _ _ 16 rfl, show ((2 ^ 16 : Nat) : Int) = 65536 from rfl]; simp only [e1, e2] at hx1 hx2; omega
  · rw [Jvm.RoadKit.c_ishr _ _ 17 rfl, show ((2 ^ 17 : Nat) : Int) = 131072 from rfl]; simp only [e1, e2] at hx1 hx2; omega
  · rw [Jvm.RoadKit.c_ishr _ _ 18 rfl, show ((2 ^ 18 : Nat) : Int) = 262144 from rfl]; simp only [e1, e2] at hx1 hx2; omega
  · rw [Jvm.RoadKit.c_ishr _ _ 19 rfl, show ((2 ^ 19 : Nat) : Int) = 524288 from rfl]; simp only [e1, e2] at hx1 hx2; omega
  · rw [Jvm.RoadKit.c_ishr _ _ 20 rfl, show ((2 ^ 20 : Nat) : Int) = 1048576 from rfl]; simp only [e1, e2] at hx1 hx2; omega
  · rw [Jvm.RoadKit.c_ishr _ _ 21 rfl, show ((2 ^ 21 : Nat) : Int) = 2097152 from rfl]; simp only [e1, e2] at hx1 hx2; omega
  · rw [Jvm.RoadKit.c_ishr _ _ 22 rfl, show ((2 ^ 22 : Nat) : Int) = 4194304 from rfl]; simp only [e1, e2] at hx1 hx2; omega
  · rw [Jvm.RoadKit.c_ishr _ _ 23 rfl, show ((2 ^ 23 : Nat) : Int) = 8388608 from rfl]; simp only [e1, e2] at hx1 hx2; omega
  · rw [Jvm.RoadKit.c_ishr _ _ 24 rfl, show ((2 ^ 24 : Nat) : Int) = 16777216 from rfl]; simp only [e1, e2] at hx1 hx2; omega
  · rw [Jvm.RoadKit.c_ishr _ _ 25 rfl, show ((2 ^ 25 : Nat) : Int) = 33554432 from rfl]; simp only [e1, e2] at hx1 hx2; omega
  · rw [Jvm.RoadKit.c_ishr _ _ 26 rfl, show ((2 ^ 26 : Nat) : Int) = 67108864 from rfl]; simp only [e1, e2] at hx1 hx2; omega
  · rw [Jvm.RoadKit.c_ishr _ _ 27 rfl, show ((2 ^ 27 : Nat) : Int) = 134217728 from rfl]; simp only [e1, e2] at hx1 hx2; omega
  · rw [Jvm.RoadKit.c_ishr _ _ 28 rfl, show ((2 ^ 28 : Nat) : Int) = 268435456 from rfl]; simp only [e1, e2] at hx1 hx2; omega
  · rw [Jvm.RoadKit.c_ishr _ _ 29 rfl, show ((2 ^ 29 : Nat) : Int) = 536870912 from rfl]; simp only [e1, e2] at hx1 hx2; omega
/-- the long's reckoning is exact -/
theorem own_lv {a b c d e f : Int64} (ha : a.toInt.natAbs ≤ 32768) (hb : b.toInt.natAbs ≤ 32768) (hc : c.toInt.natAbs ≤ 32768) (hd : d.toInt.natAbs ≤ 32768) (he : e.toInt.natAbs ≤ 32768) (hf : f.toInt.natAbs ≤ 32768) :
    (((c - a) * (f - b)) - ((d - b) * (e - a))).toInt = (((c.toInt - a.toInt) * (f.toInt - b.toInt)) - ((d.toInt - b.toInt) * (e.toInt - a.toInt))) := by
  have sub : ∀ {x y : Int64}, x.toInt.natAbs ≤ 32768 → y.toInt.natAbs ≤ 32768 → (x - y).toInt = x.toInt - y.toInt := by
    intro x y hx hy; rw [Int64.toInt_sub, Int.bmod_eq_of_le (by omega) (by omega)]
  have bnd : ∀ {x y : Int}, x.natAbs ≤ 65536 → y.natAbs ≤ 65536 → (x * y).natAbs ≤ 4294967296 := by
    intro x y hx hy; rw [Int.natAbs_mul]; exact Nat.mul_le_mul hx hy
  have mul : ∀ {x y : Int64}, x.toInt.natAbs ≤ 65536 → y.toInt.natAbs ≤ 65536 → (x * y).toInt = x.toInt * y.toInt := by
    intro x y hx hy
    have := bnd hx hy
    rw [Int64.toInt_mul, Int.bmod_eq_of_le (by omega) (by omega)]
  have s1 := sub hc ha; have s2 := sub hf hb; have s3 := sub hd hb; have s4 := sub he ha
  have m1 := mul (x := c - a) (y := f - b) (by omega) (by omega)
  have m2 := mul (x := d - b) (y := e - a) (by omega) (by omega)
  have b1 := bnd (x := c.toInt - a.toInt) (y := f.toInt - b.toInt) (by omega) (by omega)
  have b2 := bnd (x := d.toInt - b.toInt) (y := e.toInt - a.toInt) (by omega) (by omega)
  rw [Int64.toInt_sub, m1, m2, s1, s2, s3, s4, Int.bmod_eq_of_le (by omega) (by omega)]
/-- z is the sign of k -/
def SgI (z : Int32) (k : Int) : Prop := z = 1 ∧ 0 < k ∨ z = (-1) ∧ k < 0 ∨ z = 0 ∧ k = 0
theorem own_sgm {x y : Int32} {i j : Int} (hx : SgI x i) (hy : SgI y j) : (0 : Int32) < x * y ↔ 0 < i * j := by
  rcases hx with ⟨rfl, h⟩ | ⟨rfl, h⟩ | ⟨rfl, h⟩ <;> rcases hy with ⟨rfl, k⟩ | ⟨rfl, k⟩ | ⟨rfl, k⟩
  · exact ⟨fun _ => Int.mul_pos h k, fun _ => by decide⟩
  · have := Int.mul_neg_of_pos_of_neg h k; exact ⟨fun q => absurd q (by decide), fun q => by omega⟩
  · subst k; exact ⟨fun q => absurd q (by decide), fun q => by simp at q⟩
  · have := Int.mul_neg_of_neg_of_pos h k; exact ⟨fun q => absurd q (by decide), fun q => by omega⟩
  · exact ⟨fun _ => Int.mul_pos_of_neg_of_neg h k, fun _ => by decide⟩
  · subst k; exact ⟨fun q => absurd q (by decide), fun q => by simp at q⟩
  · subst h; exact ⟨fun q => absurd q (by decide), fun q => by simp at q⟩
  · subst h; exact ⟨fun q => absurd q (by decide), fun q => by simp at q⟩
  · subst h; exact ⟨fun q => absurd q (by decide), fun q => by simp at q⟩
theorem own_sgz {x : Int32} {i : Int} (hx : SgI x i) : x = 0 ↔ i = 0 := by
  rcases hx with ⟨rfl, h⟩ | ⟨rfl, h⟩ | ⟨rfl, h⟩
  · exact ⟨fun q => absurd q (by decide), fun q => by omega⟩
  · exact ⟨fun q => absurd q (by decide), fun q => by omega⟩
  · exact ⟨fun _ => h, fun _ => rfl⟩
theorem own_cross {sa sb sc sd z r : Int32} {A B C D : Int} (ha : SgI sa A) (hb : SgI sb B) (hc : SgI sc C) (hd : SgI sd D)
    (hz : z = 1 ∧ (¬ (0 < A * B) ∧ ¬ (0 < C * D) ∧ (¬ (A = 0) ∨ ¬ (B = 0))) ∨ z = 0 ∧ ¬ (¬ (0 < A * B) ∧ ¬ (0 < C * D) ∧ (¬ (A = 0) ∨ ¬ (B = 0))))
    (hr : r = 1 ∧ (¬ ((0 : Int32) < sa * sb) ∧ ¬ ((0 : Int32) < sc * sd) ∧ (¬ (sa = 0) ∨ ¬ (sb = 0))) ∨ r = 0 ∧ ¬ (¬ ((0 : Int32) < sa * sb) ∧ ¬ ((0 : Int32) < sc * sd) ∧ (¬ (sa = 0) ∨ ¬ (sb = 0)))) : z = r := by
  rw [own_sgm ha hb, own_sgm hc hd, own_sgz ha, own_sgz hb] at hr
  rcases hz with ⟨rfl, h1⟩ | ⟨rfl, h1⟩ <;> rcases hr with ⟨rfl, h2⟩ | ⟨rfl, h2⟩
  · rfl
  · exact absurd h1 h2
  · exact absurd h2 h1
  · rfl
theorem own_sg1 {v : Int64} {k : Int} (h : v.toInt = k) (hc : (0 : Int64) < v) : SgI 1 k := by
  have q := Int64.lt_iff_toInt_lt.mp hc; rw [h] at q; exact Or.inl ⟨rfl, q⟩
theorem own_sg2 {v : Int64} {k : Int} (h : v.toInt = k) (hc : v < (0 : Int64)) : SgI (-1) k := by
  have q := Int64.lt_iff_toInt_lt.mp hc; rw [h] at q; exact Or.inr (Or.inl ⟨rfl, q⟩)
theorem own_sg3 {v : Int64} {k : Int} (h : v.toInt = k) (hc : ¬ (0 : Int64) < v) (hd : ¬ v < (0 : Int64)) : SgI 0 k := by
  have q : ¬ ((0 : Int64).toInt < v.toInt) := fun x => hc (Int64.lt_iff_toInt_lt.mpr x)
  have q' : ¬ (v.toInt < (0 : Int64).toInt) := fun x => hd (Int64.lt_iff_toInt_lt.mpr x)
  rw [h] at q q'
  have e : (0 : Int64).toInt = 0 := rfl
  rw [e] at q q'
  exact Or.inr (Or.inr ⟨rfl, by omega⟩)

theorem wd0 {Z : State} {a0 : Array Value} (hw : ∀ d ∈ tables_1, d.before a0 Z = true) : (Jvm.Cond.constant "com/example/timeshed/timeshed/engine/PlaneCrossingPinLaw" (7 : Nat) (2147483647 : Int32)).before a0 Z = true := hw _ (List.mem_of_getElem? (i := 0) rfl)
theorem wd1 {Z : State} {a0 : Array Value} (hw : ∀ d ∈ tables_1, d.before a0 Z = true) : (Jvm.Cond.methodLink "com/example/timeshed/timeshed/engine/PlaneCrossingPinLaw" (8 : Nat) ({ cls := "com/example/timeshed/timeshed/engine/PlaneCrossingPinLaw", name := "lo", desc := "(II)J" } : Jvm.MethodName)).before a0 Z = true := hw _ (List.mem_of_getElem? (i := 1) rfl)
theorem wd2 {Z : State} {a0 : Array Value} (hw : ∀ d ∈ tables_1, d.before a0 Z = true) : (Jvm.Cond.static ({ cls := "com/example/timeshed/timeshed/engine/PlaneCrossingPinLaw", name := "lo", desc := "(II)J" } : Jvm.MethodName)).before a0 Z = true := hw _ (List.mem_of_getElem? (i := 2) rfl)
theorem wd3 {Z : State} {a0 : Array Value} (hw : ∀ d ∈ tables_1, d.before a0 Z = true) : (Jvm.Cond.initialized "com/example/timeshed/timeshed/engine/PlaneCrossingPinLaw").before a0 Z = true := hw _ (List.mem_of_getElem? (i := 3) rfl)
theorem wd4 {Z : State} {a0 : Array Value} (hw : ∀ d ∈ tables_1, d.before a0 Z = true) : (Jvm.Cond.code ({ cls := "com/example/timeshed/timeshed/engine/PlaneCrossingPinLaw", name := "lo", desc := "(II)J" } : Jvm.MethodName) method_3_code (2 : Nat) (Option.some Jvm.ClassFile.FieldType.long)).before a0 Z = true := hw _ (List.mem_of_getElem? (i := 4) rfl)
theorem wd5 {Z : State} {a0 : Array Value} (hw : ∀ d ∈ tables_1, d.before a0 Z = true) : (Jvm.Cond.methodLink "com/example/timeshed/timeshed/engine/PlaneCrossingPinLaw" (14 : Nat) ({ cls := "com/example/timeshed/timeshed/engine/PlaneCrossingPinLaw", name := "hi", desc := "(II)J" } : Jvm.MethodName)).before a0 Z = true := hw _ (List.mem_of_getElem? (i := 5) rfl)
theorem wd6 {Z : State} {a0 : Array Value} (hw : ∀ d ∈ tables_1, d.before a0 Z = true) : (Jvm.Cond.static ({ cls := "com/example/timeshed/timeshed/engine/PlaneCrossingPinLaw", name := "hi", desc := "(II)J" } : Jvm.MethodName)).before a0 Z = true := hw _ (List.mem_of_getElem? (i := 6) rfl)
theorem wd7 {Z : State} {a0 : Array Value} (hw : ∀ d ∈ tables_1, d.before a0 Z = true) : (Jvm.Cond.code ({ cls := "com/example/timeshed/timeshed/engine/PlaneCrossingPinLaw", name := "hi", desc := "(II)J" } : Jvm.MethodName) method_4_code (2 : Nat) (Option.some Jvm.ClassFile.FieldType.long)).before a0 Z = true := hw _ (List.mem_of_getElem? (i := 7) rfl)
theorem wd8 {Z : State} {a0 : Array Value} (hw : ∀ d ∈ tables_1, d.before a0 Z = true) : (Jvm.Cond.methodLink "com/example/timeshed/timeshed/engine/PlaneCrossingPinLaw" (17 : Nat) ({ cls := "com/example/timeshed/timeshed/engine/Plane", name := "crossing", desc := "(DDDDDDDD)Z" } : Jvm.MethodName)).before a0 Z = true := hw _ (List.mem_of_getElem? (i := 8) rfl)
theorem wd9 {Z : State} {a0 : Array Value} (hw : ∀ d ∈ tables_1, d.before a0 Z = true) : (Jvm.Cond.static ({ cls := "com/example/timeshed/timeshed/engine/Plane", name := "crossing", desc := "(DDDDDDDD)Z" } : Jvm.MethodName)).before a0 Z = true := hw _ (List.mem_of_getElem? (i := 9) rfl)
theorem wd10 {Z : State} {a0 : Array Value} (hw : ∀ d ∈ tables_1, d.before a0 Z = true) : (Jvm.Cond.initialized "com/example/timeshed/timeshed/engine/Plane").before a0 Z = true := hw _ (List.mem_of_getElem? (i := 10) rfl)
theorem wd11 {Z : State} {a0 : Array Value} (hw : ∀ d ∈ tables_1, d.before a0 Z = true) : (Jvm.Cond.code ({ cls := "com/example/timeshed/timeshed/engine/Plane", name := "crossing", desc := "(DDDDDDDD)Z" } : Jvm.MethodName) prog_53_method_4_code (24 : Nat) (Option.some Jvm.ClassFile.FieldType.boolean)).before a0 Z = true := hw _ (List.mem_of_getElem? (i := 11) rfl)
theorem wd12 {Z : State} {a0 : Array Value} (hw : ∀ d ∈ tables_1, d.before a0 Z = true) : (Jvm.Cond.methodLink "com/example/timeshed/timeshed/engine/PlaneCrossingPinLaw" (23 : Nat) ({ cls := "com/example/timeshed/timeshed/engine/PlaneCrossingPinLaw", name := "orient", desc := "(JJJJJJ)I" } : Jvm.MethodName)).before a0 Z = true := hw _ (List.mem_of_getElem? (i := 12) rfl)
theorem wd13 {Z : State} {a0 : Array Value} (hw : ∀ d ∈ tables_1, d.before a0 Z = true) : (Jvm.Cond.static ({ cls := "com/example/timeshed/timeshed/engine/PlaneCrossingPinLaw", name := "orient", desc := "(JJJJJJ)I" } : Jvm.MethodName)).before a0 Z = true := hw _ (List.mem_of_getElem? (i := 13) rfl)
theorem wd14 {Z : State} {a0 : Array Value} (hw : ∀ d ∈ tables_1, d.before a0 Z = true) : (Jvm.Cond.code ({ cls := "com/example/timeshed/timeshed/engine/PlaneCrossingPinLaw", name := "orient", desc := "(JJJJJJ)I" } : Jvm.MethodName) method_5_code (14 : Nat) (Option.some Jvm.ClassFile.FieldType.int)).before a0 Z = true := hw _ (List.mem_of_getElem? (i := 14) rfl)
theorem d1_0 : decode method_3_code 0 = .ok (.iload_n 0, 1) := by decide +kernel
theorem d1_1 : decode method_3_code 1 = .ok (.iload_n 1, 1) := by decide +kernel
theorem d1_2 : decode method_3_code 2 = .ok (.ishl, 1) := by decide +kernel
theorem d1_3 : decode method_3_code 3 = .ok (.iload_n 1, 1) := by decide +kernel
theorem d1_4 : decode method_3_code 4 = .ok (.ishr, 1) := by decide +kernel
theorem d1_5 : decode method_3_code 5 = .ok (.i2l, 1) := by decide +kernel
theorem d1_6 : decode method_3_code 6 = .ok (.lreturn, 1) := by decide +kernel
theorem d2_0 : decode method_4_code 0 = .ok (.iload_n 0, 1) := by decide +kernel
theorem d2_1 : decode method_4_code 1 = .ok (.bipush 16, 2) := by decide +kernel
theorem d2_3 : decode method_4_code 3 = .ok (.ishr, 1) := by decide +kernel
theorem d2_4 : decode method_4_code 4 = .ok (.iload_n 1, 1) := by decide +kernel
theorem d2_5 : decode method_4_code 5 = .ok (.ishl, 1) := by decide +kernel
theorem d2_6 : decode method_4_code 6 = .ok (.iload_n 1, 1) := by decide +kernel
theorem d2_7 : decode method_4_code 7 = .ok (.ishr, 1) := by decide +kernel
theorem d2_8 : decode method_4_code 8 = .ok (.i2l, 1) := by decide +kernel
theorem d2_9 : decode method_4_code 9 = .ok (.lreturn, 1) := by decide +kernel
theorem d3_0 : decode prog_53_method_4_code 0 = .ok (.dload 4, 2) := by decide +kernel
theorem d3_2 : decode prog_53_method_4_code 2 = .ok (.dload_n 0, 1) := by decide +kernel
theorem d3_3 : decode prog_53_method_4_code 3 = .ok (.dsub, 1) := by decide +kernel
theorem d3_4 : decode prog_53_method_4_code 4 = .ok (.dload 10, 2) := by decide +kernel
theorem d3_6 : decode prog_53_method_4_code 6 = .ok (.dload_n 2, 1) := by decide +kernel
theorem d3_7 : decode prog_53_method_4_code 7 = .ok (.dsub, 1) := by decide +kernel
theorem d3_8 : decode prog_53_method_4_code 8 = .ok (.dmul, 1) := by decide +kernel
theorem d3_9 : decode prog_53_method_4_code 9 = .ok (.dload 6, 2) := by decide +kernel
theorem d3_11 : decode prog_53_method_4_code 11 = .ok (.dload_n 2, 1) := by decide +kernel
theorem d3_12 : decode prog_53_method_4_code 12 = .ok (.dsub, 1) := by decide +kernel
theorem d3_13 : decode prog_53_method_4_code 13 = .ok (.dload 8, 2) := by decide +kernel
theorem d3_15 : decode prog_53_method_4_code 15 = .ok (.dload_n 0, 1) := by decide +kernel
theorem d3_16 : decode prog_53_method_4_code 16 = .ok (.dsub, 1) := by decide +kernel
theorem d3_17 : decode prog_53_method_4_code 17 = .ok (.dmul, 1) := by decide +kernel
theorem d3_18 : decode prog_53_method_4_code 18 = .ok (.dsub, 1) := by decide +kernel
theorem d3_19 : decode prog_53_method_4_code 19 = .ok (.dstore 16, 2) := by decide +kernel
theorem d3_21 : decode prog_53_method_4_code 21 = .ok (.dload 4, 2) := by decide +kernel
theorem d3_23 : decode prog_53_method_4_code 23 = .ok (.dload_n 0, 1) := by decide +kernel
theorem d3_24 : decode prog_53_method_4_code 24 = .ok (.dsub, 1) := by decide +kernel
theorem d3_25 : decode prog_53_method_4_code 25 = .ok (.dload 14, 2) := by decide +kernel
theorem d3_27 : decode prog_53_method_4_code 27 = .ok (.dload_n 2, 1) := by decide +kernel
theorem d3_28 : decode prog_53_method_4_code 28 = .ok (.dsub, 1) := by decide +kernel
theorem d3_29 : decode prog_53_method_4_code 29 = .ok (.dmul, 1) := by decide +kernel
theorem d3_30 : decode prog_53_method_4_code 30 = .ok (.dload 6, 2) := by decide +kernel
theorem d3_32 : decode prog_53_method_4_code 32 = .ok (.dload_n 2, 1) := by decide +kernel
theorem d3_33 : decode prog_53_method_4_code 33 = .ok (.dsub, 1) := by decide +kernel
theorem d3_34 : decode prog_53_method_4_code 34 = .ok (.dload 12, 2) := by decide +kernel
theorem d3_36 : decode prog_53_method_4_code 36 = .ok (.dload_n 0, 1) := by decide +kernel
theorem d3_37 : decode prog_53_method_4_code 37 = .ok (.dsub, 1) := by decide +kernel
theorem d3_38 : decode prog_53_method_4_code 38 = .ok (.dmul, 1) := by decide +kernel
theorem d3_39 : decode prog_53_method_4_code 39 = .ok (.dsub, 1) := by decide +kernel
theorem d3_40 : decode prog_53_method_4_code 40 = .ok (.dstore 18, 2) := by decide +kernel
theorem d3_42 : decode prog_53_method_4_code 42 = .ok (.dload 12, 2) := by decide +kernel
theorem d3_44 : decode prog_53_method_4_code 44 = .ok (.dload 8, 2) := by decide +kernel
theorem d3_46 : decode prog_53_method_4_code 46 = .ok (.dsub, 1) := by decide +kernel
theorem d3_47 : decode prog_53_method_4_code 47 = .ok (.dload_n 2, 1) := by decide +kernel
theorem d3_48 : decode prog_53_method_4_code 48 = .ok (.dload 10, 2) := by decide +kernel
theorem d3_50 : decode prog_53_method_4_code 50 = .ok (.dsub, 1) := by decide +kernel
theorem d3_51 : decode prog_53_method_4_code 51 = .ok (.dmul, 1) := by decide +kernel
theorem d3_52 : decode prog_53_method_4_code 52 = .ok (.dload 14, 2) := by decide +kernel
theorem d3_54 : decode prog_53_method_4_code 54 = .ok (.dload 10, 2) := by decide +kernel
theorem d3_56 : decode prog_53_method_4_code 56 = .ok (.dsub, 1) := by decide +kernel
theorem d3_57 : decode prog_53_method_4_code 57 = .ok (.dload_n 0, 1) := by decide +kernel
theorem d3_58 : decode prog_53_method_4_code 58 = .ok (.dload 8, 2) := by decide +kernel
theorem d3_60 : decode prog_53_method_4_code 60 = .ok (.dsub, 1) := by decide +kernel
theorem d3_61 : decode prog_53_method_4_code 61 = .ok (.dmul, 1) := by decide +kernel
theorem d3_62 : decode prog_53_method_4_code 62 = .ok (.dsub, 1) := by decide +kernel
theorem d3_63 : decode prog_53_method_4_code 63 = .ok (.dstore 20, 2) := by decide +kernel
theorem d3_65 : decode prog_53_method_4_code 65 = .ok (.dload 12, 2) := by decide +kernel
theorem d3_67 : decode prog_53_method_4_code 67 = .ok (.dload 8, 2) := by decide +kernel
theorem d3_69 : decode prog_53_method_4_code 69 = .ok (.dsub, 1) := by decide +kernel
theorem d3_70 : decode prog_53_method_4_code 70 = .ok (.dload 6, 2) := by decide +kernel
theorem d3_72 : decode prog_53_method_4_code 72 = .ok (.dload 10, 2) := by decide +kernel
theorem d3_74 : decode prog_53_method_4_code 74 = .ok (.dsub, 1) := by decide +kernel
theorem d3_75 : decode prog_53_method_4_code 75 = .ok (.dmul, 1) := by decide +kernel
theorem d3_76 : decode prog_53_method_4_code 76 = .ok (.dload 14, 2) := by decide +kernel
theorem d3_78 : decode prog_53_method_4_code 78 = .ok (.dload 10, 2) := by decide +kernel
theorem d3_80 : decode prog_53_method_4_code 80 = .ok (.dsub, 1) := by decide +kernel
theorem d3_81 : decode prog_53_method_4_code 81 = .ok (.dload 4, 2) := by decide +kernel
theorem d3_83 : decode prog_53_method_4_code 83 = .ok (.dload 8, 2) := by decide +kernel
theorem d3_85 : decode prog_53_method_4_code 85 = .ok (.dsub, 1) := by decide +kernel
theorem d3_86 : decode prog_53_method_4_code 86 = .ok (.dmul, 1) := by decide +kernel
theorem d3_87 : decode prog_53_method_4_code 87 = .ok (.dsub, 1) := by decide +kernel
theorem d3_88 : decode prog_53_method_4_code 88 = .ok (.dstore 22, 2) := by decide +kernel
theorem d3_90 : decode prog_53_method_4_code 90 = .ok (.dload 16, 2) := by decide +kernel
theorem d3_92 : decode prog_53_method_4_code 92 = .ok (.dload 18, 2) := by decide +kernel
theorem d3_94 : decode prog_53_method_4_code 94 = .ok (.dmul, 1) := by decide +kernel
theorem d3_95 : decode prog_53_method_4_code 95 = .ok (.dconst 0, 1) := by decide +kernel
theorem d3_96 : decode prog_53_method_4_code 96 = .ok (.dcmp .g, 1) := by decide +kernel
theorem d3_97 : decode prog_53_method_4_code 97 = .ok (.ifCond .gt 31, 3) := by decide +kernel
theorem d3_100 : decode prog_53_method_4_code 100 = .ok (.dload 20, 2) := by decide +kernel
theorem d3_102 : decode prog_53_method_4_code 102 = .ok (.dload 22, 2) := by decide +kernel
theorem d3_104 : decode prog_53_method_4_code 104 = .ok (.dmul, 1) := by decide +kernel
theorem d3_105 : decode prog_53_method_4_code 105 = .ok (.dconst 0, 1) := by decide +kernel
theorem d3_106 : decode prog_53_method_4_code 106 = .ok (.dcmp .g, 1) := by decide +kernel
theorem d3_107 : decode prog_53_method_4_code 107 = .ok (.ifCond .gt 21, 3) := by decide +kernel
theorem d3_110 : decode prog_53_method_4_code 110 = .ok (.dload 16, 2) := by decide +kernel
theorem d3_112 : decode prog_53_method_4_code 112 = .ok (.dconst 0, 1) := by decide +kernel
theorem d3_113 : decode prog_53_method_4_code 113 = .ok (.dcmp .l, 1) := by decide +kernel
theorem d3_114 : decode prog_53_method_4_code 114 = .ok (.ifCond .ne 10, 3) := by decide +kernel
theorem d3_117 : decode prog_53_method_4_code 117 = .ok (.dload 18, 2) := by decide +kernel
theorem d3_119 : decode prog_53_method_4_code 119 = .ok (.dconst 0, 1) := by decide +kernel
theorem d3_120 : decode prog_53_method_4_code 120 = .ok (.dcmp .l, 1) := by decide +kernel
theorem d3_121 : decode prog_53_method_4_code 121 = .ok (.ifCond .eq 7, 3) := by decide +kernel
theorem d3_124 : decode prog_53_method_4_code 124 = .ok (.iconst 1, 1) := by decide +kernel
theorem d3_125 : decode prog_53_method_4_code 125 = .ok (.goto 4, 3) := by decide +kernel
theorem d3_128 : decode prog_53_method_4_code 128 = .ok (.iconst 0, 1) := by decide +kernel
theorem d3_129 : decode prog_53_method_4_code 129 = .ok (.ireturn, 1) := by decide +kernel
theorem d4_0 : decode method_5_code 0 = .ok (.lload 4, 2) := by decide +kernel
theorem d4_2 : decode method_5_code 2 = .ok (.lload_n 0, 1) := by decide +kernel
theorem d4_3 : decode method_5_code 3 = .ok (.lsub, 1) := by decide +kernel
theorem d4_4 : decode method_5_code 4 = .ok (.lload 10, 2) := by decide +kernel
theorem d4_6 : decode method_5_code 6 = .ok (.lload_n 2, 1) := by decide +kernel
theorem d4_7 : decode method_5_code 7 = .ok (.lsub, 1) := by decide +kernel
theorem d4_8 : decode method_5_code 8 = .ok (.lmul, 1) := by decide +kernel
theorem d4_9 : decode method_5_code 9 = .ok (.lload 6, 2) := by decide +kernel
theorem d4_11 : decode method_5_code 11 = .ok (.lload_n 2, 1) := by decide +kernel
theorem d4_12 : decode method_5_code 12 = .ok (.lsub, 1) := by decide +kernel
theorem d4_13 : decode method_5_code 13 = .ok (.lload 8, 2) := by decide +kernel
theorem d4_15 : decode method_5_code 15 = .ok (.lload_n 0, 1) := by decide +kernel
theorem d4_16 : decode method_5_code 16 = .ok (.lsub, 1) := by decide +kernel
theorem d4_17 : decode method_5_code 17 = .ok (.lmul, 1) := by decide +kernel
theorem d4_18 : decode method_5_code 18 = .ok (.lsub, 1) := by decide +kernel
theorem d4_19 : decode method_5_code 19 = .ok (.lstore 12, 2) := by decide +kernel
theorem d4_21 : decode method_5_code 21 = .ok (.lload 12, 2) := by decide +kernel
theorem d4_23 : decode method_5_code 23 = .ok (.lconst 0, 1) := by decide +kernel
theorem d4_24 : decode method_5_code 24 = .ok (.lcmp, 1) := by decide +kernel
theorem d4_25 : decode method_5_code 25 = .ok (.ifCond .le 5, 3) := by decide +kernel
theorem d4_28 : decode method_5_code 28 = .ok (.iconst 1, 1) := by decide +kernel
theorem d4_29 : decode method_5_code 29 = .ok (.ireturn, 1) := by decide +kernel
theorem d4_30 : decode method_5_code 30 = .ok (.lload 12, 2) := by decide +kernel
theorem d4_32 : decode method_5_code 32 = .ok (.lconst 0, 1) := by decide +kernel
theorem d4_33 : decode method_5_code 33 = .ok (.lcmp, 1) := by decide +kernel
theorem d4_34 : decode method_5_code 34 = .ok (.ifCond .ge 5, 3) := by decide +kernel
theorem d4_37 : decode method_5_code 37 = .ok (.iconst (-1), 1) := by decide +kernel
theorem d4_38 : decode method_5_code 38 = .ok (.ireturn, 1) := by decide +kernel
theorem d4_39 : decode method_5_code 39 = .ok (.iconst 0, 1) := by decide +kernel
theorem d4_40 : decode method_5_code 40 = .ok (.ireturn, 1) := by decide +kernel
theorem pd0 : parseMethodDescriptor "(II)J" = some ⟨[.int, .int], some .long⟩ := by decide +kernel
theorem pd1 : parseMethodDescriptor "(DDDDDDDD)Z" = some ⟨[.double, .double, .double, .double, .double, .double, .double, .double], some .boolean⟩ := by decide +kernel
theorem pd2 : parseMethodDescriptor "(JJJJJJ)I" = some ⟨[.long, .long, .long, .long, .long, .long], some .int⟩ := by decide +kernel
theorem pn0 : plainName x.cls = true := by first | (simp [x, plainName, overriddenIn]; done) | decide +kernel
theorem pn1 : plainName "com/example/timeshed/timeshed/engine/PlaneCrossingPinLaw" = true := by first | (simp [plainName, overriddenIn]; done) | decide +kernel
theorem pn2 : plainName "com/example/timeshed/timeshed/engine/Plane" = true := by first | (simp [plainName, overriddenIn]; done) | decide +kernel

def Q1 (Z : State) (p1 : Int32) (t : Int32) (h0 : Heap) (n0 : Nat) (v : Option Value) (h : Heap) (L : List Loc) : Prop := ∃ r : Int64, v = some (.long r) ∧ Fr n0 L ∧ h = h0 ∧ (r.toInt.natAbs ≤ 32768)
set_option maxRecDepth 65536 in
set_option maxHeartbeats 40000000 in
theorem rm1 (l : Launch) (Z : State) (a0 : Array Value) (hw : ∀ d ∈ tables_1, d.before a0 Z = true) (p1 : Int32) (t : Int32) (h0 : Heap) (n0 : Nat) (O0 : Old Z n0 h0) (ht1 : 16 ≤ t.toInt) (ht2 : t.toInt ≤ 29) :
    Met l Z (⟨"com/example/timeshed/timeshed/engine/PlaneCrossingPinLaw", "lo", "(II)J"⟩ : MethodName) method_3_code 2 (some .long) ({ frames := 0, cells := 0, slots := 0, locals := 0 } : Room) [] #[(.int p1), (.int t)] h0 (Q1 Z p1 t h0 n0) := by
  refine met_of (L0 := #[.val (.int p1), .val (.int t)]) (plainFor_of_name pn1) (fun m => by first | (simp [entryFrame, mkF, argsToLocals, Value.category]; done) | rfl) ?_
  intro p e s m below meth c T0 hx hby hml hown hnm hret hlk hZ X0 e0
  have N0 := Fr.nil n0
  refine o_iloadN X0 hx (hb hby d1_0) rfl rfl ?_
  refine o_iloadN X0 hx (hb hby d1_1) rfl rfl ?_
  refine o_ishl X0 hx (hb hby d1_2) rfl ?_
  refine o_iloadN X0 hx (hb hby d1_3) rfl rfl ?_
  refine o_ishr X0 hx (hb hby d1_4) rfl ?_
  refine o_i2l X0 hx (hb hby d1_5) rfl ?_
  exact o_ret X0 hx hlk (t := .long) hret rfl (Or.inr (Or.inl ⟨rfl, rfl, _, rfl⟩)) (hb hby d1_6) (by decide) (by decide) e0 ⟨(((p1 <<< (t &&& 31)) >>> (t &&& 31)).toInt64), rfl, N0, rfl, (own_sh ht1 ht2)⟩
def Q2 (Z : State) (p1 : Int32) (t : Int32) (h0 : Heap) (n0 : Nat) (v : Option Value) (h : Heap) (L : List Loc) : Prop := ∃ r : Int64, v = some (.long r) ∧ Fr n0 L ∧ h = h0 ∧ (r.toInt.natAbs ≤ 32768)
set_option maxRecDepth 65536 in
set_option maxHeartbeats 40000000 in
theorem rm2 (l : Launch) (Z : State) (a0 : Array Value) (hw : ∀ d ∈ tables_1, d.before a0 Z = true) (p1 : Int32) (t : Int32) (h0 : Heap) (n0 : Nat) (O0 : Old Z n0 h0) (ht1 : 16 ≤ t.toInt) (ht2 : t.toInt ≤ 29) :
    Met l Z (⟨"com/example/timeshed/timeshed/engine/PlaneCrossingPinLaw", "hi", "(II)J"⟩ : MethodName) method_4_code 2 (some .long) ({ frames := 0, cells := 0, slots := 0, locals := 0 } : Room) [] #[(.int p1), (.int t)] h0 (Q2 Z p1 t h0 n0) := by
  refine met_of (L0 := #[.val (.int p1), .val (.int t)]) (plainFor_of_name pn1) (fun m => by first | (simp [entryFrame, mkF, argsToLocals, Value.category]; done) | rfl) ?_
  intro p e s m below meth c T0 hx hby hml hown hnm hret hlk hZ X0 e0
  have N0 := Fr.nil n0
  refine o_iloadN X0 hx (hb hby d2_0) rfl rfl ?_
  refine o_bipush X0 hx (hb hby d2_1) (v := (16 : Int32)) rfl rfl ?_
  refine o_ishr X0 hx (hb hby d2_3) rfl ?_
  refine o_iloadN X0 hx (hb hby d2_4) rfl rfl ?_
  refine o_ishl X0 hx (hb hby d2_5) rfl ?_
  refine o_iloadN X0 hx (hb hby d2_6) rfl rfl ?_
  refine o_ishr X0 hx (hb hby d2_7) rfl ?_
  refine o_i2l X0 hx (hb hby d2_8) rfl ?_
  exact o_ret X0 hx hlk (t := .long) hret rfl (Or.inr (Or.inl ⟨rfl, rfl, _, rfl⟩)) (hb hby d2_9) (by decide) (by decide) e0 ⟨((((p1 >>> ((16 : Int32) &&& 31)) <<< (t &&& 31)) >>> (t &&& 31)).toInt64), rfl, N0, rfl, (own_sh ht1 ht2)⟩
def Q3 (Z : State) (v1 : UInt64) (v2 : UInt64) (v3 : UInt64) (v4 : UInt64) (v5 : UInt64) (v6 : UInt64) (v7 : UInt64) (v8 : UInt64) (i1 : Int) (i2 : Int) (i3 : Int) (i4 : Int) (i5 : Int) (i6 : Int) (i7 : Int) (i8 : Int) (h0 : Heap) (n0 : Nat) (v : Option Value) (h : Heap) (L : List Loc) : Prop := ∃ z : Int32, v = some (.int z) ∧ Fr n0 L ∧ h = h0 ∧ (z = 1 ∧ (¬ (0 < ((((i3 - i1) * (i6 - i2)) - ((i4 - i2) * (i5 - i1))) * (((i3 - i1) * (i8 - i2)) - ((i4 - i2) * (i7 - i1))))) ∧ ¬ (0 < ((((i7 - i5) * (i2 - i6)) - ((i8 - i6) * (i1 - i5))) * (((i7 - i5) * (i4 - i6)) - ((i8 - i6) * (i3 - i5))))) ∧ (¬ ((((i3 - i1) * (i6 - i2)) - ((i4 - i2) * (i5 - i1))) = 0) ∨ ¬ ((((i3 - i1) * (i8 - i2)) - ((i4 - i2) * (i7 - i1))) = 0))) ∨ z = 0 ∧ ¬ (¬ (0 < ((((i3 - i1) * (i6 - i2)) - ((i4 - i2) * (i5 - i1))) * (((i3 - i1) * (i8 - i2)) - ((i4 - i2) * (i7 - i1))))) ∧ ¬ (0 < ((((i7 - i5) * (i2 - i6)) - ((i8 - i6) * (i1 - i5))) * (((i7 - i5) * (i4 - i6)) - ((i8 - i6) * (i3 - i5))))) ∧ (¬ ((((i3 - i1) * (i6 - i2)) - ((i4 - i2) * (i5 - i1))) = 0) ∨ ¬ ((((i3 - i1) * (i8 - i2)) - ((i4 - i2) * (i7 - i1))) = 0))))
set_option maxRecDepth 65536 in
set_option maxHeartbeats 40000000 in
theorem rm3 (l : Launch) (Z : State) (a0 : Array Value) (hw : ∀ d ∈ tables_1, d.before a0 Z = true) (v1 : UInt64) (v2 : UInt64) (v3 : UInt64) (v4 : UInt64) (v5 : UInt64) (v6 : UInt64) (v7 : UInt64) (v8 : UInt64) (i1 : Int) (i2 : Int) (i3 : Int) (i4 : Int) (i5 : Int) (i6 : Int) (i7 : Int) (i8 : Int) (h0 : Heap) (n0 : Nat) (O0 : Old Z n0 h0) (hd1 : Jvm.FP.Core.DInt i1 v1) (hb1 : i1.natAbs ≤ 32768) (hd2 : Jvm.FP.Core.DInt i2 v2) (hb2 : i2.natAbs ≤ 32768) (hd3 : Jvm.FP.Core.DInt i3 v3) (hb3 : i3.natAbs ≤ 32768) (hd4 : Jvm.FP.Core.DInt i4 v4) (hb4 : i4.natAbs ≤ 32768) (hd5 : Jvm.FP.Core.DInt i5 v5) (hb5 : i5.natAbs ≤ 32768) (hd6 : Jvm.FP.Core.DInt i6 v6) (hb6 : i6.natAbs ≤ 32768) (hd7 : Jvm.FP.Core.DInt i7 v7) (hb7 : i7.natAbs ≤ 32768) (hd8 : Jvm.FP.Core.DInt i8 v8) (hb8 : i8.natAbs ≤ 32768) :
    Met l Z (⟨"com/example/timeshed/timeshed/engine/Plane", "crossing", "(DDDDDDDD)Z"⟩ : MethodName) prog_53_method_4_code 24 (some .boolean) ({ frames := 0, cells := 0, slots := 0, locals := 0 } : Room) [] #[(.double v1), (.double v2), (.double v3), (.double v4), (.double v5), (.double v6), (.double v7), (.double v8)] h0 (Q3 Z v1 v2 v3 v4 v5 v6 v7 v8 i1 i2 i3 i4 i5 i6 i7 i8 h0 n0) := by
  refine met_of (L0 := #[.val (.double v1), .second, .val (.double v2), .second, .val (.double v3), .second, .val (.double v4), .second, .val (.double v5), .second, .val (.double v6), .second, .val (.double v7), .second, .val (.double v8), .second, .unset, .unset, .unset, .unset, .unset, .unset, .unset, .unset]) (plainFor_of_name pn2) (fun m => by first | (simp [entryFrame, mkF, argsToLocals, Value.category]; done) | rfl) ?_
  intro p e s m below meth c T0 hx hby hml hown hnm hret hlk hZ X0 e0
  have N0 := Fr.nil n0
  refine o_dload X0 hx (hb hby d3_0) rfl rfl ?_
  refine o_dloadN X0 hx (hb hby d3_2) rfl rfl ?_
  have hm3 : (i3 - i1).natAbs ≤ 65536 := own_subb hb3 hb1 rfl
  refine o_dsubI X0 hx (hb hby d3_3) hd3 hd1 (k := (i3 - i1)) rfl (Nat.le_trans hm3 (by decide)) rfl fun d3 hd3_2 => ?_
  refine o_dload X0 hx (hb hby d3_4) rfl rfl ?_
  refine o_dloadN X0 hx (hb hby d3_6) rfl rfl ?_
  have hm7 : (i6 - i2).natAbs ≤ 65536 := own_subb hb6 hb2 rfl
  refine o_dsubI X0 hx (hb hby d3_7) hd6 hd2 (k := (i6 - i2)) rfl (Nat.le_trans hm7 (by decide)) rfl fun d7 hd7_2 => ?_
  have hm8 : ((i3 - i1) * (i6 - i2)).natAbs ≤ 4294967296 := own_mulb hm3 hm7 rfl
  refine o_dmulI X0 hx (hb hby d3_8) hd3_2 hd7_2 (k := ((i3 - i1) * (i6 - i2))) rfl (Nat.le_trans hm8 (by decide)) rfl fun d8 hd8_2 => ?_
  refine o_dload X0 hx (hb hby d3_9) rfl rfl ?_
  refine o_dloadN X0 hx (hb hby d3_11) rfl rfl ?_
  have hm12 : (i4 - i2).natAbs ≤ 65536 := own_subb hb4 hb2 rfl
  refine o_dsubI X0 hx (hb hby d3_12) hd4 hd2 (k := (i4 - i2)) rfl (Nat.le_trans hm12 (by decide)) rfl fun d12 hd12 => ?_
  refine o_dload X0 hx (hb hby d3_13) rfl rfl ?_
  refine o_dloadN X0 hx (hb hby d3_15) rfl rfl ?_
  have hm16 : (i5 - i1).natAbs ≤ 65536 := own_subb hb5 hb1 rfl
  refine o_dsubI X0 hx (hb hby d3_16) hd5 hd1 (k := (i5 - i1)) rfl (Nat.le_trans hm16 (by decide)) rfl fun d16 hd16 => ?_
  have hm17 : ((i4 - i2) * (i5 - i1)).natAbs ≤ 4294967296 := own_mulb hm12 hm16 rfl
  refine o_dmulI X0 hx (hb hby d3_17) hd12 hd16 (k := ((i4 - i2) * (i5 - i1))) rfl (Nat.le_trans hm17 (by decide)) rfl fun d17 hd17 => ?_
  have hm18 : (((i3 - i1) * (i6 - i2)) - ((i4 - i2) * (i5 - i1))).natAbs ≤ 8589934592 := own_subb hm8 hm17 rfl
  refine o_dsubI X0 hx (hb hby d3_18) hd8_2 hd17 (k := (((i3 - i1) * (i6 - i2)) - ((i4 - i2) * (i5 - i1)))) rfl (Nat.le_trans hm18 (by decide)) rfl fun d18 hd18 => ?_
  refine o_dstore X0 hx (hb hby d3_19) (L' := #[.val (.double v1), .second, .val (.double v2), .second, .val (.double v3), .second, .val (.double v4), .second, .val (.double v5), .second, .val (.double v6), .second, .val (.double v7), .second, .val (.double v8), .second, .val (.double d18), .second, .unset, .unset, .unset, .unset, .unset, .unset]) rfl rfl ?_
  refine o_dload X0 hx (hb hby d3_21) rfl rfl ?_
  refine o_dloadN X0 hx (hb hby d3_23) rfl rfl ?_
  have hm24 : (i3 - i1).natAbs ≤ 65536 := own_subb hb3 hb1 rfl
  refine o_dsubI X0 hx (hb hby d3_24) hd3 hd1 (k := (i3 - i1)) rfl (Nat.le_trans hm24 (by decide)) rfl fun d24 hd24 => ?_
  refine o_dload X0 hx (hb hby d3_25) rfl rfl ?_
  refine o_dloadN X0 hx (hb hby d3_27) rfl rfl ?_
  have hm28 : (i8 - i2).natAbs ≤ 65536 := own_subb hb8 hb2 rfl
  refine o_dsubI X0 hx (hb hby d3_28) hd8 hd2 (k := (i8 - i2)) rfl (Nat.le_trans hm28 (by decide)) rfl fun d28 hd28 => ?_
  have hm29 : ((i3 - i1) * (i8 - i2)).natAbs ≤ 4294967296 := own_mulb hm24 hm28 rfl
  refine o_dmulI X0 hx (hb hby d3_29) hd24 hd28 (k := ((i3 - i1) * (i8 - i2))) rfl (Nat.le_trans hm29 (by decide)) rfl fun d29 hd29 => ?_
  refine o_dload X0 hx (hb hby d3_30) rfl rfl ?_
  refine o_dloadN X0 hx (hb hby d3_32) rfl rfl ?_
  have hm33 : (i4 - i2).natAbs ≤ 65536 := own_subb hb4 hb2 rfl
  refine o_dsubI X0 hx (hb hby d3_33) hd4 hd2 (k := (i4 - i2)) rfl (Nat.le_trans hm33 (by decide)) rfl fun d33 hd33 => ?_
  refine o_dload X0 hx (hb hby d3_34) rfl rfl ?_
  refine o_dloadN X0 hx (hb hby d3_36) rfl rfl ?_
  have hm37 : (i7 - i1).natAbs ≤ 65536 := own_subb hb7 hb1 rfl
  refine o_dsubI X0 hx (hb hby d3_37) hd7 hd1 (k := (i7 - i1)) rfl (Nat.le_trans hm37 (by decide)) rfl fun d37 hd37 => ?_
  have hm38 : ((i4 - i2) * (i7 - i1)).natAbs ≤ 4294967296 := own_mulb hm33 hm37 rfl
  refine o_dmulI X0 hx (hb hby d3_38) hd33 hd37 (k := ((i4 - i2) * (i7 - i1))) rfl (Nat.le_trans hm38 (by decide)) rfl fun d38 hd38 => ?_
  have hm39 : (((i3 - i1) * (i8 - i2)) - ((i4 - i2) * (i7 - i1))).natAbs ≤ 8589934592 := own_subb hm29 hm38 rfl
  refine o_dsubI X0 hx (hb hby d3_39) hd29 hd38 (k := (((i3 - i1) * (i8 - i2)) - ((i4 - i2) * (i7 - i1)))) rfl (Nat.le_trans hm39 (by decide)) rfl fun d39 hd39 => ?_
  refine o_dstore X0 hx (hb hby d3_40) (L' := #[.val (.double v1), .second, .val (.double v2), .second, .val (.double v3), .second, .val (.double v4), .second, .val (.double v5), .second, .val (.double v6), .second, .val (.double v7), .second, .val (.double v8), .second, .val (.double d18), .second, .val (.double d39), .second, .unset, .unset, .unset, .unset]) rfl rfl ?_
  refine o_dload X0 hx (hb hby d3_42) rfl rfl ?_
  refine o_dload X0 hx (hb hby d3_44) rfl rfl ?_
  have hm46 : (i7 - i5).natAbs ≤ 65536 := own_subb hb7 hb5 rfl
  refine o_dsubI X0 hx (hb hby d3_46) hd7 hd5 (k := (i7 - i5)) rfl (Nat.le_trans hm46 (by decide)) rfl fun d46 hd46 => ?_
  refine o_dloadN X0 hx (hb hby d3_47) rfl rfl ?_
  refine o_dload X0 hx (hb hby d3_48) rfl rfl ?_
  have hm50 : (i2 - i6).natAbs ≤ 65536 := own_subb hb2 hb6 rfl
  refine o_dsubI X0 hx (hb hby d3_50) hd2 hd6 (k := (i2 - i6)) rfl (Nat.le_trans hm50 (by decide)) rfl fun d50 hd50 => ?_
  have hm51 : ((i7 - i5) * (i2 - i6)).natAbs ≤ 4294967296 := own_mulb hm46 hm50 rfl
  refine o_dmulI X0 hx (hb hby d3_51) hd46 hd50 (k := ((i7 - i5) * (i2 - i6))) rfl (Nat.le_trans hm51 (by decide)) rfl fun d51 hd51 => ?_
  refine o_dload X0 hx (hb hby d3_52) rfl rfl ?_
  refine o_dload X0 hx (hb hby d3_54) rfl rfl ?_
  have hm56 : (i8 - i6).natAbs ≤ 65536 := own_subb hb8 hb6 rfl
  refine o_dsubI X0 hx (hb hby d3_56) hd8 hd6 (k := (i8 - i6)) rfl (Nat.le_trans hm56 (by decide)) rfl fun d56 hd56 => ?_
  refine o_dloadN X0 hx (hb hby d3_57) rfl rfl ?_
  refine o_dload X0 hx (hb hby d3_58) rfl rfl ?_
  have hm60 : (i1 - i5).natAbs ≤ 65536 := own_subb hb1 hb5 rfl
  refine o_dsubI X0 hx (hb hby d3_60) hd1 hd5 (k := (i1 - i5)) rfl (Nat.le_trans hm60 (by decide)) rfl fun d60 hd60 => ?_
  have hm61 : ((i8 - i6) * (i1 - i5)).natAbs ≤ 4294967296 := own_mulb hm56 hm60 rfl
  refine o_dmulI X0 hx (hb hby d3_61) hd56 hd60 (k := ((i8 - i6) * (i1 - i5))) rfl (Nat.le_trans hm61 (by decide)) rfl fun d61 hd61 => ?_
  have hm62 : (((i7 - i5) * (i2 - i6)) - ((i8 - i6) * (i1 - i5))).natAbs ≤ 8589934592 := own_subb hm51 hm61 rfl
  refine o_dsubI X0 hx (hb hby d3_62) hd51 hd61 (k := (((i7 - i5) * (i2 - i6)) - ((i8 - i6) * (i1 - i5)))) rfl (Nat.le_trans hm62 (by decide)) rfl fun d62 hd62 => ?_
  refine o_dstore X0 hx (hb hby d3_63) (L' := #[.val (.double v1), .second, .val (.double v2), .second, .val (.double v3), .second, .val (.double v4), .second, .val (.double v5), .second, .val (.double v6), .second, .val (.double v7), .second, .val (.double v8), .second, .val (.double d18), .second, .val (.double d39), .second, .val (.double d62), .second, .unset, .unset]) rfl rfl ?_
  refine o_dload X0 hx (hb hby d3_65) rfl rfl ?_
  refine o_dload X0 hx (hb hby d3_67) rfl rfl ?_
  have hm69 : (i7 - i5).natAbs ≤ 65536 := own_subb hb7 hb5 rfl
  refine o_dsubI X0 hx (hb hby d3_69) hd7 hd5 (k := (i7 - i5)) rfl (Nat.le_trans hm69 (by decide)) rfl fun d69 hd69 => ?_
  refine o_dload X0 hx (hb hby d3_70) rfl rfl ?_
  refine o_dload X0 hx (hb hby d3_72) rfl rfl ?_
  have hm74 : (i4 - i6).natAbs ≤ 65536 := own_subb hb4 hb6 rfl
  refine o_dsubI X0 hx (hb hby d3_74) hd4 hd6 (k := (i4 - i6)) rfl (Nat.le_trans hm74 (by decide)) rfl fun d74 hd74 => ?_
  have hm75 : ((i7 - i5) * (i4 - i6)).natAbs ≤ 4294967296 := own_mulb hm69 hm74 rfl
  refine o_dmulI X0 hx (hb hby d3_75) hd69 hd74 (k := ((i7 - i5) * (i4 - i6))) rfl (Nat.le_trans hm75 (by decide)) rfl fun d75 hd75 => ?_
  refine o_dload X0 hx (hb hby d3_76) rfl rfl ?_
  refine o_dload X0 hx (hb hby d3_78) rfl rfl ?_
  have hm80 : (i8 - i6).natAbs ≤ 65536 := own_subb hb8 hb6 rfl
  refine o_dsubI X0 hx (hb hby d3_80) hd8 hd6 (k := (i8 - i6)) rfl (Nat.le_trans hm80 (by decide)) rfl fun d80 hd80 => ?_
  refine o_dload X0 hx (hb hby d3_81) rfl rfl ?_
  refine o_dload X0 hx (hb hby d3_83) rfl rfl ?_
  have hm85 : (i3 - i5).natAbs ≤ 65536 := own_subb hb3 hb5 rfl
  refine o_dsubI X0 hx (hb hby d3_85) hd3 hd5 (k := (i3 - i5)) rfl (Nat.le_trans hm85 (by decide)) rfl fun d85 hd85 => ?_
  have hm86 : ((i8 - i6) * (i3 - i5)).natAbs ≤ 4294967296 := own_mulb hm80 hm85 rfl
  refine o_dmulI X0 hx (hb hby d3_86) hd80 hd85 (k := ((i8 - i6) * (i3 - i5))) rfl (Nat.le_trans hm86 (by decide)) rfl fun d86 hd86 => ?_
  have hm87 : (((i7 - i5) * (i4 - i6)) - ((i8 - i6) * (i3 - i5))).natAbs ≤ 8589934592 := own_subb hm75 hm86 rfl
  refine o_dsubI X0 hx (hb hby d3_87) hd75 hd86 (k := (((i7 - i5) * (i4 - i6)) - ((i8 - i6) * (i3 - i5)))) rfl (Nat.le_trans hm87 (by decide)) rfl fun d87 hd87 => ?_
  refine o_dstore X0 hx (hb hby d3_88) (L' := #[.val (.double v1), .second, .val (.double v2), .second, .val (.double v3), .second, .val (.double v4), .second, .val (.double v5), .second, .val (.double v6), .second, .val (.double v7), .second, .val (.double v8), .second, .val (.double d18), .second, .val (.double d39), .second, .val (.double d62), .second, .val (.double d87), .second]) rfl rfl ?_
  refine o_dload X0 hx (hb hby d3_90) rfl rfl ?_
  refine o_dload X0 hx (hb hby d3_92) rfl rfl ?_
  refine o_dmulSg X0 hx (hb hby d3_94) hd18 hd39 rfl fun d94 hd94 => ?_
  refine o_dconst0I X0 hx (hb hby d3_95) rfl fun d95 hd95 => ?_
  have hm95 : (0 : Int).natAbs ≤ 0 := by decide
  refine o_dcmpSg X0 hx (hb hby d3_96) hd94 hd95 rfl ?_
  by_cases hc97 : 0 < ((((i3 - i1) * (i6 - i2)) - ((i4 - i2) * (i5 - i1))) * (((i3 - i1) * (i8 - i2)) - ((i4 - i2) * (i7 - i1))))
  ·
    refine o_ifYes X0 hx (hb hby d3_97) ((if0 _ _).trans (tlt ((oc_gt _ _).mpr hc97)).2.2.1) (by decide) (pc' := 128) (by decide) ?_
    refine o_iconst X0 hx (hb hby d3_128) (v := (0 : Int32)) rfl rfl ?_
    exact o_ret X0 hx hlk (t := .boolean) hret rfl (Or.inl ⟨rfl, by decide, _, rfl⟩) (hb hby d3_129) (by decide) (by decide) e0 ⟨(0 : Int32), rfl, N0, rfl, (Or.inr ⟨rfl, fun q => q.1 hc97⟩)⟩
  ·
    refine o_ifNo X0 hx (hb hby d3_97) ((if0 _ _).trans (flt (fun q => hc97 ((oc_gt _ _).mp q))).2.2.1) rfl ?_
    refine o_dload X0 hx (hb hby d3_100) rfl rfl ?_
    refine o_dload X0 hx (hb hby d3_102) rfl rfl ?_
    refine o_dmulSg X0 hx (hb hby d3_104) hd62 hd87 rfl fun d104 hd104 => ?_
    refine o_dconst0I X0 hx (hb hby d3_105) rfl fun d105 hd105 => ?_
    have hm105 : (0 : Int).natAbs ≤ 0 := by decide
    refine o_dcmpSg X0 hx (hb hby d3_106) hd104 hd105 rfl ?_
    by_cases hc107 : 0 < ((((i7 - i5) * (i2 - i6)) - ((i8 - i6) * (i1 - i5))) * (((i7 - i5) * (i4 - i6)) - ((i8 - i6) * (i3 - i5))))
    ·
      refine o_ifYes X0 hx (hb hby d3_107) ((if0 _ _).trans (tlt ((oc_gt _ _).mpr hc107)).2.2.1) (by decide) (pc' := 128) (by decide) ?_
      refine o_iconst X0 hx (hb hby d3_128) (v := (0 : Int32)) rfl rfl ?_
      exact o_ret X0 hx hlk (t := .boolean) hret rfl (Or.inl ⟨rfl, by decide, _, rfl⟩) (hb hby d3_129) (by decide) (by decide) e0 ⟨(0 : Int32), rfl, N0, rfl, (Or.inr ⟨rfl, fun q => q.2.1 hc107⟩)⟩
    ·
      refine o_ifNo X0 hx (hb hby d3_107) ((if0 _ _).trans (flt (fun q => hc107 ((oc_gt _ _).mp q))).2.2.1) rfl ?_
      refine o_dload X0 hx (hb hby d3_110) rfl rfl ?_
      refine o_dconst0I X0 hx (hb hby d3_112) rfl fun d112 hd112 => ?_
      have hm112 : (0 : Int).natAbs ≤ 0 := by decide
      refine o_dcmpI X0 hx (hb hby d3_113) hd18 hd112 rfl ?_
      by_cases hc114 : (((i3 - i1) * (i6 - i2)) - ((i4 - i2) * (i5 - i1))) = 0
      ·
        refine o_ifNo X0 hx (hb hby d3_114) ((if0 _ _).trans (teq ((oc_eq _ _).mpr hc114)).2) rfl ?_
        refine o_dload X0 hx (hb hby d3_117) rfl rfl ?_
        refine o_dconst0I X0 hx (hb hby d3_119) rfl fun d119 hd119 => ?_
        have hm119 : (0 : Int).natAbs ≤ 0 := by decide
        refine o_dcmpI X0 hx (hb hby d3_120) hd39 hd119 rfl ?_
        by_cases hc121 : (((i3 - i1) * (i8 - i2)) - ((i4 - i2) * (i7 - i1))) = 0
        ·
          refine o_ifYes X0 hx (hb hby d3_121) ((if0 _ _).trans (teq ((oc_eq _ _).mpr hc121)).1) (by decide) (pc' := 128) (by decide) ?_
          refine o_iconst X0 hx (hb hby d3_128) (v := (0 : Int32)) rfl rfl ?_
          exact o_ret X0 hx hlk (t := .boolean) hret rfl (Or.inl ⟨rfl, by decide, _, rfl⟩) (hb hby d3_129) (by decide) (by decide) e0 ⟨(0 : Int32), rfl, N0, rfl, (Or.inr ⟨rfl, fun q => q.2.2.elim (fun h => h hc114) (fun h => h hc121)⟩)⟩
        ·
          refine o_ifNo X0 hx (hb hby d3_121) ((if0 _ _).trans (feq (fun q => hc121 ((oc_eq _ _).mp q))).1) rfl ?_
          refine o_iconst X0 hx (hb hby d3_124) (v := (1 : Int32)) rfl rfl ?_
          refine o_goto X0 hx (hb hby d3_125) (by decide) (pc' := 129) (by decide) ?_
          exact o_ret X0 hx hlk (t := .boolean) hret rfl (Or.inl ⟨rfl, by decide, _, rfl⟩) (hb hby d3_129) (by decide) (by decide) e0 ⟨(1 : Int32), rfl, N0, rfl, (Or.inl ⟨rfl, hc97, hc107, Or.inr hc121⟩)⟩
      ·
        refine o_ifYes X0 hx (hb hby d3_114) ((if0 _ _).trans (feq (fun q => hc114 ((oc_eq _ _).mp q))).2) (by decide) (pc' := 124) (by decide) ?_
        refine o_iconst X0 hx (hb hby d3_124) (v := (1 : Int32)) rfl rfl ?_
        refine o_goto X0 hx (hb hby d3_125) (by decide) (pc' := 129) (by decide) ?_
        exact o_ret X0 hx hlk (t := .boolean) hret rfl (Or.inl ⟨rfl, by decide, _, rfl⟩) (hb hby d3_129) (by decide) (by decide) e0 ⟨(1 : Int32), rfl, N0, rfl, (Or.inl ⟨rfl, hc97, hc107, Or.inl hc114⟩)⟩
def Q4 (Z : State) (j1 : Int64) (j2 : Int64) (j3 : Int64) (j4 : Int64) (j5 : Int64) (j6 : Int64) (h0 : Heap) (n0 : Nat) (v : Option Value) (h : Heap) (L : List Loc) : Prop := ∃ z : Int32, v = some (.int z) ∧ Fr n0 L ∧ h = h0 ∧ (SgI z (((j3.toInt - j1.toInt) * (j6.toInt - j2.toInt)) - ((j4.toInt - j2.toInt) * (j5.toInt - j1.toInt))))
set_option maxRecDepth 65536 in
set_option maxHeartbeats 40000000 in
theorem rm4 (l : Launch) (Z : State) (a0 : Array Value) (hw : ∀ d ∈ tables_1, d.before a0 Z = true) (j1 : Int64) (j2 : Int64) (j3 : Int64) (j4 : Int64) (j5 : Int64) (j6 : Int64) (h0 : Heap) (n0 : Nat) (O0 : Old Z n0 h0) (hj1 : j1.toInt.natAbs ≤ 32768) (hj2 : j2.toInt.natAbs ≤ 32768) (hj3 : j3.toInt.natAbs ≤ 32768) (hj4 : j4.toInt.natAbs ≤ 32768) (hj5 : j5.toInt.natAbs ≤ 32768) (hj6 : j6.toInt.natAbs ≤ 32768) :
    Met l Z (⟨"com/example/timeshed/timeshed/engine/PlaneCrossingPinLaw", "orient", "(JJJJJJ)I"⟩ : MethodName) method_5_code 14 (some .int) ({ frames := 0, cells := 0, slots := 0, locals := 0 } : Room) [] #[(.long j1), (.long j2), (.long j3), (.long j4), (.long j5), (.long j6)] h0 (Q4 Z j1 j2 j3 j4 j5 j6 h0 n0) := by
  refine met_of (L0 := #[.val (.long j1), .second, .val (.long j2), .second, .val (.long j3), .second, .val (.long j4), .second, .val (.long j5), .second, .val (.long j6), .second, .unset, .unset]) (plainFor_of_name pn1) (fun m => by first | (simp [entryFrame, mkF, argsToLocals, Value.category]; done) | rfl) ?_
  intro p e s m below meth c T0 hx hby hml hown hnm hret hlk hZ X0 e0
  have N0 := Fr.nil n0
  refine o_lload X0 hx (hb hby d4_0) rfl rfl ?_
  refine o_lloadN X0 hx (hb hby d4_2) rfl rfl ?_
  refine o_lsub X0 hx (hb hby d4_3) rfl ?_
  refine o_lload X0 hx (hb hby d4_4) rfl rfl ?_
  refine o_lloadN X0 hx (hb hby d4_6) rfl rfl ?_
  refine o_lsub X0 hx (hb hby d4_7) rfl ?_
  refine o_lmul X0 hx (hb hby d4_8) rfl ?_
  refine o_lload X0 hx (hb hby d4_9) rfl rfl ?_
  refine o_lloadN X0 hx (hb hby d4_11) rfl rfl ?_
  refine o_lsub X0 hx (hb hby d4_12) rfl ?_
  refine o_lload X0 hx (hb hby d4_13) rfl rfl ?_
  refine o_lloadN X0 hx (hb hby d4_15) rfl rfl ?_
  refine o_lsub X0 hx (hb hby d4_16) rfl ?_
  refine o_lmul X0 hx (hb hby d4_17) rfl ?_
  refine o_lsub X0 hx (hb hby d4_18) rfl ?_
  refine o_lstore X0 hx (hb hby d4_19) (L' := #[.val (.long j1), .second, .val (.long j2), .second, .val (.long j3), .second, .val (.long j4), .second, .val (.long j5), .second, .val (.long j6), .second, .val (.long (((j3 - j1) * (j6 - j2)) - ((j4 - j2) * (j5 - j1)))), .second]) rfl rfl ?_
  refine o_lload X0 hx (hb hby d4_21) rfl rfl ?_
  refine o_lconst X0 hx (hb hby d4_23) (v := (0 : Int64)) rfl rfl ?_
  refine o_lcmp X0 hx (hb hby d4_24) rfl ?_
  by_cases hc25 : (0 : Int64) < (((j3 - j1) * (j6 - j2)) - ((j4 - j2) * (j5 - j1)))
  ·
    refine o_ifNo X0 hx (hb hby d4_25) ((if0 _ _).trans (tlt ((lw_gt _ _).mpr hc25)).2.2.2) rfl ?_
    refine o_iconst X0 hx (hb hby d4_28) (v := (1 : Int32)) rfl rfl ?_
    exact o_ret X0 hx hlk (t := .int) hret rfl (Or.inl ⟨rfl, by decide, _, rfl⟩) (hb hby d4_29) (by decide) (by decide) e0 ⟨(1 : Int32), rfl, N0, rfl, (own_sg1 (own_lv hj1 hj2 hj3 hj4 hj5 hj6) hc25)⟩
  ·
    refine o_ifYes X0 hx (hb hby d4_25) ((if0 _ _).trans (flt (fun q => hc25 ((lw_gt _ _).mp q))).2.2.2) (by decide) (pc' := 30) (by decide) ?_
    refine o_lload X0 hx (hb hby d4_30) rfl rfl ?_
    refine o_lconst X0 hx (hb hby d4_32) (v := (0 : Int64)) rfl rfl ?_
    refine o_lcmp X0 hx (hb hby d4_33) rfl ?_
    by_cases hc34 : (((j3 - j1) * (j6 - j2)) - ((j4 - j2) * (j5 - j1))) < (0 : Int64)
    ·
      refine o_ifNo X0 hx (hb hby d4_34) ((if0 _ _).trans (tlt ((lw_lt _ _).mpr hc34)).2.1) rfl ?_
      refine o_iconst X0 hx (hb hby d4_37) (v := (-1 : Int32)) rfl rfl ?_
      exact o_ret X0 hx hlk (t := .int) hret rfl (Or.inl ⟨rfl, by decide, _, rfl⟩) (hb hby d4_38) (by decide) (by decide) e0 ⟨(-1 : Int32), rfl, N0, rfl, (own_sg2 (own_lv hj1 hj2 hj3 hj4 hj5 hj6) hc34)⟩
    ·
      refine o_ifYes X0 hx (hb hby d4_34) ((if0 _ _).trans (flt (fun q => hc34 ((lw_lt _ _).mp q))).2.1) (by decide) (pc' := 39) (by decide) ?_
      refine o_iconst X0 hx (hb hby d4_39) (v := (0 : Int32)) rfl rfl ?_
      exact o_ret X0 hx hlk (t := .int) hret rfl (Or.inl ⟨rfl, by decide, _, rfl⟩) (hb hby d4_40) (by decide) (by decide) e0 ⟨(0 : Int32), rfl, N0, rfl, (own_sg3 (own_lv hj1 hj2 hj3 hj4 hj5 hj6) hc25 hc34)⟩
def Q0 (Z : State) (p0 : Int32) (p1 : Int32) (p2 : Int32) (p3 : Int32) (p4 : Int32) (h0 : Heap) (n0 : Nat) (v : Option Value) (h : Heap) (L : List Loc) : Prop := v = some (.int (1 : Int32)) ∧ Fr n0 L ∧ Keep h0 h []
set_option maxRecDepth 65536 in
set_option maxHeartbeats 40000000 in
theorem rm0 (l : Launch) (Z : State) (a0 : Array Value) (hw : ∀ d ∈ tables_1, d.before a0 Z = true) (ws : List Jvm.Cond) (p0 : Int32) (p1 : Int32) (p2 : Int32) (p3 : Int32) (p4 : Int32) (h0 : Heap) (n0 : Nat) (O0 : Old Z n0 h0) :
    Met l Z x code maxLocals ret room_1 ws #[(.int p0), (.int p1), (.int p2), (.int p3), (.int p4)] h0 (Q0 Z p0 p1 p2 p3 p4 h0 n0) := by
  refine met_of (L0 := #[.val (.int p0), .val (.int p1), .val (.int p2), .val (.int p3), .val (.int p4), .unset, .unset, .unset, .unset, .unset, .unset, .unset, .unset, .unset, .unset, .unset, .unset, .unset, .unset, .unset, .unset, .unset, .unset, .unset, .unset, .unset, .unset, .unset]) (plainFor_of_name pn0) (fun m => by first | (simp [entryFrame, mkF, argsToLocals, Value.category, maxLocals]; done) | rfl) ?_
  intro p e s m below meth c T0 hx hby hml hown hnm hret hlk hZ X0 e0
  have N0 := Fr.nil n0
  have KK0 : Keep h0 h0 [] := Keep.refl _ _
  refine o_bipush X0 hx (hb hby at_0) (v := (16 : Int32)) rfl rfl ?_
  refine o_iload X0 hx (hb hby at_2) rfl rfl ?_
  refine Goes.on (fun _ k => X0.ldcInt hx hown (mvT hZ (wd0 hw)) (g := (mkF m 4 #[.val (.int p0), .val (.int p1), .val (.int p2), .val (.int p3), .val (.int p4), .unset, .unset, .unset, .unset, .unset, .unset, .unset, .unset, .unset, .unset, .unset, .unset, .unset, .unset, .unset, .unset, .unset, .unset, .unset, .unset, .unset, .unset, .unset] [(.int p4), (.int (16 : Int32))])) rfl (hb hby at_4) _ k) ?_
  show Goes p.tables e below (Ends s (Q0 Z p0 p1 p2 p3 p4 h0 n0) room_1.cells room_1.slots) (T0.setTop (mkF m 6 #[.val (.int p0), .val (.int p1), .val (.int p2), .val (.int p3), .val (.int p4), .unset, .unset, .unset, .unset, .unset, .unset, .unset, .unset, .unset, .unset, .unset, .unset, .unset, .unset, .unset, .unset, .unset, .unset, .unset, .unset, .unset, .unset, .unset] [(.int (2147483647 : Int32)), (.int p4), (.int (16 : Int32))]))
  refine o_iand X0 hx (hb hby at_6) rfl ?_
  refine o_bipush X0 hx (hb hby at_7) (v := (14 : Int32)) rfl rfl ?_
  refine o_irem X0 hx (hb hby at_9) (by decide) rfl ?_
  refine o_iadd X0 hx (hb hby at_10) rfl ?_
  refine o_istore X0 hx (hb hby at_11) (L' := #[.val (.int p0), .val (.int p1), .val (.int p2), .val (.int p3), .val (.int p4), .val (.int ((16 : Int32) + ((p4 &&& (2147483647 : Int32)) % (14 : Int32)))), .unset, .unset, .unset, .unset, .unset, .unset, .unset, .unset, .unset, .unset, .unset, .unset, .unset, .unset, .unset, .unset, .unset, .unset, .unset, .unset, .unset, .unset]) rfl rfl ?_
  refine o_iloadN X0 hx (hb hby at_13) rfl rfl ?_
  refine o_iload X0 hx (hb hby at_14) rfl rfl ?_
  refine o_static X0 hx hZ hown (wd1 hw) (wd2 hw) (by decide) (rm1 l Z a0 hw p0 (((16 : Int32) + ((p4 &&& (2147483647 : Int32)) % (14 : Int32)))) h0 n0 O0 (own_tq.1) (own_tq.2)) (wd4 hw) (wd3 hw) e0 (by rw [hml]; rfl) (argsL := [(.int p0), (.int ((16 : Int32) + ((p4 &&& (2147483647 : Int32)) % (14 : Int32))))]) (rest := []) (W := 0) pd0 rfl rfl rfl rfl (hb hby at_16) (by decide) (by decide) (by decide) (by decide) (cells' := 0) (slots' := 0) rfl rfl rfl fun v16 T16 h16 Lc16 X16 e16 hq16 => ?_
  obtain ⟨r_16, rfl, N16q, K16, hr_16⟩ := hq16
  have N16 := Fr.app N0 N16q
  have e16_2 : T16.heap = h0 := e16.trans K16
  show Goes p.tables e below (Ends s (Q0 Z p0 p1 p2 p3 p4 h0 n0) room_1.cells room_1.slots) (T16.setTop (mkF m 19 #[.val (.int p0), .val (.int p1), .val (.int p2), .val (.int p3), .val (.int p4), .val (.int ((16 : Int32) + ((p4 &&& (2147483647 : Int32)) % (14 : Int32)))), .unset, .unset, .unset, .unset, .unset, .unset, .unset, .unset, .unset, .unset, .unset, .unset, .unset, .unset, .unset, .unset, .unset, .unset, .unset, .unset, .unset, .unset] [(.long r_16)]))
  refine o_lstore X16 hx (hb hby at_19) (L' := #[.val (.int p0), .val (.int p1), .val (.int p2), .val (.int p3), .val (.int p4), .val (.int ((16 : Int32) + ((p4 &&& (2147483647 : Int32)) % (14 : Int32)))), .val (.long r_16), .second, .unset, .unset, .unset, .unset, .unset, .unset, .unset, .unset, .unset, .unset, .unset, .unset, .unset, .unset, .unset, .unset, .unset, .unset, .unset, .unset]) rfl rfl ?_
  refine o_iloadN X16 hx (hb hby at_21) rfl rfl ?_
  refine o_iload X16 hx (hb hby at_22) rfl rfl ?_
  refine o_static X16 hx hZ hown (wd5 hw) (wd6 hw) (by decide) (rm2 l Z a0 hw p0 (((16 : Int32) + ((p4 &&& (2147483647 : Int32)) % (14 : Int32)))) h0 n0 O0 (own_tq.1) (own_tq.2)) (wd7 hw) (wd3 hw) e16_2 (by rw [hml]; rfl) (argsL := [(.int p0), (.int ((16 : Int32) + ((p4 &&& (2147483647 : Int32)) % (14 : Int32))))]) (rest := []) (W := 0) pd0 rfl rfl rfl rfl (hb hby at_24) (by decide) (by decide) (by decide) (by decide) (cells' := 0) (slots' := 0) rfl rfl rfl fun v24 T24 h24 Lc24 X24 e24 hq24 => ?_
  obtain ⟨r_24, rfl, N24q, K24, hr_24⟩ := hq24
  have N24 := Fr.app N16 N24q
  have e24_2 : T24.heap = h0 := e24.trans K24
  show Goes p.tables e below (Ends s (Q0 Z p0 p1 p2 p3 p4 h0 n0) room_1.cells room_1.slots) (T24.setTop (mkF m 27 #[.val (.int p0), .val (.int p1), .val (.int p2), .val (.int p3), .val (.int p4), .val (.int ((16 : Int32) + ((p4 &&& (2147483647 : Int32)) % (14 : Int32)))), .val (.long r_16), .second, .unset, .unset, .unset, .unset, .unset, .unset, .unset, .unset, .unset, .unset, .unset, .unset, .unset, .unset, .unset, .unset, .unset, .unset, .unset, .unset] [(.long r_24)]))
  refine o_lstore X24 hx (hb hby at_27) (L' := #[.val (.int p0), .val (.int p1), .val (.int p2), .val (.int p3), .val (.int p4), .val (.int ((16 : Int32) + ((p4 &&& (2147483647 : Int32)) % (14 : Int32)))), .val (.long r_16), .second, .val (.long r_24), .second, .unset, .unset, .unset, .unset, .unset, .unset, .unset, .unset, .unset, .unset, .unset, .unset, .unset, .unset, .unset, .unset, .unset, .unset]) rfl rfl ?_
  refine o_iloadN X24 hx (hb hby at_29) rfl rfl ?_
  refine o_iload X24 hx (hb hby at_30) rfl rfl ?_
  refine o_static X24 hx hZ hown (wd1 hw) (wd2 hw) (by decide) (rm1 l Z a0 hw p1 (((16 : Int32) + ((p4 &&& (2147483647 : Int32)) % (14 : Int32)))) h0 n0 O0 (own_tq.1) (own_tq.2)) (wd4 hw) (wd3 hw) e24_2 (by rw [hml]; rfl) (argsL := [(.int p1), (.int ((16 : Int32) + ((p4 &&& (2147483647 : Int32)) % (14 : Int32))))]) (rest := []) (W := 0) pd0 rfl rfl rfl rfl (hb hby at_32) (by decide) (by decide) (by decide) (by decide) (cells' := 0) (slots' := 0) rfl rfl rfl fun v32 T32 h32 Lc32 X32 e32 hq32 => ?_
  obtain ⟨r_32, rfl, N32q, K32, hr_32⟩ := hq32
  have N32 := Fr.app N24 N32q
  have e32_2 : T32.heap = h0 := e32.trans K32
  show Goes p.tables e below (Ends s (Q0 Z p0 p1 p2 p3 p4 h0 n0) room_1.cells room_1.slots) (T32.setTop (mkF m 35 #[.val (.int p0), .val (.int p1), .val (.int p2), .val (.int p3), .val (.int p4), .val (.int ((16 : Int32) + ((p4 &&& (2147483647 : Int32)) % (14 : Int32)))), .val (.long r_16), .second, .val (.long r_24), .second, .unset, .unset, .unset, .unset, .unset, .unset, .unset, .unset, .unset, .unset, .unset, .unset, .unset, .unset, .unset, .unset, .unset, .unset] [(.long r_32)]))
  refine o_lstore X32 hx (hb hby at_35) (L' := #[.val (.int p0), .val (.int p1), .val (.int p2), .val (.int p3), .val (.int p4), .val (.int ((16 : Int32) + ((p4 &&& (2147483647 : Int32)) % (14 : Int32)))), .val (.long r_16), .second, .val (.long r_24), .second, .val (.long r_32), .second, .unset, .unset, .unset, .unset, .unset, .unset, .unset, .unset, .unset, .unset, .unset, .unset, .unset, .unset, .unset, .unset]) rfl rfl ?_
  refine o_iloadN X32 hx (hb hby at_37) rfl rfl ?_
  refine o_iload X32 hx (hb hby at_38) rfl rfl ?_
  refine o_static X32 hx hZ hown (wd5 hw) (wd6 hw) (by decide) (rm2 l Z a0 hw p1 (((16 : Int32) + ((p4 &&& (2147483647 : Int32)) % (14 : Int32)))) h0 n0 O0 (own_tq.1) (own_tq.2)) (wd7 hw) (wd3 hw) e32_2 (by rw [hml]; rfl) (argsL := [(.int p1), (.int ((16 : Int32) + ((p4 &&& (2147483647 : Int32)) % (14 : Int32))))]) (rest := []) (W := 0) pd0 rfl rfl rfl rfl (hb hby at_40) (by decide) (by decide) (by decide) (by decide) (cells' := 0) (slots' := 0) rfl rfl rfl fun v40 T40 h40 Lc40 X40 e40 hq40 => ?_
  obtain ⟨r_40, rfl, N40q, K40, hr_40⟩ := hq40
  have N40 := Fr.app N32 N40q
  have e40_2 : T40.heap = h0 := e40.trans K40
  show Goes p.tables e below (Ends s (Q0 Z p0 p1 p2 p3 p4 h0 n0) room_1.cells room_1.slots) (T40.setTop (mkF m 43 #[.val (.int p0), .val (.int p1), .val (.int p2), .val (.int p3), .val (.int p4), .val (.int ((16 : Int32) + ((p4 &&& (2147483647 : Int32)) % (14 : Int32)))), .val (.long r_16), .second, .val (.long r_24), .second, .val (.long r_32), .second, .unset, .unset, .unset, .unset, .unset, .unset, .unset, .unset, .unset, .unset, .unset, .unset, .unset, .unset, .unset, .unset] [(.long r_40)]))
  refine o_lstore X40 hx (hb hby at_43) (L' := #[.val (.int p0), .val (.int p1), .val (.int p2), .val (.int p3), .val (.int p4), .val (.int ((16 : Int32) + ((p4 &&& (2147483647 : Int32)) % (14 : Int32)))), .val (.long r_16), .second, .val (.long r_24), .second, .val (.long r_32), .second, .val (.long r_40), .second, .unset, .unset, .unset, .unset, .unset, .unset, .unset, .unset, .unset, .unset, .unset, .unset, .unset, .unset]) rfl rfl ?_
  refine o_iloadN X40 hx (hb hby at_45) rfl rfl ?_
  refine o_iload X40 hx (hb hby at_46) rfl rfl ?_
  refine o_static X40 hx hZ hown (wd1 hw) (wd2 hw) (by decide) (rm1 l Z a0 hw p2 (((16 : Int32) + ((p4 &&& (2147483647 : Int32)) % (14 : Int32)))) h0 n0 O0 (own_tq.1) (own_tq.2)) (wd4 hw) (wd3 hw) e40_2 (by rw [hml]; rfl) (argsL := [(.int p2), (.int ((16 : Int32) + ((p4 &&& (2147483647 : Int32)) % (14 : Int32))))]) (rest := []) (W := 0) pd0 rfl rfl rfl rfl (hb hby at_48) (by decide) (by decide) (by decide) (by decide) (cells' := 0) (slots' := 0) rfl rfl rfl fun v48 T48 h48 Lc48 X48 e48 hq48 => ?_
  obtain ⟨r_48, rfl, N48q, K48, hr_48⟩ := hq48
  have N48 := Fr.app N40 N48q
  have e48_2 : T48.heap = h0 := e48.trans K48
  show Goes p.tables e below (Ends s (Q0 Z p0 p1 p2 p3 p4 h0 n0) room_1.cells room_1.slots) (T48.setTop (mkF m 51 #[.val (.int p0), .val (.int p1), .val (.int p2), .val (.int p3), .val (.int p4), .val (.int ((16 : Int32) + ((p4 &&& (2147483647 : Int32)) % (14 : Int32)))), .val (.long r_16), .second, .val (.long r_24), .second, .val (.long r_32), .second, .val (.long r_40), .second, .unset, .unset, .unset, .unset, .unset, .unset, .unset, .unset, .unset, .unset, .unset, .unset, .unset, .unset] [(.long r_48)]))
  refine o_lstore X48 hx (hb hby at_51) (L' := #[.val (.int p0), .val (.int p1), .val (.int p2), .val (.int p3), .val (.int p4), .val (.int ((16 : Int32) + ((p4 &&& (2147483647 : Int32)) % (14 : Int32)))), .val (.long r_16), .second, .val (.long r_24), .second, .val (.long r_32), .second, .val (.long r_40), .second, .val (.long r_48), .second, .unset, .unset, .unset, .unset, .unset, .unset, .unset, .unset, .unset, .unset, .unset, .unset]) rfl rfl ?_
  refine o_iloadN X48 hx (hb hby at_53) rfl rfl ?_
  refine o_iload X48 hx (hb hby at_54) rfl rfl ?_
  refine o_static X48 hx hZ hown (wd5 hw) (wd6 hw) (by decide) (rm2 l Z a0 hw p2 (((16 : Int32) + ((p4 &&& (2147483647 : Int32)) % (14 : Int32)))) h0 n0 O0 (own_tq.1) (own_tq.2)) (wd7 hw) (wd3 hw) e48_2 (by rw [hml]; rfl) (argsL := [(.int p2), (.int ((16 : Int32) + ((p4 &&& (2147483647 : Int32)) % (14 : Int32))))]) (rest := []) (W := 0) pd0 rfl rfl rfl rfl (hb hby at_56) (by decide) (by decide) (by decide) (by decide) (cells' := 0) (slots' := 0) rfl rfl rfl fun v56 T56 h56 Lc56 X56 e56 hq56 => ?_
  obtain ⟨r_56, rfl, N56q, K56, hr_56⟩ := hq56
  have N56 := Fr.app N48 N56q
  have e56_2 : T56.heap = h0 := e56.trans K56
  show Goes p.tables e below (Ends s (Q0 Z p0 p1 p2 p3 p4 h0 n0) room_1.cells room_1.slots) (T56.setTop (mkF m 59 #[.val (.int p0), .val (.int p1), .val (.int p2), .val (.int p3), .val (.int p4), .val (.int ((16 : Int32) + ((p4 &&& (2147483647 : Int32)) % (14 : Int32)))), .val (.long r_16), .second, .val (.long r_24), .second, .val (.long r_32), .second, .val (.long r_40), .second, .val (.long r_48), .second, .unset, .unset, .unset, .unset, .unset, .unset, .unset, .unset, .unset, .unset, .unset, .unset] [(.long r_56)]))
  refine o_lstore X56 hx (hb hby at_59) (L' := #[.val (.int p0), .val (.int p1), .val (.int p2), .val (.int p3), .val (.int p4), .val (.int ((16 : Int32) + ((p4 &&& (2147483647 : Int32)) % (14 : Int32)))), .val (.long r_16), .second, .val (.long r_24), .second, .val (.long r_32), .second, .val (.long r_40), .second, .val (.long r_48), .second, .val (.long r_56), .second, .unset, .unset, .unset, .unset, .unset, .unset, .unset, .unset, .unset, .unset]) rfl rfl ?_
  refine o_iloadN X56 hx (hb hby at_61) rfl rfl ?_
  refine o_iload X56 hx (hb hby at_62) rfl rfl ?_
  refine o_static X56 hx hZ hown (wd1 hw) (wd2 hw) (by decide) (rm1 l Z a0 hw p3 (((16 : Int32) + ((p4 &&& (2147483647 : Int32)) % (14 : Int32)))) h0 n0 O0 (own_tq.1) (own_tq.2)) (wd4 hw) (wd3 hw) e56_2 (by rw [hml]; rfl) (argsL := [(.int p3), (.int ((16 : Int32) + ((p4 &&& (2147483647 : Int32)) % (14 : Int32))))]) (rest := []) (W := 0) pd0 rfl rfl rfl rfl (hb hby at_64) (by decide) (by decide) (by decide) (by decide) (cells' := 0) (slots' := 0) rfl rfl rfl fun v64 T64 h64 Lc64 X64 e64 hq64 => ?_
  obtain ⟨r_64, rfl, N64q, K64, hr_64⟩ := hq64
  have N64 := Fr.app N56 N64q
  have e64_2 : T64.heap = h0 := e64.trans K64
  show Goes p.tables e below (Ends s (Q0 Z p0 p1 p2 p3 p4 h0 n0) room_1.cells room_1.slots) (T64.setTop (mkF m 67 #[.val (.int p0), .val (.int p1), .val (.int p2), .val (.int p3), .val (.int p4), .val (.int ((16 : Int32) + ((p4 &&& (2147483647 : Int32)) % (14 : Int32)))), .val (.long r_16), .second, .val (.long r_24), .second, .val (.long r_32), .second, .val (.long r_40), .second, .val (.long r_48), .second, .val (.long r_56), .second, .unset, .unset, .unset, .unset, .unset, .unset, .unset, .unset, .unset, .unset] [(.long r_64)]))
  refine o_lstore X64 hx (hb hby at_67) (L' := #[.val (.int p0), .val (.int p1), .val (.int p2), .val (.int p3), .val (.int p4), .val (.int ((16 : Int32) + ((p4 &&& (2147483647 : Int32)) % (14 : Int32)))), .val (.long r_16), .second, .val (.long r_24), .second, .val (.long r_32), .second, .val (.long r_40), .second, .val (.long r_48), .second, .val (.long r_56), .second, .val (.long r_64), .second, .unset, .unset, .unset, .unset, .unset, .unset, .unset, .unset]) rfl rfl ?_
  refine o_iloadN X64 hx (hb hby at_69) rfl rfl ?_
  refine o_iload X64 hx (hb hby at_70) rfl rfl ?_
  refine o_static X64 hx hZ hown (wd5 hw) (wd6 hw) (by decide) (rm2 l Z a0 hw p3 (((16 : Int32) + ((p4 &&& (2147483647 : Int32)) % (14 : Int32)))) h0 n0 O0 (own_tq.1) (own_tq.2)) (wd7 hw) (wd3 hw) e64_2 (by rw [hml]; rfl) (argsL := [(.int p3), (.int ((16 : Int32) + ((p4 &&& (2147483647 : Int32)) % (14 : Int32))))]) (rest := []) (W := 0) pd0 rfl rfl rfl rfl (hb hby at_72) (by decide) (by decide) (by decide) (by decide) (cells' := 0) (slots' := 0) rfl rfl rfl fun v72 T72 h72 Lc72 X72 e72 hq72 => ?_
  obtain ⟨r_72, rfl, N72q, K72, hr_72⟩ := hq72
  have N72 := Fr.app N64 N72q
  have e72_2 : T72.heap = h0 := e72.trans K72
  show Goes p.tables e below (Ends s (Q0 Z p0 p1 p2 p3 p4 h0 n0) room_1.cells room_1.slots) (T72.setTop (mkF m 75 #[.val (.int p0), .val (.int p1), .val (.int p2), .val (.int p3), .val (.int p4), .val (.int ((16 : Int32) + ((p4 &&& (2147483647 : Int32)) % (14 : Int32)))), .val (.long r_16), .second, .val (.long r_24), .second, .val (.long r_32), .second, .val (.long r_40), .second, .val (.long r_48), .second, .val (.long r_56), .second, .val (.long r_64), .second, .unset, .unset, .unset, .unset, .unset, .unset, .unset, .unset] [(.long r_72)]))
  refine o_lstore X72 hx (hb hby at_75) (L' := #[.val (.int p0), .val (.int p1), .val (.int p2), .val (.int p3), .val (.int p4), .val (.int ((16 : Int32) + ((p4 &&& (2147483647 : Int32)) % (14 : Int32)))), .val (.long r_16), .second, .val (.long r_24), .second, .val (.long r_32), .second, .val (.long r_40), .second, .val (.long r_48), .second, .val (.long r_56), .second, .val (.long r_64), .second, .val (.long r_72), .second, .unset, .unset, .unset, .unset, .unset, .unset]) rfl rfl ?_
  refine o_lload X72 hx (hb hby at_77) rfl rfl ?_
  have hm79 : r_16.toInt.natAbs ≤ 32768 := hr_16
  refine o_l2dI X72 hx (hb hby at_79) (Nat.le_trans hm79 (by decide)) rfl fun d79 hd79 => ?_
  refine o_lload X72 hx (hb hby at_80) rfl rfl ?_
  have hm82 : r_24.toInt.natAbs ≤ 32768 := hr_24
  refine o_l2dI X72 hx (hb hby at_82) (Nat.le_trans hm82 (by decide)) rfl fun d82 hd82 => ?_
  refine o_lload X72 hx (hb hby at_83) rfl rfl ?_
  have hm85 : r_32.toInt.natAbs ≤ 32768 := hr_32
  refine o_l2dI X72 hx (hb hby at_85) (Nat.le_trans hm85 (by decide)) rfl fun d85 hd85 => ?_
  refine o_lload X72 hx (hb hby at_86) rfl rfl ?_
  have hm88 : r_40.toInt.natAbs ≤ 32768 := hr_40
  refine o_l2dI X72 hx (hb hby at_88) (Nat.le_trans hm88 (by decide)) rfl fun d88 hd88 => ?_
  refine o_lload X72 hx (hb hby at_89) rfl rfl ?_
  have hm91 : r_48.toInt.natAbs ≤ 32768 := hr_48
  refine o_l2dI X72 hx (hb hby at_91) (Nat.le_trans hm91 (by decide)) rfl fun d91 hd91 => ?_
  refine o_lload X72 hx (hb hby at_92) rfl rfl ?_
  have hm94 : r_56.toInt.natAbs ≤ 32768 := hr_56
  refine o_l2dI X72 hx (hb hby at_94) (Nat.le_trans hm94 (by decide)) rfl fun d94 hd94 => ?_
  refine o_lload X72 hx (hb hby at_95) rfl rfl ?_
  have hm97 : r_64.toInt.natAbs ≤ 32768 := hr_64
  refine o_l2dI X72 hx (hb hby at_97) (Nat.le_trans hm97 (by decide)) rfl fun d97 hd97 => ?_
  refine o_lload X72 hx (hb hby at_98) rfl rfl ?_
  have hm100 : r_72.toInt.natAbs ≤ 32768 := hr_72
  refine o_l2dI X72 hx (hb hby at_100) (Nat.le_trans hm100 (by decide)) rfl fun d100 hd100 => ?_
  refine o_static X72 hx hZ hown (wd8 hw) (wd9 hw) (by decide) (rm3 l Z a0 hw d79 d82 d85 d88 d91 d94 d97 d100 r_16.toInt r_24.toInt r_32.toInt r_40.toInt r_48.toInt r_56.toInt r_64.toInt r_72.toInt h0 n0 O0 (hd79) (hm79) (hd82) (hm82) (hd85) (hm85) (hd88) (hm88) (hd91) (hm91) (hd94) (hm94) (hd97) (hm97) (hd100) (hm100)) (wd11 hw) (wd10 hw) e72_2 (by rw [hml]; rfl) (argsL := [(.double d79), (.double d82), (.double d85), (.double d88), (.double d91), (.double d94), (.double d97), (.double d100)]) (rest := []) (W := 0) pd1 rfl rfl rfl rfl (hb hby at_101) (by decide) (by decide) (by decide) (by decide) (cells' := 0) (slots' := 0) rfl rfl rfl fun v101 T101 h101 Lc101 X101 e101 hq101 => ?_
  obtain ⟨z_101, rfl, N101q, K101, hz_101⟩ := hq101
  have N101 := Fr.app N72 N101q
  have e101_2 : T101.heap = h0 := e101.trans K101
  show Goes p.tables e below (Ends s (Q0 Z p0 p1 p2 p3 p4 h0 n0) room_1.cells room_1.slots) (T101.setTop (mkF m 104 #[.val (.int p0), .val (.int p1), .val (.int p2), .val (.int p3), .val (.int p4), .val (.int ((16 : Int32) + ((p4 &&& (2147483647 : Int32)) % (14 : Int32)))), .val (.long r_16), .second, .val (.long r_24), .second, .val (.long r_32), .second, .val (.long r_40), .second, .val (.long r_48), .second, .val (.long r_56), .second, .val (.long r_64), .second, .val (.long r_72), .second, .unset, .unset, .unset, .unset, .unset, .unset] [(.int z_101)]))
  refine o_istore X101 hx (hb hby at_104) (L' := #[.val (.int p0), .val (.int p1), .val (.int p2), .val (.int p3), .val (.int p4), .val (.int ((16 : Int32) + ((p4 &&& (2147483647 : Int32)) % (14 : Int32)))), .val (.long r_16), .second, .val (.long r_24), .second, .val (.long r_32), .second, .val (.long r_40), .second, .val (.long r_48), .second, .val (.long r_56), .second, .val (.long r_64), .second, .val (.long r_72), .second, .val (.int z_101), .unset, .unset, .unset, .unset, .unset]) rfl rfl ?_
  refine o_lload X101 hx (hb hby at_106) rfl rfl ?_
  refine o_lload X101 hx (hb hby at_108) rfl rfl ?_
  refine o_lload X101 hx (hb hby at_110) rfl rfl ?_
  refine o_lload X101 hx (hb hby at_112) rfl rfl ?_
  refine o_lload X101 hx (hb hby at_114) rfl rfl ?_
  refine o_lload X101 hx (hb hby at_116) rfl rfl ?_
  refine o_static X101 hx hZ hown (wd12 hw) (wd13 hw) (by decide) (rm4 l Z a0 hw r_16 r_24 r_32 r_40 r_48 r_56 h0 n0 O0 hr_16 hr_24 hr_32 hr_40 hr_48 hr_56) (wd14 hw) (wd3 hw) e101_2 (by rw [hml]; rfl) (argsL := [(.long r_16), (.long r_24), (.long r_32), (.long r_40), (.long r_48), (.long r_56)]) (rest := []) (W := 0) pd2 rfl rfl rfl rfl (hb hby at_118) (by decide) (by decide) (by decide) (by decide) (cells' := 0) (slots' := 0) rfl rfl rfl fun v118 T118 h118 Lc118 X118 e118 hq118 => ?_
  obtain ⟨z_118, rfl, N118q, K118, hz_118⟩ := hq118
  have N118 := Fr.app N101 N118q
  have e118_2 : T118.heap = h0 := e118.trans K118
  show Goes p.tables e below (Ends s (Q0 Z p0 p1 p2 p3 p4 h0 n0) room_1.cells room_1.slots) (T118.setTop (mkF m 121 #[.val (.int p0), .val (.int p1), .val (.int p2), .val (.int p3), .val (.int p4), .val (.int ((16 : Int32) + ((p4 &&& (2147483647 : Int32)) % (14 : Int32)))), .val (.long r_16), .second, .val (.long r_24), .second, .val (.long r_32), .second, .val (.long r_40), .second, .val (.long r_48), .second, .val (.long r_56), .second, .val (.long r_64), .second, .val (.long r_72), .second, .val (.int z_101), .unset, .unset, .unset, .unset, .unset] [(.int z_118)]))
  refine o_istore X118 hx (hb hby at_121) (L' := #[.val (.int p0), .val (.int p1), .val (.int p2), .val (.int p3), .val (.int p4), .val (.int ((16 : Int32) + ((p4 &&& (2147483647 : Int32)) % (14 : Int32)))), .val (.long r_16), .second, .val (.long r_24), .second, .val (.long r_32), .second, .val (.long r_40), .second, .val (.long r_48), .second, .val (.long r_56), .second, .val (.long r_64), .second, .val (.long r_72), .second, .val (.int z_101), .val (.int z_118), .unset, .unset, .unset, .unset]) rfl rfl ?_
  refine o_lload X118 hx (hb hby at_123) rfl rfl ?_
  refine o_lload X118 hx (hb hby at_125) rfl rfl ?_
  refine o_lload X118 hx (hb hby at_127) rfl rfl ?_
  refine o_lload X118 hx (hb hby at_129) rfl rfl ?_
  refine o_lload X118 hx (hb hby at_131) rfl rfl ?_
  refine o_lload X118 hx (hb hby at_133) rfl rfl ?_
  refine o_static X118 hx hZ hown (wd12 hw) (wd13 hw) (by decide) (rm4 l Z a0 hw r_16 r_24 r_32 r_40 r_64 r_72 h0 n0 O0 hr_16 hr_24 hr_32 hr_40 hr_64 hr_72) (wd14 hw) (wd3 hw) e118_2 (by rw [hml]; rfl) (argsL := [(.long r_16), (.long r_24), (.long r_32), (.long r_40), (.long r_64), (.long r_72)]) (rest := []) (W := 0) pd2 rfl rfl rfl rfl (hb hby at_135) (by decide) (by decide) (by decide) (by decide) (cells' := 0) (slots' := 0) rfl rfl rfl fun v135 T135 h135 Lc135 X135 e135 hq135 => ?_
  obtain ⟨z_135, rfl, N135q, K135, hz_135⟩ := hq135
  have N135 := Fr.app N118 N135q
  have e135_2 : T135.heap = h0 := e135.trans K135
  show Goes p.tables e below (Ends s (Q0 Z p0 p1 p2 p3 p4 h0 n0) room_1.cells room_1.slots) (T135.setTop (mkF m 138 #[.val (.int p0), .val (.int p1), .val (.int p2), .val (.int p3), .val (.int p4), .val (.int ((16 : Int32) + ((p4 &&& (2147483647 : Int32)) % (14 : Int32)))), .val (.long r_16), .second, .val (.long r_24), .second, .val (.long r_32), .second, .val (.long r_40), .second, .val (.long r_48), .second, .val (.long r_56), .second, .val (.long r_64), .second, .val (.long r_72), .second, .val (.int z_101), .val (.int z_118), .unset, .unset, .unset, .unset] [(.int z_135)]))
  refine o_istore X135 hx (hb hby at_138) (L' := #[.val (.int p0), .val (.int p1), .val (.int p2), .val (.int p3), .val (.int p4), .val (.int ((16 : Int32) + ((p4 &&& (2147483647 : Int32)) % (14 : Int32)))), .val (.long r_16), .second, .val (.long r_24), .second, .val (.long r_32), .second, .val (.long r_40), .second, .val (.long r_48), .second, .val (.long r_56), .second, .val (.long r_64), .second, .val (.long r_72), .second, .val (.int z_101), .val (.int z_118), .val (.int z_135), .unset, .unset, .unset]) rfl rfl ?_
  refine o_lload X135 hx (hb hby at_140) rfl rfl ?_
  refine o_lload X135 hx (hb hby at_142) rfl rfl ?_
  refine o_lload X135 hx (hb hby at_144) rfl rfl ?_
  refine o_lload X135 hx (hb hby at_146) rfl rfl ?_
  refine o_lload X135 hx (hb hby at_148) rfl rfl ?_
  refine o_lload X135 hx (hb hby at_150) rfl rfl ?_
  refine o_static X135 hx hZ hown (wd12 hw) (wd13 hw) (by decide) (rm4 l Z a0 hw r_48 r_56 r_64 r_72 r_16 r_24 h0 n0 O0 hr_48 hr_56 hr_64 hr_72 hr_16 hr_24) (wd14 hw) (wd3 hw) e135_2 (by rw [hml]; rfl) (argsL := [(.long r_48), (.long r_56), (.long r_64), (.long r_72), (.long r_16), (.long r_24)]) (rest := []) (W := 0) pd2 rfl rfl rfl rfl (hb hby at_152) (by decide) (by decide) (by decide) (by decide) (cells' := 0) (slots' := 0) rfl rfl rfl fun v152 T152 h152 Lc152 X152 e152 hq152 => ?_
  obtain ⟨z_152, rfl, N152q, K152, hz_152⟩ := hq152
  have N152 := Fr.app N135 N152q
  have e152_2 : T152.heap = h0 := e152.trans K152
  show Goes p.tables e below (Ends s (Q0 Z p0 p1 p2 p3 p4 h0 n0) room_1.cells room_1.slots) (T152.setTop (mkF m 155 #[.val (.int p0), .val (.int p1), .val (.int p2), .val (.int p3), .val (.int p4), .val (.int ((16 : Int32) + ((p4 &&& (2147483647 : Int32)) % (14 : Int32)))), .val (.long r_16), .second, .val (.long r_24), .second, .val (.long r_32), .second, .val (.long r_40), .second, .val (.long r_48), .second, .val (.long r_56), .second, .val (.long r_64), .second, .val (.long r_72), .second, .val (.int z_101), .val (.int z_118), .val (.int z_135), .unset, .unset, .unset] [(.int z_152)]))
  refine o_istore X152 hx (hb hby at_155) (L' := #[.val (.int p0), .val (.int p1), .val (.int p2), .val (.int p3), .val (.int p4), .val (.int ((16 : Int32) + ((p4 &&& (2147483647 : Int32)) % (14 : Int32)))), .val (.long r_16), .second, .val (.long r_24), .second, .val (.long r_32), .second, .val (.long r_40), .second, .val (.long r_48), .second, .val (.long r_56), .second, .val (.long r_64), .second, .val (.long r_72), .second, .val (.int z_101), .val (.int z_118), .val (.int z_135), .val (.int z_152), .unset, .unset]) rfl rfl ?_
  refine o_lload X152 hx (hb hby at_157) rfl rfl ?_
  refine o_lload X152 hx (hb hby at_159) rfl rfl ?_
  refine o_lload X152 hx (hb hby at_161) rfl rfl ?_
  refine o_lload X152 hx (hb hby at_163) rfl rfl ?_
  refine o_lload X152 hx (hb hby at_165) rfl rfl ?_
  refine o_lload X152 hx (hb hby at_167) rfl rfl ?_
  refine o_static X152 hx hZ hown (wd12 hw) (wd13 hw) (by decide) (rm4 l Z a0 hw r_48 r_56 r_64 r_72 r_32 r_40 h0 n0 O0 hr_48 hr_56 hr_64 hr_72 hr_32 hr_40) (wd14 hw) (wd3 hw) e152_2 (by rw [hml]; rfl) (argsL := [(.long r_48), (.long r_56), (.long r_64), (.long r_72), (.long r_32), (.long r_40)]) (rest := []) (W := 0) pd2 rfl rfl rfl rfl (hb hby at_169) (by decide) (by decide) (by decide) (by decide) (cells' := 0) (slots' := 0) rfl rfl rfl fun v169 T169 h169 Lc169 X169 e169 hq169 => ?_
  obtain ⟨z_169, rfl, N169q, K169, hz_169⟩ := hq169
  have N169 := Fr.app N152 N169q
  have e169_2 : T169.heap = h0 := e169.trans K169
  show Goes p.tables e below (Ends s (Q0 Z p0 p1 p2 p3 p4 h0 n0) room_1.cells room_1.slots) (T169.setTop (mkF m 172 #[.val (.int p0), .val (.int p1), .val (.int p2), .val (.int p3), .val (.int p4), .val (.int ((16 : Int32) + ((p4 &&& (2147483647 : Int32)) % (14 : Int32)))), .val (.long r_16), .second, .val (.long r_24), .second, .val (.long r_32), .second, .val (.long r_40), .second, .val (.long r_48), .second, .val (.long r_56), .second, .val (.long r_64), .second, .val (.long r_72), .second, .val (.int z_101), .val (.int z_118), .val (.int z_135), .val (.int z_152), .unset, .unset] [(.int z_169)]))
  refine o_istore X169 hx (hb hby at_172) (L' := #[.val (.int p0), .val (.int p1), .val (.int p2), .val (.int p3), .val (.int p4), .val (.int ((16 : Int32) + ((p4 &&& (2147483647 : Int32)) % (14 : Int32)))), .val (.long r_16), .second, .val (.long r_24), .second, .val (.long r_32), .second, .val (.long r_40), .second, .val (.long r_48), .second, .val (.long r_56), .second, .val (.long r_64), .second, .val (.long r_72), .second, .val (.int z_101), .val (.int z_118), .val (.int z_135), .val (.int z_152), .val (.int z_169), .unset]) rfl rfl ?_
  refine o_iload X169 hx (hb hby at_174) rfl rfl ?_
  refine o_iload X169 hx (hb hby at_176) rfl rfl ?_
  refine o_imul X169 hx (hb hby at_178) rfl ?_
  suffices J205 : ∀ (z205 : Int32) (hz205 : z205 = 1 ∧ (¬ ((0 : Int32) < (z_118 * z_135)) ∧ ¬ ((0 : Int32) < (z_152 * z_169)) ∧ (¬ (z_118 = 0) ∨ ¬ (z_135 = 0))) ∨ z205 = 0 ∧ ¬ (¬ ((0 : Int32) < (z_118 * z_135)) ∧ ¬ ((0 : Int32) < (z_152 * z_169)) ∧ (¬ (z_118 = 0) ∨ ¬ (z_135 = 0)))), Goes p.tables e below (Ends s (Q0 Z p0 p1 p2 p3 p4 h0 n0) room_1.cells room_1.slots) (T169.setTop (mkF m 205 #[.val (.int p0), .val (.int p1), .val (.int p2), .val (.int p3), .val (.int p4), .val (.int ((16 : Int32) + ((p4 &&& (2147483647 : Int32)) % (14 : Int32)))), .val (.long r_16), .second, .val (.long r_24), .second, .val (.long r_32), .second, .val (.long r_40), .second, .val (.long r_48), .second, .val (.long r_56), .second, .val (.long r_64), .second, .val (.long r_72), .second, .val (.int z_101), .val (.int z_118), .val (.int z_135), .val (.int z_152), .val (.int z_169), .unset] [(.int z205)])) by
    by_cases hc179 : (0 : Int32) < (z_118 * z_135)
    ·
      refine o_ifYes X169 hx (hb hby at_179) ((if0 _ _).trans (tlt hc179).2.2.1) (by decide) (pc' := 204) (by decide) ?_
      refine o_iconst X169 hx (hb hby at_204) (v := (0 : Int32)) rfl rfl ?_
      exact J205 (0 : Int32) (Or.inr ⟨rfl, fun q => q.1 hc179⟩)
    ·
      refine o_ifNo X169 hx (hb hby at_179) ((if0 _ _).trans (flt hc179).2.2.1) rfl ?_
      refine o_iload X169 hx (hb hby at_182) rfl rfl ?_
      refine o_iload X169 hx (hb hby at_184) rfl rfl ?_
      refine o_imul X169 hx (hb hby at_186) rfl ?_
      by_cases hc187 : (0 : Int32) < (z_152 * z_169)
      ·
        refine o_ifYes X169 hx (hb hby at_187) ((if0 _ _).trans (tlt hc187).2.2.1) (by decide) (pc' := 204) (by decide) ?_
        refine o_iconst X169 hx (hb hby at_204) (v := (0 : Int32)) rfl rfl ?_
        exact J205 (0 : Int32) (Or.inr ⟨rfl, fun q => q.2.1 hc187⟩)
      ·
        refine o_ifNo X169 hx (hb hby at_187) ((if0 _ _).trans (flt hc187).2.2.1) rfl ?_
        refine o_iload X169 hx (hb hby at_190) rfl rfl ?_
        by_cases hc192 : z_118 = (0 : Int32)
        ·
          refine o_ifNo X169 hx (hb hby at_192) ((if0 _ _).trans (teq hc192).2) rfl ?_
          refine o_iload X169 hx (hb hby at_195) rfl rfl ?_
          by_cases hc197 : z_135 = (0 : Int32)
          ·
            refine o_ifYes X169 hx (hb hby at_197) ((if0 _ _).trans (teq hc197).1) (by decide) (pc' := 204) (by decide) ?_
            refine o_iconst X169 hx (hb hby at_204) (v := (0 : Int32)) rfl rfl ?_
            exact J205 (0 : Int32) (Or.inr ⟨rfl, fun q => q.2.2.elim (fun h => h hc192) (fun h => h hc197)⟩)
          ·
            refine o_ifNo X169 hx (hb hby at_197) ((if0 _ _).trans (feq hc197).1) rfl ?_
            refine o_iconst X169 hx (hb hby at_200) (v := (1 : Int32)) rfl rfl ?_
            refine o_goto X169 hx (hb hby at_201) (by decide) (pc' := 205) (by decide) ?_
            exact J205 (1 : Int32) (Or.inl ⟨rfl, hc179, hc187, Or.inr hc197⟩)
        ·
          refine o_ifYes X169 hx (hb hby at_192) ((if0 _ _).trans (feq hc192).2) (by decide) (pc' := 200) (by decide) ?_
          refine o_iconst X169 hx (hb hby at_200) (v := (1 : Int32)) rfl rfl ?_
          refine o_goto X169 hx (hb hby at_201) (by decide) (pc' := 205) (by decide) ?_
          exact J205 (1 : Int32) (Or.inl ⟨rfl, hc179, hc187, Or.inl hc192⟩)
  intro z205 hz205
  refine o_istore X169 hx (hb hby at_205) (L' := #[.val (.int p0), .val (.int p1), .val (.int p2), .val (.int p3), .val (.int p4), .val (.int ((16 : Int32) + ((p4 &&& (2147483647 : Int32)) % (14 : Int32)))), .val (.long r_16), .second, .val (.long r_24), .second, .val (.long r_32), .second, .val (.long r_40), .second, .val (.long r_48), .second, .val (.long r_56), .second, .val (.long r_64), .second, .val (.long r_72), .second, .val (.int z_101), .val (.int z_118), .val (.int z_135), .val (.int z_152), .val (.int z_169), .val (.int z205)]) rfl rfl ?_
  refine o_iload X169 hx (hb hby at_207) rfl rfl ?_
  refine o_iload X169 hx (hb hby at_209) rfl rfl ?_
  have hc211 : z_101 = z205 := own_cross hz_118 hz_135 hz_152 hz_169 hz_101 hz205
  refine o_icmpNo X169 hx (hb hby at_211) (teq hc211).2 rfl ?_
  refine o_iconst X169 hx (hb hby at_214) (v := (1 : Int32)) rfl rfl ?_
  refine o_goto X169 hx (hb hby at_215) (by decide) (pc' := 219) (by decide) ?_
  exact o_ret X169 hx hlk (t := .boolean) hret rfl (Or.inl ⟨rfl, by decide, _, rfl⟩) (hb hby at_219) (by decide) (by decide) e169_2 ⟨rfl, N169, KK0⟩
set_option maxRecDepth 65536 in
set_option maxHeartbeats 40000000 in
theorem comes_1 {Post : Tables → Env → Array Value → State → Outcome → State → Prop} (hpost : ∀ tb e args s v u, (limb_1_1.after args s (.returned v) u = true ∧ limb_1_2.after args s (.returned v) u = true ∧ True) → FrameEnd s (.returned v) u (Jvm.fieldLocs frame_1_writes args s ++ Jvm.arrayLocs frame_1_arrays args s ++ Jvm.staticLocs frame_1_statics s) 0 0 → Post tb e args s (.returned v) u) :
    ArmFor flags0 classFile x code maxLocals ret World_1 tables_1 room_1 Calls_1 rest_1 Pre_1 Post := by
  intro l hfl _ _ p e ha hc hk s m args below hf hA hF happ hP
  obtain ⟨hcalls, hrest, hpre⟩ := hP
  obtain ⟨-, -, -, hnamed, -, -, -, hat⟩ := (Spec.applies_iff hf).mp happ
  obtain ⟨hg, hn⟩ := and_e (Cond.before_iff.mp (show (Jvm.Cond.and given_1 narrow_1).before args s = true from hpre))
  obtain ⟨u1a, u1b⟩ := and_e hg
  obtain ⟨u2a, u2b⟩ := and_e u1b
  obtain ⟨u3a, u3b⟩ := and_e u2b
  obtain ⟨u4a, u4b⟩ := and_e u3b
  obtain ⟨u5a, u5b⟩ := and_e u4b
  obtain ⟨w0, w1, w2, w3, w4, rfl⟩ : ∃ w0 w1 w2 w3 w4 : Value, args = #[w0, w1, w2, w3, w4] := by
    have hs : args.size = 5 := by simpa [Cond.value, given_1] using u1a
    obtain ⟨L⟩ := args
    match L, hs with
    | [w0, w1, w2, w3, w4], _ => exact ⟨w0, w1, w2, w3, w4, rfl⟩
  have hw := fun d (hd : d ∈ tables_1) => atoms_spec (ws := Jvm.Cond.code x code maxLocals ret :: tables_1) hat d (List.mem_cons_of_mem _ hd)
  have hfit : Fit s := fun {y c} hc i hi => by
    obtain ⟨ha, rfl⟩ := Array.getElem?_eq_some_iff.mp hc
    have q := List.all_eq_true.mp ((Array.all_eq_true_iff_forall_mem.mp hF) _ (Array.getElem_mem ha)) i (List.mem_range.mpr hi)
    simpa [Array.getElem?_eq_getElem hi] using q
  obtain ⟨i0, ei0⟩ := is_v u2a
  obtain rfl : w0 = (.int i0) := Option.some.inj ei0
  obtain ⟨i1, ei1⟩ := is_v u3a
  obtain rfl : w1 = (.int i1) := Option.some.inj ei1
  obtain ⟨i2, ei2⟩ := is_v u4a
  obtain rfl : w2 = (.int i2) := Option.some.inj ei2
  obtain ⟨i3, ei3⟩ := is_v u5a
  obtain rfl : w3 = (.int i3) := Option.some.inj ei3
  obtain ⟨i4, ei4⟩ := is_v u5b
  obtain rfl : w4 = (.int i4) := Option.some.inj ei4
  obtain ⟨n, o, h1, h2, h3, _, L, rfl, ⟨rfl, N, -⟩, hq⟩ := rm0 l s _ hw tables_1 i0 i1 i2 i3 i4 s.heap s.heap.size (Old.start s)  p e ha hc hk s m _ below hf ((Spec.applies_iff_loose hf).mp happ).1 ⟨rfl, State.Warmed39.refl s, rfl⟩ trivial
  refine ⟨n, _, h1, h2, h3, hpost _ _ _ _ _ _ ⟨Cond.after_iff.mpr rfl, Cond.after_iff.mpr (eq_i res_at (Term.int_eval (1)) rfl), trivial⟩ ⟨hq.1, hq.2.1, (hq.2.2.sift fun y hy => Or.inr (N y hy)).mono (by decide) (by decide)⟩⟩
theorem main_1_1 : Claimed_1_1 := comes_1 fun _ _ _ _ _ _ h hF => ⟨h.1, hF⟩
theorem main_1_2 : Claimed_1_2 := comes_1 fun _ _ _ _ _ _ h hF => ⟨h.2.1, hF⟩
end Jvm.Pilot.@@N@@
namespace Jvm.Pilot.@@N@@
open Jvm Jvm.ClassFile Sem Op Lib Jvm.Free Jvm.Stand Jvm.Pilot.@@N@@.Jvm.D
/-! MADE BY PROGRAM (witnessworld.py) out of the Statement's table words and the real class files: 9 classes; the members and pool entries that the words name. The judged class is class 1, her method 1. -/
namespace start1
open Jvm.ClassFile
def u (s : String) : CpInfo := .utf8 (stringToUtf16 s)
/-- a pool by its gaps: so many unusable entries, then the entry; so many at the end -/
def gap : Nat → List CpInfo → List CpInfo
  | 0, r => r
  | n + 1, r => .unusable :: gap n r
def poolList (es : List (Nat × CpInfo)) (last : Nat) : List CpInfo := es.foldr (fun e r => gap e.1 (e.2 :: r)) (gap last [])
def pool (es : List (Nat × CpInfo)) (last : Nat) : Array CpInfo := ⟨poolList es last⟩
def fileOf (pool : Array CpInfo) (this : Nat) (attrs : Array Attribute := #[]) (ms : Array MethodInfo := #[]) (fl : Nat := 33) (sup : Nat := 0) (ifs : Array Nat := #[]) (fds : Array FieldInfo := #[]) : ClassFile where
  minorVersion := 0
  majorVersion := 65
  constantPool := pool
  accessFlags := fl
  thisClass := this
  superClass := sup
  interfaces := ifs
  fields := fds
  methods := ms
  attributes := attrs
def plain (name : String) (sup : Option ClassId) : Class where
  name := name
  kind := .ordinary
  loader := none
  accessFlags := 33
  super := sup
  interfaces := #[]
  cf := none
  fields := #[]
  methods := #[]
  instanceTypes := #[]
  staticTypes := #[]
  resolved := #[]
  callSites := []
  init := .initialized
  statics := none
  mirror := none

def pool0 : Array CpInfo := pool [(5, u "<init>"), (0, u "()V"), (1, .class_ 10), (1, u "java/lang/Object")] 113

def k0m0 : Method := { name := "<init>", desc := "()V", sig := { parameters := [], returnType := none }, accessFlags := 1, code := none }
/-- java/lang/Object -/
def k0 : Class := { plain "java/lang/Object" none with
  accessFlags := 33
  interfaces := #[]
  cf := some (fileOf pool0 8 #[] #[{ accessFlags := 1, nameIndex := 5, descriptorIndex := 6, attributes := #[] }] 33 0 #[] #[])
  fields := #[]
  methods := #[k0m0]
  instanceTypes := #[]
  staticTypes := #[]
  resolved := Array.replicate 124 none
  statics := none }

def pool1 : Array CpInfo := pool [(2, .class_ 4), (1, u "java/lang/Object"), (0, u "<init>"), (0, u "()V"), (0, .integer 2147483647), (0, .methodref 9 10), (0, .class_ 11), (0, .nameAndType 12 13), (0, u "com/example/timeshed/timeshed/engine/PlaneCrossingPinLaw"), (0, u "lo"), (0, u "(II)J"), (0, .methodref 9 15), (0, .nameAndType 16 13), (0, u "hi"), (0, .methodref 18 19), (0, .class_ 20), (0, .nameAndType 21 22), (0, u "com/example/timeshed/timeshed/engine/Plane"), (0, u "crossing"), (0, u "(DDDDDDDD)Z"), (0, .methodref 9 24), (0, .nameAndType 25 26), (0, u "orient"), (0, u "(JJJJJJ)I"), (2, u "law"), (0, u "(IIIII)Z")] 3

def k1m0 : Method := { name := "<init>", desc := "()V", sig := { parameters := [], returnType := none }, accessFlags := 1, code := none }
def k1c1 : Code := { maxStack := 16, maxLocals := 28, code := code, exceptionTable := #[], attributes := #[] }
def k1m1 : Method := { name := "law", desc := "(IIIII)Z", sig := { parameters := [.int, .int, .int, .int, .int], returnType := some .boolean }, accessFlags := 9, code := some k1c1 }
def k1c2 : Code := { maxStack := 2, maxLocals := 2, code := method_3_code, exceptionTable := #[], attributes := #[] }
def k1m2 : Method := { name := "lo", desc := "(II)J", sig := { parameters := [.int, .int], returnType := some .long }, accessFlags := 10, code := some k1c2 }
def k1c3 : Code := { maxStack := 2, maxLocals := 2, code := method_4_code, exceptionTable := #[], attributes := #[] }
def k1m3 : Method := { name := "hi", desc := "(II)J", sig := { parameters := [.int, .int], returnType := some .long }, accessFlags := 10, code := some k1c3 }
def k1c4 : Code := { maxStack := 8, maxLocals := 14, code := method_5_code, exceptionTable := #[], attributes := #[] }
def k1m4 : Method := { name := "orient", desc := "(JJJJJJ)I", sig := { parameters := [.long, .long, .long, .long, .long, .long], returnType := some .int }, accessFlags := 10, code := some k1c4 }
/-- com/example/timeshed/timeshed/engine/PlaneCrossingPinLaw -/
def k1 : Class := { plain "com/example/timeshed/timeshed/engine/PlaneCrossingPinLaw" (some 0) with
  accessFlags := 49
  interfaces := #[]
  cf := some (fileOf pool1 9 #[] #[{ accessFlags := 1, nameIndex := 5, descriptorIndex := 6, attributes := #[] }, { accessFlags := 9, nameIndex := 29, descriptorIndex := 30, attributes := #[] }, { accessFlags := 10, nameIndex := 12, descriptorIndex := 13, attributes := #[] }, { accessFlags := 10, nameIndex := 16, descriptorIndex := 13, attributes := #[] }, { accessFlags := 10, nameIndex := 25, descriptorIndex := 26, attributes := #[] }] 49 2 #[] #[])
  fields := #[]
  methods := #[k1m0, k1m1, k1m2, k1m3, k1m4]
  instanceTypes := #[]
  staticTypes := #[]
  resolved := Array.replicate 34 none
  statics := none }

def pool2 : Array CpInfo := pool [(2, .class_ 4), (1, u "java/lang/Object"), (0, u "<init>"), (0, u "()V"), (1, .class_ 10), (1, u "com/example/timeshed/timeshed/engine/Plane"), (19, u "crossing"), (0, u "(DDDDDDDD)Z")] 2

def k2m0 : Method := { name := "<init>", desc := "()V", sig := { parameters := [], returnType := none }, accessFlags := 2, code := none }
def k2c1 : Code := { maxStack := 8, maxLocals := 24, code := prog_53_method_4_code, exceptionTable := #[], attributes := #[] }
def k2m1 : Method := { name := "crossing", desc := "(DDDDDDDD)Z", sig := { parameters := [.double, .double, .double, .double, .double, .double, .double, .double], returnType := some .boolean }, accessFlags := 8, code := some k2c1 }
/-- com/example/timeshed/timeshed/engine/Plane -/
def k2 : Class := { plain "com/example/timeshed/timeshed/engine/Plane" (some 0) with
  accessFlags := 48
  interfaces := #[]
  cf := some (fileOf pool2 8 #[] #[{ accessFlags := 2, nameIndex := 5, descriptorIndex := 6, attributes := #[] }, { accessFlags := 8, nameIndex := 30, descriptorIndex := 31, attributes := #[] }] 48 2 #[] #[])
  fields := #[]
  methods := #[k2m0, k2m1]
  instanceTypes := #[]
  staticTypes := #[]
  resolved := Array.replicate 34 none
  statics := none }

def pool3 : Array CpInfo := pool [(1, u "java/lang/Cloneable"), (0, .class_ 1), (0, u "java/lang/Object"), (0, .class_ 3)] 3

/-- java/lang/Cloneable -/
def k3 : Class := { plain "java/lang/Cloneable" (some 0) with
  accessFlags := 1537
  interfaces := #[]
  cf := some (fileOf pool3 2 #[] #[] 1537 4 #[] #[])
  fields := #[]
  methods := #[]
  instanceTypes := #[]
  staticTypes := #[]
  resolved := Array.replicate 8 none
  statics := none }

def pool4 : Array CpInfo := pool [(1, u "java/io/Serializable"), (0, .class_ 1), (0, u "java/lang/Object"), (0, .class_ 3)] 3

/-- java/io/Serializable -/
def k4 : Class := { plain "java/io/Serializable" (some 0) with
  accessFlags := 1537
  interfaces := #[]
  cf := some (fileOf pool4 2 #[] #[] 1537 4 #[] #[])
  fields := #[]
  methods := #[]
  instanceTypes := #[]
  staticTypes := #[]
  resolved := Array.replicate 8 none
  statics := none }

/-- the primitive byte -/
def k5 : Class := { plain "byte" none with kind := .primitive 'B', accessFlags := 0x411 }
/-- [B -/
def k6 : Class := { plain "[B" (some 0) with kind := .array 5 .byte, interfaces := #[3, 4], accessFlags := 1041 }

/-- the primitive int -/
def k7 : Class := { plain "int" none with kind := .primitive 'I', accessFlags := 0x411 }
/-- [I -/
def k8 : Class := { plain "[I" (some 0) with kind := .array 7 .int, interfaces := #[3, 4], accessFlags := 1041 }

def heap : Heap := #[]
def classes : Array Class := #[k0, k1, k2, k3, k4, k5, k6, k7, k8]
def interned : List (Array UInt16 × Addr) := []
def slotsUsed : Nat := 0
def theMethod : MethodId := ⟨1, 1⟩
def args0 : Array Value := #[.int 5, .int 6, .int 7, .int 8, .int 3]
def aboutOver (below : List Frame) : State where
  vm := { classes := classes, interned := interned.toArray }
  heap := heap
  slotsUsed := slotsUsed
  threads := #[{ frames := .invoking theMethod args0 :: below }]
def below0 : List Frame := [.native { method := ⟨0, 0⟩, args := #[] }]
def about1 : State := aboutOver below0
def p0 : Program := .bare "" "" ""
def e0 : Env := launch0.env 0 0 0
theorem w_frames : about1.frames = Frame.invoking theMethod args0 :: below0 := rfl
set_option maxRecDepth 65536 in
theorem w_args : argsFit about1.vm theMethod args0 = true := by decide +kernel
set_option maxRecDepth 65536 in
theorem w_heap : heapFits about1 = true := by decide +kernel
set_option maxRecDepth 65536 in
theorem w_runnable : about1.curStatus? = some .runnable := by decide +kernel
set_option maxRecDepth 65536 in
theorem w_alone : about1.alone = true := by decide +kernel
set_option maxRecDepth 65536 in
theorem w_named : about1.methodNamed? x = some theMethod := by decide +kernel
set_option maxRecDepth 65536 in
theorem w_hears : about1.hears theMethod below0 = true := by decide +kernel
set_option maxRecDepth 65536 in
theorem w_ripe : about1.ripe theMethod args0 below0 = true := by decide +kernel
theorem w_running : about1.status = .running := rfl
set_option maxRecDepth 65536 in
theorem w_room : about1.hasRoom e0.platform room_1 = true :=
  launch0.hasRoom_least _ room_1 (by decide +kernel) (by decide +kernel) (by decide +kernel) (by decide +kernel) (by decide +kernel) (by decide +kernel)
theorem allAtoms_all (ts : List Jvm.Cond) (a : Array Jvm.Value) (st : Jvm.State) : (allAtoms ts).before a st = ts.all (fun c => c.before a st) := by
  induction ts with
  | nil => rfl
  | cons c t ih =>
    show (Jvm.Cond.and c (allAtoms t)).before a st = _
    rw [Jvm.Cond.before_and, ih, List.all_cons]
def words1 : List Jvm.Cond := Jvm.Cond.code x code maxLocals ret :: tables_1
/-- a 'code' word, met by the world's own term for the bytes: nothing is compared byte by byte -/
theorem code_word {y : MethodName} {bytes : ByteArray} {mx : Nat} {rt : Option FieldType} {a : Array Value} {s : State} {m : MethodId} {meth : Method} {c : Code} (h1 : s.methodNamed? y = some m) (h2 : s.vm.method? m = some meth) (h3 : meth.code = some c) (h4 : c.code = bytes)
    (h5 : (c.maxLocals == mx && c.exceptionTable.isEmpty && decide (c.maxStack ≤ mostOperands) && decide (meth.sig.returnType = rt) && !meth.locks && decide (parseMethodDescriptor y.desc = some meth.sig)) = true) : (Jvm.Cond.code y bytes mx rt).before a s = true := by
  simp only [Bool.and_eq_true, beq_iff_eq, Bool.not_eq_true', decide_eq_true_eq] at h5
  obtain ⟨⟨⟨⟨⟨g1, g2⟩, g3⟩, g4⟩, g5⟩, g6⟩ := h5
  simp [Cond.before, Cond.holds, Cond.value, h1, h2, h3, h4, g1, g2, g3, g4, g5, g6]
def isCode : Jvm.Cond → Bool
  | .code _ _ _ _ => true
  | _ => false
theorem all_split {L : List Jvm.Cond} {P : Jvm.Cond → Bool} (h1 : L.all (fun c => isCode c || P c) = true) (h2 : ∀ c ∈ L.filter isCode, P c = true) : L.all P = true := by
  refine List.all_eq_true.mpr fun c hc => ?_
  have h := List.all_eq_true.mp h1 c hc
  rcases Bool.eq_false_or_eq_true (isCode c) with hi | hi
  · exact h2 c (List.mem_filter.mpr ⟨hc, hi⟩)
  · simpa [hi] using h
set_option maxRecDepth 65536 in
theorem w_c0 : (Jvm.Cond.code x code maxLocals ret).before args0 about1 = true := code_word (m := ⟨1, 1⟩) (meth := k1m1) (c := k1c1) (by decide +kernel) rfl rfl rfl (by decide +kernel)
set_option maxRecDepth 65536 in
theorem w_c1 : (Jvm.Cond.code ({ cls := "com/example/timeshed/timeshed/engine/PlaneCrossingPinLaw", name := "lo", desc := "(II)J" } : Jvm.MethodName) method_3_code (2 : Nat) (Option.some Jvm.ClassFile.FieldType.long)).before args0 about1 = true := code_word (m := ⟨1, 2⟩) (meth := k1m2) (c := k1c2) (by decide +kernel) rfl rfl rfl (by decide +kernel)
set_option maxRecDepth 65536 in
theorem w_c2 : (Jvm.Cond.code ({ cls := "com/example/timeshed/timeshed/engine/PlaneCrossingPinLaw", name := "hi", desc := "(II)J" } : Jvm.MethodName) method_4_code (2 : Nat) (Option.some Jvm.ClassFile.FieldType.long)).before args0 about1 = true := code_word (m := ⟨1, 3⟩) (meth := k1m3) (c := k1c3) (by decide +kernel) rfl rfl rfl (by decide +kernel)
set_option maxRecDepth 65536 in
theorem w_c3 : (Jvm.Cond.code ({ cls := "com/example/timeshed/timeshed/engine/Plane", name := "crossing", desc := "(DDDDDDDD)Z" } : Jvm.MethodName) prog_53_method_4_code (24 : Nat) (Option.some Jvm.ClassFile.FieldType.boolean)).before args0 about1 = true := code_word (m := ⟨2, 1⟩) (meth := k2m1) (c := k2c1) (by decide +kernel) rfl rfl rfl (by decide +kernel)
set_option maxRecDepth 65536 in
theorem w_c4 : (Jvm.Cond.code ({ cls := "com/example/timeshed/timeshed/engine/PlaneCrossingPinLaw", name := "orient", desc := "(JJJJJJ)I" } : Jvm.MethodName) method_5_code (14 : Nat) (Option.some Jvm.ClassFile.FieldType.int)).before args0 about1 = true := code_word (m := ⟨1, 4⟩) (meth := k1m4) (c := k1c4) (by decide +kernel) rfl rfl rfl (by decide +kernel)
def codes1 : List Jvm.Cond := [Jvm.Cond.code x code maxLocals ret, Jvm.Cond.code ({ cls := "com/example/timeshed/timeshed/engine/PlaneCrossingPinLaw", name := "lo", desc := "(II)J" } : Jvm.MethodName) method_3_code (2 : Nat) (Option.some Jvm.ClassFile.FieldType.long), Jvm.Cond.code ({ cls := "com/example/timeshed/timeshed/engine/PlaneCrossingPinLaw", name := "hi", desc := "(II)J" } : Jvm.MethodName) method_4_code (2 : Nat) (Option.some Jvm.ClassFile.FieldType.long), Jvm.Cond.code ({ cls := "com/example/timeshed/timeshed/engine/Plane", name := "crossing", desc := "(DDDDDDDD)Z" } : Jvm.MethodName) prog_53_method_4_code (24 : Nat) (Option.some Jvm.ClassFile.FieldType.boolean), Jvm.Cond.code ({ cls := "com/example/timeshed/timeshed/engine/PlaneCrossingPinLaw", name := "orient", desc := "(JJJJJJ)I" } : Jvm.MethodName) method_5_code (14 : Nat) (Option.some Jvm.ClassFile.FieldType.int)]
set_option maxRecDepth 65536 in
theorem codes_eq : words1.filter isCode = codes1 := rfl
theorem w_codes : ∀ c ∈ words1.filter isCode, c.before args0 about1 = true := by
  rw [codes_eq]
  intro c hc
  simp only [codes1, List.mem_cons, List.not_mem_nil, or_false] at hc
  rcases hc with rfl | rfl | rfl | rfl | rfl
  · exact w_c0
  · exact w_c1
  · exact w_c2
  · exact w_c3
  · exact w_c4
set_option maxRecDepth 65536 in
theorem w_t1 : words1.all (fun c => isCode c || c.before args0 about1) = true := by decide +kernel
theorem w_tables : (allAtoms (Jvm.Cond.code x code maxLocals ret :: tables_1)).before args0 about1 = true := by
  rw [allAtoms_all]
  show words1.all (fun c => c.before args0 about1) = true
  refine all_split ?_ w_codes
  rw [w_t1]
set_option maxRecDepth 65536 in
theorem w_case : (Jvm.Cond.and given_1 narrow_1).before args0 about1 = true := by decide +kernel
theorem w_applies : (headSpec (Jvm.Cond.code x code maxLocals ret :: tables_1) room_1).applies x e0.platform about1 = true :=
  (Spec.applies_iff w_frames).mpr ⟨w_running, w_runnable, w_alone, w_named, w_hears, w_ripe, w_room, w_tables⟩
theorem atStart : AtStart classFile x code maxLocals ret World_1 tables_1 room_1 Calls_1 rest_1 Pre_1 launch0 p0 e0 about1 theMethod args0 below0 :=
  ⟨lists_1, trivial, launch0.admits_env _ _ _, launch0.least_env, fairChoices_fair.cas, fairChoices_fair.clock, w_frames, w_args, w_heap, w_applies, trivial, trivial, w_case⟩
end start1
theorem witness_1 : WitnessClaimed_1 := ⟨start1.p0, start1.e0, start1.about1, start1.theMethod, start1.args0, start1.below0, start1.atStart⟩
end Jvm.Pilot.@@N@@
