import JvmDerived
import JvmDerived.Pilot.@@N@@Statement
import JvmDerived.Pilot.@@N@@Code
set_option linter.unusedVariables false
set_option linter.unusedSimpArgs false
namespace Jvm.Pilot.@@N@@
open Jvm Jvm.ClassFile Sem Op Lib Jvm.Free Jvm.Stand Jvm.LawKit Jvm.RoadKit Bundle Jvm.Pilot.@@N@@.Jvm.D
/-- from t the run comes to an end of which P holds -/
def Goes (tb : Tables) (e : Env) (below : List Frame) (P : Outcome → State → Prop) (t : State) : Prop := ∃ s₂ o, Steps tb e below t s₂ ∧ s₂.status = .running ∧ Ended s₂ below o ∧ P o s₂
theorem Goes.on {tb : Tables} {e : Env} {below : List Frame} {P : Outcome → State → Prop} {t t' : State} (h : ∀ target, Steps tb e below t' target → Steps tb e below t target) (k : Goes tb e below P t') : Goes tb e below P t := by
  obtain ⟨s₂, o, h1, h2⟩ := k
  exact ⟨s₂, o, h _ h1, h2⟩
theorem Goes.to {tb : Tables} {e : Env} {below : List Frame} {P : Outcome → State → Prop} {t t' : State} (h : Steps tb e below t t') (k : Goes tb e below P t') : Goes tb e below P t := k.on fun _ q => h.trans q
/-- what a body's end says -/
def Ends (s : State) (Q : Option Value → Heap → List Loc → Prop) (C S : Nat) (o : Outcome) (U : State) : Prop := ∃ v L, o = .returned v ∧ Q v U.heap L ∧ FrameEnd s o U L C S
/-- a body's contract -/
def Met (l : Launch) (Z : State) (y : MethodName) (bytes : ByteArray) (maxL : Nat) (ret : Option FieldType) (rm : Room) (ws : List Jvm.Cond) (as' : Array Value) (h0 : Heap) (Q : Option Value → Heap → List Loc → Prop) : Prop :=
  MetFree l y (head1 (Jvm.Cond.code y bytes maxL ret :: ws) rm) (fun a U => a = as' ∧ Z.Warmed39 U.vm ∧ U.heap = h0) (fun _ _ _ _ _ => True) (fun _ U o U' => ∃ v L, o = .returned v ∧ Q v U'.heap L ∧ FrameEnd U o U' L rm.cells rm.slots)
section Own
variable {p : Program} {l : Launch} {e : Env} {R : Room} {s : State} {m : MethodId} {args : Array Value} {below : List Frame} {meth : Method} {c : Code} {T : State} {locs : List Loc} {cells slots cells' slots' : Nat} {Z : State} {a0 : Array Value} {h : Heap} {P : Outcome → State → Prop} {pc pc' : Nat} {L L' : Array Slot} {S : List Value}
theorem met_of {y : MethodName} {bytes : ByteArray} {maxL : Nat} {ret : Option FieldType} {rm : Room} {ws : List Jvm.Cond} {as' : Array Value} {h0 : Heap} {Q : Option Value → Heap → List Loc → Prop} {L0 : Array Slot}
    (hpn : plainFor y = true) (hef : ∀ m, entryFrame m as' maxL = mkF m 0 L0 [])
    (body : ∀ (p : Program) (e : Env) (s : State) (m : MethodId) (below : List Frame) (meth : Method) (c : Code) (T : State), p.tables.exec = Jvm.exec → c.code = bytes → c.maxLocals = maxL → s.vm.findClass y.cls = some m.cls → meth.name = y.name → meth.sig.returnType = ret → meth.locks = false → Z.Warmed39 s.vm → Stand p l e rm s m as' below meth c T [] 0 0 → T.heap = h0 → Goes p.tables e below (Ends s Q rm.cells rm.slots) (T.setTop (mkF m 0 L0 []))) :
    Met l Z y bytes maxL ret rm ws as' h0 Q := by
  refine MetFree.of_bodySF hpn hisR ?_
  intro p e s m args below meth c s₁ Bd hml0 hP hK
  obtain ⟨rfl, hZ, hh⟩ := hP
  have e0 : s₁.heap = h0 := by rw [← hh, Bd.state]; rfl
  obtain ⟨s₂, o, h1, h2, h3, h4⟩ := body p e s m below meth c s₁ Bd.exec Bd.bytes hml0 (findClass_of_methodNamed Bd.named) (name_of_methodNamed Bd.named Bd.method).1 Bd.returns (BodyLoose.notSynchronized Bd) hZ (Stand.of_body Bd) e0
  exact ⟨s₂, o, castTop (hef m) h1, h2, h3, h4⟩
theorem o_cat {v : Value} (h : v.isRef = true) : v.category = 1 := by rcases ref_cases h with rfl | ⟨a, rfl⟩ <;> rfl
theorem o_nar {C : String} {v : Value} (h : v.isRef = true) : narrow (.object C) v = v := by rcases ref_cases h with rfl | ⟨a, rfl⟩ <;> rfl
theorem o_fit {C : String} {v : Value} (h : v.isRef = true) : fits (.object C) v = true := by rcases ref_cases h with rfl | ⟨a, rfl⟩ <;> rfl
theorem o_nar01 {z : Int32} (h : z = 0 ∨ z = 1) : narrow .boolean (.int z) = .int z := by rcases h with rfl | rfl <;> rfl
theorem o_fit01 {z : Int32} (h : z = 0 ∨ z = 1) : fits .boolean (.int z) = true := by rcases h with rfl | rfl <;> rfl
theorem o_ret (X : Stand p l e R s m args below meth c T locs cells slots) (hx : p.tables.exec = Jvm.exec) (hlk : meth.locks = false) {w : Value} {t : FieldType} {i : Instr} {Q : Option Value → Heap → List Loc → Prop} {C Sl : Nat} (hret : meth.sig.returnType = some t) (hn : narrow t w = w)
    (hi : (i = .ireturn ∧ (t = .int ∨ t = .boolean ∨ t = .byte ∨ t = .char ∨ t = .short) ∧ ∃ z, w = .int z) ∨ (i = .lreturn ∧ t = .long ∧ ∃ z, w = .long z) ∨ (i = .dreturn ∧ t = .double ∧ ∃ z, w = .double z) ∨ (i = .freturn ∧ t = .float ∧ ∃ z, w = .float z) ∨ (i = .areturn ∧ t.isReference = true ∧ w.isRef = true))
    (hd : decode c.code pc = .ok (i, 1)) (hC : cells ≤ C) (hS : slots ≤ Sl) (eT : T.heap = h) (hq : Q (some w) h locs) : Goes p.tables e below (Ends s Q C Sl) (T.setTop (mkF m pc L (w :: S))) := by
  subst eT
  obtain ⟨fs, hr, hrun, hended, hW, hsame⟩ := X.leave (v := some w) (fun h => by rw [hret] at h; cases h) hlk
  exact ⟨_, _, retOut X hx hret hn hi hd hr, hrun, hended, _, _, rfl, hq, ⟨_, rfl⟩, hW, hsame.mono hC hS⟩
theorem o_retV (X : Stand p l e R s m args below meth c T locs cells slots) (hx : p.tables.exec = Jvm.exec) (hlk : meth.locks = false) {Q : Option Value → Heap → List Loc → Prop} {C Sl : Nat} (hret : meth.sig.returnType = none) (hd : decode c.code pc = .ok (.return_, 1)) (hC : cells ≤ C) (hS : slots ≤ Sl) (eT : T.heap = h) (hq : Q none h locs) :
    Goes p.tables e below (Ends s Q C Sl) (T.setTop (mkF m pc L [])) := by
  subst eT
  obtain ⟨fs, hr, hrun, hended, hW, hsame⟩ := X.leave (v := none) (fun _ => rfl) hlk
  exact ⟨_, _, X.returnOut hx hret hd hr, hrun, hended, _, _, rfl, hq, ⟨_, rfl⟩, hW, hsame.mono hC hS⟩
theorem o_iloadN (X : Stand p l e R s m args below meth c T locs cells slots) (hx : p.tables.exec = Jvm.exec) {k : Fin 4} {v : Int32} (hd : decode c.code pc = .ok (.iload_n k, 1)) (hl : L[k.val]? = some (.val (.int v))) (hp : pc + 1 = pc') (kk : Goes p.tables e below P (T.setTop (mkF m pc' L (.int v :: S)))) : Goes p.tables e below P (T.setTop (mkF m pc L S)) := by
  subst hp; exact kk.on fun _ k => XS.iloadN X.here hx rfl hd hl k
theorem o_iload (X : Stand p l e R s m args below meth c T locs cells slots) (hx : p.tables.exec = Jvm.exec) {k : Nat} {v : Int32} (hd : decode c.code pc = .ok (.iload k, 2)) (hl : L[k]? = some (.val (.int v))) (hp : pc + 2 = pc') (kk : Goes p.tables e below P (T.setTop (mkF m pc' L (.int v :: S)))) : Goes p.tables e below P (T.setTop (mkF m pc L S)) := by
  subst hp; exact kk.on fun _ k => XS.iload X.here hx rfl hd hl k
theorem o_istoreN (X : Stand p l e R s m args below meth c T locs cells slots) (hx : p.tables.exec = Jvm.exec) {k : Fin 4} {x : Int32} (hd : decode c.code pc = .ok (.istore_n k, 1)) (hl : storeLocals L k.val (.int x) = some L') (hp : pc + 1 = pc') (kk : Goes p.tables e below P (T.setTop (mkF m pc' L' S))) : Goes p.tables e below P (T.setTop (mkF m pc L (.int x :: S))) := by
  subst hp; exact kk.on fun _ k => XS.istoreN X.here hx rfl hd rfl hl k
theorem o_istore (X : Stand p l e R s m args below meth c T locs cells slots) (hx : p.tables.exec = Jvm.exec) {k : Nat} {x : Int32} (hd : decode c.code pc = .ok (.istore k, 2)) (hl : storeLocals L k (.int x) = some L') (hp : pc + 2 = pc') (kk : Goes p.tables e below P (T.setTop (mkF m pc' L' S))) : Goes p.tables e below P (T.setTop (mkF m pc L (.int x :: S))) := by
  subst hp; exact kk.on fun _ k => XS.istore X.here hx rfl hd rfl hl k
theorem o_lloadN (X : Stand p l e R s m args below meth c T locs cells slots) (hx : p.tables.exec = Jvm.exec) {k : Fin 4} {v : Int64} (hd : decode c.code pc = .ok (.lload_n k, 1)) (hl : L[k.val]? = some (.val (.long v))) (hp : pc + 1 = pc') (kk : Goes p.tables e below P (T.setTop (mkF m pc' L (.long v :: S)))) : Goes p.tables e below P (T.setTop (mkF m pc L S)) := by
  subst hp; exact kk.on fun _ k => XS.lloadN X.here hx rfl hd hl k
theorem o_lload (X : Stand p l e R s m args below meth c T locs cells slots) (hx : p.tables.exec = Jvm.exec) {k : Nat} {v : Int64} (hd : decode c.code pc = .ok (.lload k, 2)) (hl : L[k]? = some (.val (.long v))) (hp : pc + 2 = pc') (kk : Goes p.tables e below P (T.setTop (mkF m pc' L (.long v :: S)))) : Goes p.tables e below P (T.setTop (mkF m pc L S)) := by
  subst hp; exact kk.on fun _ k => XS.lload X.here hx rfl hd hl k
theorem o_lstoreN (X : Stand p l e R s m args below meth c T locs cells slots) (hx : p.tables.exec = Jvm.exec) {k : Fin 4} {x : Int64} (hd : decode c.code pc = .ok (.lstore_n k, 1)) (hl : storeLocals L k.val (.long x) = some L') (hp : pc + 1 = pc') (kk : Goes p.tables e below P (T.setTop (mkF m pc' L' S))) : Goes p.tables e below P (T.setTop (mkF m pc L (.long x :: S))) := by
  subst hp; exact kk.on fun _ k => XS.lstoreN X.here hx rfl hd rfl hl k
theorem o_lstore (X : Stand p l e R s m args below meth c T locs cells slots) (hx : p.tables.exec = Jvm.exec) {k : Nat} {x : Int64} (hd : decode c.code pc = .ok (.lstore k, 2)) (hl : storeLocals L k (.long x) = some L') (hp : pc + 2 = pc') (kk : Goes p.tables e below P (T.setTop (mkF m pc' L' S))) : Goes p.tables e below P (T.setTop (mkF m pc L (.long x :: S))) := by
  subst hp; exact kk.on fun _ k => XS.lstore X.here hx rfl hd rfl hl k
theorem o_aloadN (X : Stand p l e R s m args below meth c T locs cells slots) (hx : p.tables.exec = Jvm.exec) {k : Fin 4} {v : Value} (hd : decode c.code pc = .ok (.aload_n k, 1)) (hl : L[k.val]? = some (.val v)) (hv : v.isRef = true) (hp : pc + 1 = pc') (kk : Goes p.tables e below P (T.setTop (mkF m pc' L (v :: S)))) : Goes p.tables e below P (T.setTop (mkF m pc L S)) := by
  subst hp; exact kk.on fun _ k => XS.aloadN X.here hx rfl hd hl hv k
theorem o_aload (X : Stand p l e R s m args below meth c T locs cells slots) (hx : p.tables.exec = Jvm.exec) {k : Nat} {v : Value} (hd : decode c.code pc = .ok (.aload k, 2)) (hl : L[k]? = some (.val v)) (hv : v.isRef = true) (hp : pc + 2 = pc') (kk : Goes p.tables e below P (T.setTop (mkF m pc' L (v :: S)))) : Goes p.tables e below P (T.setTop (mkF m pc L S)) := by
  subst hp; exact kk.on fun _ k => XS.aload X.here hx rfl hd hl hv k
theorem o_astoreN (X : Stand p l e R s m args below meth c T locs cells slots) (hx : p.tables.exec = Jvm.exec) {k : Fin 4} {x : Value} (hd : decode c.code pc = .ok (.astore_n k, 1)) (hv : x.isRef = true) (hl : storeLocals L k.val x = some L') (hp : pc + 1 = pc') (kk : Goes p.tables e below P (T.setTop (mkF m pc' L' S))) : Goes p.tables e below P (T.setTop (mkF m pc L (x :: S))) := by
  subst hp; exact kk.on fun _ k => XS.astoreN X.here hx rfl hd rfl hv hl k
theorem o_astore (X : Stand p l e R s m args below meth c T locs cells slots) (hx : p.tables.exec = Jvm.exec) {k : Nat} {x : Value} (hd : decode c.code pc = .ok (.astore k, 2)) (hv : x.isRef = true) (hl : storeLocals L k x = some L') (hp : pc + 2 = pc') (kk : Goes p.tables e below P (T.setTop (mkF m pc' L' S))) : Goes p.tables e below P (T.setTop (mkF m pc L (x :: S))) := by
  subst hp; exact kk.on fun _ k => XS.astore X.here hx rfl hd rfl hv hl k
theorem o_iconst (X : Stand p l e R s m args below meth c T locs cells slots) (hx : p.tables.exec = Jvm.exec) {i : Int} {v : Int32} (hd : decode c.code pc = .ok (.iconst i, 1)) (hv : Int32.ofInt i = v) (hp : pc + 1 = pc') (kk : Goes p.tables e below P (T.setTop (mkF m pc' L (.int v :: S)))) : Goes p.tables e below P (T.setTop (mkF m pc L S)) := by
  subst hp; subst hv; exact kk.on fun _ k => XS.iconst X.here hx rfl hd  k
theorem o_bipush (X : Stand p l e R s m args below meth c T locs cells slots) (hx : p.tables.exec = Jvm.exec) {i : Int} {v : Int32} (hd : decode c.code pc = .ok (.bipush i, 2)) (hv : (Int8.ofInt i).toInt32 = v) (hp : pc + 2 = pc') (kk : Goes p.tables e below P (T.setTop (mkF m pc' L (.int v :: S)))) : Goes p.tables e below P (T.setTop (mkF m pc L S)) := by
  subst hp; subst hv; exact kk.on fun _ k => XS.bipush X.here hx rfl hd  k
theorem o_sipush (X : Stand p l e R s m args below meth c T locs cells slots) (hx : p.tables.exec = Jvm.exec) {i : Int} {v : Int32} (hd : decode c.code pc = .ok (.sipush i, 3)) (hv : (Int16.ofInt i).toInt32 = v) (hp : pc + 3 = pc') (kk : Goes p.tables e below P (T.setTop (mkF m pc' L (.int v :: S)))) : Goes p.tables e below P (T.setTop (mkF m pc L S)) := by
  subst hp; subst hv; exact kk.on fun _ k => XS.sipush X.here hx rfl hd  k
theorem o_lconst (X : Stand p l e R s m args below meth c T locs cells slots) (hx : p.tables.exec = Jvm.exec) {k : Fin 2} {v : Int64} (hd : decode c.code pc = .ok (.lconst k, 1)) (hv : Int64.ofNat k = v) (hp : pc + 1 = pc') (kk : Goes p.tables e below P (T.setTop (mkF m pc' L (.long v :: S)))) : Goes p.tables e below P (T.setTop (mkF m pc L S)) := by
  subst hp; subst hv; exact kk.on fun _ k => XS.lconst X.here hx rfl hd  k
theorem o_aconstNull (X : Stand p l e R s m args below meth c T locs cells slots) (hx : p.tables.exec = Jvm.exec)  (hd : decode c.code pc = .ok (.aconst_null, 1)) (hp : pc + 1 = pc') (kk : Goes p.tables e below P (T.setTop (mkF m pc' L (.null :: S)))) : Goes p.tables e below P (T.setTop (mkF m pc L S)) := by
  subst hp; exact kk.on fun _ k => XS.aconstNull X.here hx rfl hd  k
theorem o_iadd (X : Stand p l e R s m args below meth c T locs cells slots) (hx : p.tables.exec = Jvm.exec) {x y : Int32} (hd : decode c.code pc = .ok (.iadd, 1)) (hp : pc + 1 = pc') (kk : Goes p.tables e below P (T.setTop (mkF m pc' L (.int (x + y) :: S)))) : Goes p.tables e below P (T.setTop (mkF m pc L (.int y :: .int x :: S))) := by
  subst hp; exact kk.on fun _ k => XS.iadd X.here hx rfl hd rfl k
theorem o_isub (X : Stand p l e R s m args below meth c T locs cells slots) (hx : p.tables.exec = Jvm.exec) {x y : Int32} (hd : decode c.code pc = .ok (.isub, 1)) (hp : pc + 1 = pc') (kk : Goes p.tables e below P (T.setTop (mkF m pc' L (.int (x - y) :: S)))) : Goes p.tables e below P (T.setTop (mkF m pc L (.int y :: .int x :: S))) := by
  subst hp; exact kk.on fun _ k => XS.isub X.here hx rfl hd rfl k
theorem o_imul (X : Stand p l e R s m args below meth c T locs cells slots) (hx : p.tables.exec = Jvm.exec) {x y : Int32} (hd : decode c.code pc = .ok (.imul, 1)) (hp : pc + 1 = pc') (kk : Goes p.tables e below P (T.setTop (mkF m pc' L (.int (x * y) :: S)))) : Goes p.tables e below P (T.setTop (mkF m pc L (.int y :: .int x :: S))) := by
  subst hp; exact kk.on fun _ k => XS.imul X.here hx rfl hd rfl k
theorem o_iand (X : Stand p l e R s m args below meth c T locs cells slots) (hx : p.tables.exec = Jvm.exec) {x y : Int32} (hd : decode c.code pc = .ok (.iand, 1)) (hp : pc + 1 = pc') (kk : Goes p.tables e below P (T.setTop (mkF m pc' L (.int (x &&& y) :: S)))) : Goes p.tables e below P (T.setTop (mkF m pc L (.int y :: .int x :: S))) := by
  subst hp; exact kk.on fun _ k => XS.iand X.here hx rfl hd rfl k
theorem o_ior (X : Stand p l e R s m args below meth c T locs cells slots) (hx : p.tables.exec = Jvm.exec) {x y : Int32} (hd : decode c.code pc = .ok (.ior, 1)) (hp : pc + 1 = pc') (kk : Goes p.tables e below P (T.setTop (mkF m pc' L (.int (x ||| y) :: S)))) : Goes p.tables e below P (T.setTop (mkF m pc L (.int y :: .int x :: S))) := by
  subst hp; exact kk.on fun _ k => XS.ior X.here hx rfl hd rfl k
theorem o_ixor (X : Stand p l e R s m args below meth c T locs cells slots) (hx : p.tables.exec = Jvm.exec) {x y : Int32} (hd : decode c.code pc = .ok (.ixor, 1)) (hp : pc + 1 = pc') (kk : Goes p.tables e below P (T.setTop (mkF m pc' L (.int (x ^^^ y) :: S)))) : Goes p.tables e below P (T.setTop (mkF m pc L (.int y :: .int x :: S))) := by
  subst hp; exact kk.on fun _ k => XS.ixor X.here hx rfl hd rfl k
theorem o_ishl (X : Stand p l e R s m args below meth c T locs cells slots) (hx : p.tables.exec = Jvm.exec) {x y : Int32} (hd : decode c.code pc = .ok (.ishl, 1)) (hp : pc + 1 = pc') (kk : Goes p.tables e below P (T.setTop (mkF m pc' L (.int (x <<< (y &&& 31)) :: S)))) : Goes p.tables e below P (T.setTop (mkF m pc L (.int y :: .int x :: S))) := by
  subst hp; exact kk.on fun _ k => XS.ishl X.here hx rfl hd rfl k
theorem o_ishr (X : Stand p l e R s m args below meth c T locs cells slots) (hx : p.tables.exec = Jvm.exec) {x y : Int32} (hd : decode c.code pc = .ok (.ishr, 1)) (hp : pc + 1 = pc') (kk : Goes p.tables e below P (T.setTop (mkF m pc' L (.int (x >>> (y &&& 31)) :: S)))) : Goes p.tables e below P (T.setTop (mkF m pc L (.int y :: .int x :: S))) := by
  subst hp; exact kk.on fun _ k => XS.ishr X.here hx rfl hd rfl k
theorem o_iushr (X : Stand p l e R s m args below meth c T locs cells slots) (hx : p.tables.exec = Jvm.exec) {x y : Int32} (hd : decode c.code pc = .ok (.iushr, 1)) (hp : pc + 1 = pc') (kk : Goes p.tables e below P (T.setTop (mkF m pc' L (.int ((x.toUInt32 >>> (y &&& 31).toUInt32).toInt32) :: S)))) : Goes p.tables e below P (T.setTop (mkF m pc L (.int y :: .int x :: S))) := by
  subst hp; exact kk.on fun _ k => XS.iushr X.here hx rfl hd rfl k
theorem o_ladd (X : Stand p l e R s m args below meth c T locs cells slots) (hx : p.tables.exec = Jvm.exec) {x y : Int64} (hd : decode c.code pc = .ok (.ladd, 1)) (hp : pc + 1 = pc') (kk : Goes p.tables e below P (T.setTop (mkF m pc' L (.long (x + y) :: S)))) : Goes p.tables e below P (T.setTop (mkF m pc L (.long y :: .long x :: S))) := by
  subst hp; exact kk.on fun _ k => XS.ladd X.here hx rfl hd rfl k
theorem o_lsub (X : Stand p l e R s m args below meth c T locs cells slots) (hx : p.tables.exec = Jvm.exec) {x y : Int64} (hd : decode c.code pc = .ok (.lsub, 1)) (hp : pc + 1 = pc') (kk : Goes p.tables e below P (T.setTop (mkF m pc' L (.long (x - y) :: S)))) : Goes p.tables e below P (T.setTop (mkF m pc L (.long y :: .long x :: S))) := by
  subst hp; exact kk.on fun _ k => XS.lsub X.here hx rfl hd rfl k
theorem o_lmul (X : Stand p l e R s m args below meth c T locs cells slots) (hx : p.tables.exec = Jvm.exec) {x y : Int64} (hd : decode c.code pc = .ok (.lmul, 1)) (hp : pc + 1 = pc') (kk : Goes p.tables e below P (T.setTop (mkF m pc' L (.long (x * y) :: S)))) : Goes p.tables e below P (T.setTop (mkF m pc L (.long y :: .long x :: S))) := by
  subst hp; exact kk.on fun _ k => XS.lmul X.here hx rfl hd rfl k
theorem o_land (X : Stand p l e R s m args below meth c T locs cells slots) (hx : p.tables.exec = Jvm.exec) {x y : Int64} (hd : decode c.code pc = .ok (.land, 1)) (hp : pc + 1 = pc') (kk : Goes p.tables e below P (T.setTop (mkF m pc' L (.long (x &&& y) :: S)))) : Goes p.tables e below P (T.setTop (mkF m pc L (.long y :: .long x :: S))) := by
  subst hp; exact kk.on fun _ k => XS.land X.here hx rfl hd rfl k
theorem o_lor (X : Stand p l e R s m args below meth c T locs cells slots) (hx : p.tables.exec = Jvm.exec) {x y : Int64} (hd : decode c.code pc = .ok (.lor, 1)) (hp : pc + 1 = pc') (kk : Goes p.tables e below P (T.setTop (mkF m pc' L (.long (x ||| y) :: S)))) : Goes p.tables e below P (T.setTop (mkF m pc L (.long y :: .long x :: S))) := by
  subst hp; exact kk.on fun _ k => XS.lor X.here hx rfl hd rfl k
theorem o_lxor (X : Stand p l e R s m args below meth c T locs cells slots) (hx : p.tables.exec = Jvm.exec) {x y : Int64} (hd : decode c.code pc = .ok (.lxor, 1)) (hp : pc + 1 = pc') (kk : Goes p.tables e below P (T.setTop (mkF m pc' L (.long (x ^^^ y) :: S)))) : Goes p.tables e below P (T.setTop (mkF m pc L (.long y :: .long x :: S))) := by
  subst hp; exact kk.on fun _ k => XS.lxor X.here hx rfl hd rfl k
theorem o_lshl (X : Stand p l e R s m args below meth c T locs cells slots) (hx : p.tables.exec = Jvm.exec) {x : Int64} {y : Int32} (hd : decode c.code pc = .ok (.lshl, 1)) (hp : pc + 1 = pc') (kk : Goes p.tables e below P (T.setTop (mkF m pc' L (.long (x <<< (y &&& 0x3f).toInt64) :: S)))) : Goes p.tables e below P (T.setTop (mkF m pc L (.int y :: .long x :: S))) := by
  subst hp; exact kk.on fun _ k => XS.lshl X.here hx rfl hd rfl k
theorem o_lshr (X : Stand p l e R s m args below meth c T locs cells slots) (hx : p.tables.exec = Jvm.exec) {x : Int64} {y : Int32} (hd : decode c.code pc = .ok (.lshr, 1)) (hp : pc + 1 = pc') (kk : Goes p.tables e below P (T.setTop (mkF m pc' L (.long (x >>> (y &&& 0x3f).toInt64) :: S)))) : Goes p.tables e below P (T.setTop (mkF m pc L (.int y :: .long x :: S))) := by
  subst hp; exact kk.on fun _ k => XS.lshr X.here hx rfl hd rfl k
theorem o_lushr (X : Stand p l e R s m args below meth c T locs cells slots) (hx : p.tables.exec = Jvm.exec) {x : Int64} {y : Int32} (hd : decode c.code pc = .ok (.lushr, 1)) (hp : pc + 1 = pc') (kk : Goes p.tables e below P (T.setTop (mkF m pc' L (.long ((x.toUInt64 >>> (y &&& 0x3f).toInt64.toUInt64).toInt64) :: S)))) : Goes p.tables e below P (T.setTop (mkF m pc L (.int y :: .long x :: S))) := by
  subst hp; exact kk.on fun _ k => XS.lushr X.here hx rfl hd rfl k
theorem o_idiv (X : Stand p l e R s m args below meth c T locs cells slots) (hx : p.tables.exec = Jvm.exec) {x y : Int32} (hd : decode c.code pc = .ok (.idiv, 1)) (hy : y ≠ 0) (hp : pc + 1 = pc') (kk : Goes p.tables e below P (T.setTop (mkF m pc' L (.int (x / y) :: S)))) : Goes p.tables e below P (T.setTop (mkF m pc L (.int y :: .int x :: S))) := by
  subst hp; exact kk.on fun _ k => XS.idiv X.here hx rfl hd rfl hy k
theorem o_ldiv (X : Stand p l e R s m args below meth c T locs cells slots) (hx : p.tables.exec = Jvm.exec) {x y : Int64} (hd : decode c.code pc = .ok (.ldiv, 1)) (hy : y ≠ 0) (hp : pc + 1 = pc') (kk : Goes p.tables e below P (T.setTop (mkF m pc' L (.long (x / y) :: S)))) : Goes p.tables e below P (T.setTop (mkF m pc L (.long y :: .long x :: S))) := by
  subst hp; exact kk.on fun _ k => XS.ldiv X.here hx rfl hd rfl hy k
theorem o_lrem (X : Stand p l e R s m args below meth c T locs cells slots) (hx : p.tables.exec = Jvm.exec) {x y : Int64} (hd : decode c.code pc = .ok (.lrem, 1)) (hy : y ≠ 0) (hp : pc + 1 = pc') (kk : Goes p.tables e below P (T.setTop (mkF m pc' L (.long (x - (x / y) * y) :: S)))) : Goes p.tables e below P (T.setTop (mkF m pc L (.long y :: .long x :: S))) := by
  subst hp; exact kk.on fun _ k => XS.lrem X.here hx rfl hd rfl hy k
theorem o_irem (X : Stand p l e R s m args below meth c T locs cells slots) (hx : p.tables.exec = Jvm.exec) {x y : Int32} (hd : decode c.code pc = .ok (.irem, 1)) (hy : y ≠ 0) (hp : pc + 1 = pc') (kk : Goes p.tables e below P (T.setTop (mkF m pc' L (.int (x % y) :: S)))) : Goes p.tables e below P (T.setTop (mkF m pc L (.int y :: .int x :: S))) := by
  subst hp; exact kk.on fun _ k => iremM X hx rfl hd rfl hy k
theorem o_i2l (X : Stand p l e R s m args below meth c T locs cells slots) (hx : p.tables.exec = Jvm.exec) {x : Int32} (hd : decode c.code pc = .ok (.i2l, 1)) (hp : pc + 1 = pc') (kk : Goes p.tables e below P (T.setTop (mkF m pc' L (.long (x.toInt64) :: S)))) : Goes p.tables e below P (T.setTop (mkF m pc L (.int x :: S))) := by
  subst hp; exact kk.on fun _ k => XS.i2l X.here hx rfl hd rfl k
theorem o_l2i (X : Stand p l e R s m args below meth c T locs cells slots) (hx : p.tables.exec = Jvm.exec) {x : Int64} (hd : decode c.code pc = .ok (.l2i, 1)) (hp : pc + 1 = pc') (kk : Goes p.tables e below P (T.setTop (mkF m pc' L (.int (x.toInt32) :: S)))) : Goes p.tables e below P (T.setTop (mkF m pc L (.long x :: S))) := by
  subst hp; exact kk.on fun _ k => XS.l2i X.here hx rfl hd rfl k
theorem o_i2b (X : Stand p l e R s m args below meth c T locs cells slots) (hx : p.tables.exec = Jvm.exec) {x : Int32} (hd : decode c.code pc = .ok (.i2b, 1)) (hp : pc + 1 = pc') (kk : Goes p.tables e below P (T.setTop (mkF m pc' L (.int (x.toInt8.toInt32) :: S)))) : Goes p.tables e below P (T.setTop (mkF m pc L (.int x :: S))) := by
  subst hp; exact kk.on fun _ k => XS.i2b X.here hx rfl hd rfl k
theorem o_i2s (X : Stand p l e R s m args below meth c T locs cells slots) (hx : p.tables.exec = Jvm.exec) {x : Int32} (hd : decode c.code pc = .ok (.i2s, 1)) (hp : pc + 1 = pc') (kk : Goes p.tables e below P (T.setTop (mkF m pc' L (.int (x.toInt16.toInt32) :: S)))) : Goes p.tables e below P (T.setTop (mkF m pc L (.int x :: S))) := by
  subst hp; exact kk.on fun _ k => XS.i2s X.here hx rfl hd rfl k
theorem o_i2c (X : Stand p l e R s m args below meth c T locs cells slots) (hx : p.tables.exec = Jvm.exec) {x : Int32} (hd : decode c.code pc = .ok (.i2c, 1)) (hp : pc + 1 = pc') (kk : Goes p.tables e below P (T.setTop (mkF m pc' L (.int (x.toUInt32.toUInt16.toUInt32.toInt32) :: S)))) : Goes p.tables e below P (T.setTop (mkF m pc L (.int x :: S))) := by
  subst hp; exact kk.on fun _ k => XS.i2c X.here hx rfl hd rfl k
theorem o_ineg (X : Stand p l e R s m args below meth c T locs cells slots) (hx : p.tables.exec = Jvm.exec) {x : Int32} (hd : decode c.code pc = .ok (.ineg, 1)) (hp : pc + 1 = pc') (kk : Goes p.tables e below P (T.setTop (mkF m pc' L (.int (-x) :: S)))) : Goes p.tables e below P (T.setTop (mkF m pc L (.int x :: S))) := by
  subst hp; exact kk.on fun _ k => XS.ineg X.here hx rfl hd rfl k
theorem o_lneg (X : Stand p l e R s m args below meth c T locs cells slots) (hx : p.tables.exec = Jvm.exec) {x : Int64} (hd : decode c.code pc = .ok (.lneg, 1)) (hp : pc + 1 = pc') (kk : Goes p.tables e below P (T.setTop (mkF m pc' L (.long (-x) :: S)))) : Goes p.tables e below P (T.setTop (mkF m pc L (.long x :: S))) := by
  subst hp; exact kk.on fun _ k => XS.lneg X.here hx rfl hd rfl k
theorem o_lcmp (X : Stand p l e R s m args below meth c T locs cells slots) (hx : p.tables.exec = Jvm.exec) {x y : Int64} (hd : decode c.code pc = .ok (.lcmp, 1)) (hp : pc + 1 = pc') (kk : Goes p.tables e below P (T.setTop (mkF m pc' L (.int (lcmpW x y) :: S)))) : Goes p.tables e below P (T.setTop (mkF m pc L (.long y :: .long x :: S))) := by
  subst hp; exact kk.on fun _ k => XS.lcmp X.here hx rfl hd rfl k
theorem o_dup (X : Stand p l e R s m args below meth c T locs cells slots) (hx : p.tables.exec = Jvm.exec) {x : Value} (hd : decode c.code pc = .ok (.dup, 1)) (hc : x.category = 1) (hp : pc + 1 = pc') (kk : Goes p.tables e below P (T.setTop (mkF m pc' L (x :: x :: S)))) : Goes p.tables e below P (T.setTop (mkF m pc L (x :: S))) := by
  subst hp; exact kk.on fun _ k => XS.dup X.here hx rfl hd rfl hc k
theorem o_pop (X : Stand p l e R s m args below meth c T locs cells slots) (hx : p.tables.exec = Jvm.exec) {x : Value} (hd : decode c.code pc = .ok (.pop, 1)) (hc : x.category = 1) (hp : pc + 1 = pc') (kk : Goes p.tables e below P (T.setTop (mkF m pc' L S))) : Goes p.tables e below P (T.setTop (mkF m pc L (x :: S))) := by
  subst hp; exact kk.on fun _ k => XS.pop X.here hx rfl hd rfl hc k
theorem o_dupX1 (X : Stand p l e R s m args below meth c T locs cells slots) (hx : p.tables.exec = Jvm.exec) {x y : Value} (hd : decode c.code pc = .ok (.dup_x1, 1)) (hc : x.category = 1) (hc2 : y.category = 1) (hp : pc + 1 = pc') (kk : Goes p.tables e below P (T.setTop (mkF m pc' L (x :: y :: x :: S)))) : Goes p.tables e below P (T.setTop (mkF m pc L (x :: y :: S))) := by
  subst hp; exact kk.on fun _ k => XS.dupX1 X.here hx rfl hd rfl hc hc2 k
theorem o_iinc (X : Stand p l e R s m args below meth c T locs cells slots) (hx : p.tables.exec = Jvm.exec) {k : Nat} {cst : Int} {x v : Int32} (hd : decode c.code pc = .ok (.iinc k cst, 3)) (hl : L[k]? = some (.val (.int x))) (hv : x + Int32.ofInt cst = v) (hl' : storeLocals L k (.int v) = some L') (hp : pc + 3 = pc') (kk : Goes p.tables e below P (T.setTop (mkF m pc' L' S))) : Goes p.tables e below P (T.setTop (mkF m pc L S)) := by
  subst hp; subst hv; exact kk.on fun _ k => XS.iinc X.here hx rfl hd hl hl' k
theorem o_goto (X : Stand p l e R s m args below meth c T locs cells slots) (hx : p.tables.exec = Jvm.exec)  {o : Int} (hd : decode c.code pc = .ok (.goto o, 3)) (ho : 0 ≤ (pc : Int) + o) (hp : ((pc : Int) + o).toNat = pc') (kk : Goes p.tables e below P (T.setTop (mkF m pc' L S))) : Goes p.tables e below P (T.setTop (mkF m pc L S)) :=
  kk.on fun _ k => XS.goto X.here hx rfl (pc0 := pc) rfl hd  ho hp k
theorem o_ifYes (X : Stand p l e R s m args below meth c T locs cells slots) (hx : p.tables.exec = Jvm.exec) {cd : ClassFile.Cond} {x : Int32} {o : Int} (hd : decode c.code pc = .ok (.ifCond cd o, 3)) (hc : ifCond.holds cd x = true) (ho : 0 ≤ (pc : Int) + o) (hp : ((pc : Int) + o).toNat = pc') (kk : Goes p.tables e below P (T.setTop (mkF m pc' L S))) : Goes p.tables e below P (T.setTop (mkF m pc L (.int x :: S))) :=
  kk.on fun _ k => XS.ifYes X.here hx rfl (pc0 := pc) rfl hd rfl hc ho hp k
theorem o_icmpYes (X : Stand p l e R s m args below meth c T locs cells slots) (hx : p.tables.exec = Jvm.exec) {cd : ClassFile.Cond} {x y : Int32} {o : Int} (hd : decode c.code pc = .ok (.if_icmp cd o, 3)) (hc : if_icmp.holds cd x y = true) (ho : 0 ≤ (pc : Int) + o) (hp : ((pc : Int) + o).toNat = pc') (kk : Goes p.tables e below P (T.setTop (mkF m pc' L S))) : Goes p.tables e below P (T.setTop (mkF m pc L (.int y :: .int x :: S))) :=
  kk.on fun _ k => XS.icmpYes X.here hx rfl (pc0 := pc) rfl hd rfl hc ho hp k
theorem o_ifnullYes (X : Stand p l e R s m args below meth c T locs cells slots) (hx : p.tables.exec = Jvm.exec)  {o : Int} (hd : decode c.code pc = .ok (.ifnull o, 3)) (ho : 0 ≤ (pc : Int) + o) (hp : ((pc : Int) + o).toNat = pc') (kk : Goes p.tables e below P (T.setTop (mkF m pc' L S))) : Goes p.tables e below P (T.setTop (mkF m pc L (.null :: S))) :=
  kk.on fun _ k => XS.ifnullYes X.here hx rfl (pc0 := pc) rfl hd rfl ho hp k
theorem o_ifnonnullYes (X : Stand p l e R s m args below meth c T locs cells slots) (hx : p.tables.exec = Jvm.exec) {b : Addr} {o : Int} (hd : decode c.code pc = .ok (.ifnonnull o, 3)) (ho : 0 ≤ (pc : Int) + o) (hp : ((pc : Int) + o).toNat = pc') (kk : Goes p.tables e below P (T.setTop (mkF m pc' L S))) : Goes p.tables e below P (T.setTop (mkF m pc L (.ref b :: S))) :=
  kk.on fun _ k => XS.ifnonnullYes X.here hx rfl (pc0 := pc) rfl hd rfl ho hp k
theorem o_ifNo (X : Stand p l e R s m args below meth c T locs cells slots) (hx : p.tables.exec = Jvm.exec) {cd : ClassFile.Cond} {o : Int} {x : Int32} (hd : decode c.code pc = .ok (.ifCond cd o, 3)) (hc : ifCond.holds cd x = false) (hp : pc + 3 = pc') (kk : Goes p.tables e below P (T.setTop (mkF m pc' L S))) : Goes p.tables e below P (T.setTop (mkF m pc L (.int x :: S))) := by
  subst hp; exact kk.on fun _ k => XS.ifNo X.here hx rfl hd rfl hc k
theorem o_icmpNo (X : Stand p l e R s m args below meth c T locs cells slots) (hx : p.tables.exec = Jvm.exec) {cd : ClassFile.Cond} {o : Int} {x y : Int32} (hd : decode c.code pc = .ok (.if_icmp cd o, 3)) (hc : if_icmp.holds cd x y = false) (hp : pc + 3 = pc') (kk : Goes p.tables e below P (T.setTop (mkF m pc' L S))) : Goes p.tables e below P (T.setTop (mkF m pc L (.int y :: .int x :: S))) := by
  subst hp; exact kk.on fun _ k => XS.icmpNo X.here hx rfl hd rfl hc k
theorem o_ifnullNo (X : Stand p l e R s m args below meth c T locs cells slots) (hx : p.tables.exec = Jvm.exec) {o : Int} {b : Addr} (hd : decode c.code pc = .ok (.ifnull o, 3)) (hp : pc + 3 = pc') (kk : Goes p.tables e below P (T.setTop (mkF m pc' L S))) : Goes p.tables e below P (T.setTop (mkF m pc L (.ref b :: S))) := by
  subst hp; exact kk.on fun _ k => XS.ifnullNo X.here hx rfl hd rfl k
theorem o_ifnonnullNo (X : Stand p l e R s m args below meth c T locs cells slots) (hx : p.tables.exec = Jvm.exec) {o : Int} (hd : decode c.code pc = .ok (.ifnonnull o, 3)) (hp : pc + 3 = pc') (kk : Goes p.tables e below P (T.setTop (mkF m pc' L S))) : Goes p.tables e below P (T.setTop (mkF m pc L (.null :: S))) := by
  subst hp; exact kk.on fun _ k => XS.ifnonnullNo X.here hx rfl hd rfl k
theorem o_acmp (X : Stand p l e R s m args below meth c T locs cells slots) (hx : p.tables.exec = Jvm.exec) {cd : ACond} {x y : Value} {o : Int} {same : Bool} (hd : decode c.code pc = .ok (.if_acmp cd o, 3)) (h1 : x.isRef = true) (h2 : y.isRef = true) (hq : decide (x = y) = same) (ho : 0 ≤ (pc : Int) + o) (hp : pc' = if acV cd same = true then ((pc : Int) + o).toNat else pc + 3) (kk : Goes p.tables e below P (T.setTop (mkF m pc' L S))) : Goes p.tables e below P (T.setTop (mkF m pc L (y :: x :: S))) :=
  kk.on fun _ k => Jvm.RoadKit.acmp (g := mkF m pc L (y :: x :: S)) X hx rfl h1 h2 (pc0 := pc) (pc' := pc') (same := same) rfl hd rfl hq ho hp k
theorem o_tswIn (X : Stand p l e R s m args below meth c T locs cells slots) (hx : p.tables.exec = Jvm.exec) {dflt low high : Int} {offs : Array Int} {len : Nat} {o : Int} {i : Int32} (hd : decode c.code pc = .ok (.tableswitch dflt low high offs, len)) (hin : ¬ (i.toInt < low ∨ i.toInt > high)) (hoff : offs[(i.toInt - low).toNat]? = some o) (ho : 0 ≤ (pc : Int) + o) (hp : ((pc : Int) + o).toNat = pc') (kk : Goes p.tables e below P (T.setTop (mkF m pc' L S))) : Goes p.tables e below P (T.setTop (mkF m pc L (.int i :: S))) :=
  kk.on fun _ k => XS.tswIn X.here hx rfl (pc0 := pc) rfl hd rfl hin hoff ho hp k
theorem o_tswOut (X : Stand p l e R s m args below meth c T locs cells slots) (hx : p.tables.exec = Jvm.exec) {dflt low high : Int} {offs : Array Int} {len : Nat} {i : Int32} (hd : decode c.code pc = .ok (.tableswitch dflt low high offs, len)) (hout : i.toInt < low ∨ i.toInt > high) (ho : 0 ≤ (pc : Int) + dflt) (hp : ((pc : Int) + dflt).toNat = pc') (kk : Goes p.tables e below P (T.setTop (mkF m pc' L S))) : Goes p.tables e below P (T.setTop (mkF m pc L (.int i :: S))) :=
  kk.on fun _ k => XS.tswOut X.here hx rfl (pc0 := pc) rfl hd rfl hout ho hp k
theorem o_getF (X : Stand p l e R s m args below meth c T locs cells slots) (hx : p.tables.exec = Jvm.exec) (hZ : Z.Warmed39 s.vm) {own R0 O n d host : String} {index : Nat} (hown : s.vm.findClass own = some m.cls) (w : (Cond.fieldLink own index R0 n d).before a0 Z = true ∨ (Cond.fieldLinkNest own index R0 n d host).before a0 Z = true) (via : Via Z R0 O n d) (eT : T.heap = h) {a : Addr} {v : Value} (F : Fld Z h a O n d v) (hd : decode c.code pc = .ok (.getfield index, 3)) (hp : pc + 3 = pc')
    (kk : ∀ T', Stand p l e R s m args below meth c T' locs cells slots → T'.heap = h → Goes p.tables e below P (T'.setTop (mkF m pc' L (v :: S)))) : Goes p.tables e below P (T.setTop (mkF m pc L (.ref a :: S))) := by
  subst hp
  obtain ⟨T', X', e', st⟩ := getF X hx hZ hown w via eT F (g := mkF m pc L (.ref a :: S)) rfl rfl hd
  exact (kk T' X' e').on st
theorem o_getS (X : Stand p l e R s m args below meth c T locs cells slots) (hx : p.tables.exec = Jvm.exec) (hZ : Z.Warmed39 s.vm) {own R0 O n d host : String} {index : Nat} (hown : s.vm.findClass own = some m.cls) (w : (Cond.fieldLink own index R0 n d).before a0 Z = true ∨ (Cond.fieldLinkNest own index R0 n d host).before a0 Z = true) (via : Via Z R0 O n d) (eT : T.heap = h) {v : Value} (F : Sta Z h O n d v) (hd : decode c.code pc = .ok (.getstatic index, 3)) (hp : pc + 3 = pc')
    (kk : ∀ T', Stand p l e R s m args below meth c T' locs cells slots → T'.heap = h → Goes p.tables e below P (T'.setTop (mkF m pc' L (v :: S)))) : Goes p.tables e below P (T.setTop (mkF m pc L S)) := by
  subst hp
  obtain ⟨T', X', e', st⟩ := getS2 X hx hZ hown w via eT F (g := mkF m pc L S) rfl hd
  exact (kk T' X' e').on st
theorem o_putF (X : Stand p l e R s m args below meth c T locs cells slots) (hx : p.tables.exec = Jvm.exec) (hZ : Z.Warmed39 s.vm) {own R0 O n d host C : String} {index kk0 : Nat} {ty : FieldType} (hown : s.vm.findClass own = some m.cls) (w : (Cond.fieldLink own index R0 n d).before a0 Z = true ∨ (Cond.fieldLinkNest own index R0 n d host).before a0 Z = true) (via : Via Z R0 O n d) (eT : T.heap = h) {a : Addr} {v old : Value} (F : Fld Z h a O n d old) (E : Exa Z h a C) (Lw : (Cond.lays C O n d).before a0 Z = true ∨ ((Cond.laysFinal C O n d).before a0 Z = true ∧ own = O ∧ meth.name = "<init>")) (wi : (Cond.instantiable C kk0).before a0 Z = true)
    (hty : parseFieldDescriptor d = some ty) (hn : narrow ty v = v) (hf : fits ty v = true) (hd : decode c.code pc = .ok (.putfield index, 3)) (hp : pc + 3 = pc')
    (kk : ∀ T' h', Stand p l e R s m args below meth c T' (locs ++ [⟨a, Jvm.RoadKit.slotOf Z O n d⟩]) cells slots → T'.heap = h' → Wr h h' a (Jvm.RoadKit.slotOf Z O n d) v → Goes p.tables e below P (T'.setTop (mkF m pc' L S))) : Goes p.tables e below P (T.setTop (mkF m pc L (v :: .ref a :: S))) := by
  subst hp
  obtain ⟨T', h', X', e', W', st⟩ := putF X hx hZ hown w via eT F E Lw wi hty hn hf (g := mkF m pc L (v :: .ref a :: S)) rfl rfl hd
  exact (kk T' h' X' e' W').on st
theorem o_new (X : Stand p l e R s m args below meth c T locs cells slots) (hx : p.tables.exec = Jvm.exec) (hZ : Z.Warmed39 s.vm) {own C : String} {index n : Nat} (hown : s.vm.findClass own = some m.cls) (w : (Cond.classLink own index C).before a0 Z = true) (wi : (Cond.instantiable C n).before a0 Z = true) (wz : (Cond.initialized C).before a0 Z = true) (eT : T.heap = h) (hd : decode c.code pc = .ok (.new index, 3)) (hc : cells + 1 ≤ R.cells) (hl : slots + n ≤ R.slots) (hc' : cells + 1 = cells') (hs' : slots + n = slots') (hp : pc + 3 = pc')
    (kk : ∀ T' h' b, b = h.size → Stand p l e R s m args below meth c T' locs cells' slots' → T'.heap = h' → Ext h h' → Exa Z h' b C → (∀ {O nm d : String} {ty : FieldType}, Laid Z a0 C O nm d → parseFieldDescriptor d = some ty → Fld Z h' b O nm d (defaultValue ty)) → Goes p.tables e below P (T'.setTop (mkF m pc' L (.ref b :: S)))) : Goes p.tables e below P (T.setTop (mkF m pc L S)) := by
  subst hp hc' hs'
  obtain ⟨T', h', X', e', E', A', D', -, st⟩ := newO X hx hZ hown w wi wz eT (g := mkF m pc L S) rfl hd hc hl
  exact (kk T' h' _ rfl X' e' E' A' D').on st
theorem o_newP (X : Stand p l e R s m args below meth c T locs cells slots) (hx : p.tables.exec = Jvm.exec) (hZ : Z.Warmed39 s.vm) {aty : ArrayType} (w : (Cond.arrayClass (newarray.typeOf aty)).before a0 Z = true) (eT : T.heap = h) (hd : decode c.code pc = .ok (.newarray aty, 2)) {n : Int32} (hn : ¬ n < 0) {cap : Nat} (hcap : n.toNatClampNeg ≤ cap) (hb : cap * 8 ≤ 536870912) (hc : cells + 1 ≤ R.cells) (hl : slots + cap ≤ R.slots) (hc' : cells + 1 = cells') (hs' : slots + cap = slots') (hp : pc + 2 = pc')
    (kk : ∀ T' h' k b, b = h.size → Stand p l e R s m args below meth c T' locs cells' slots' → T'.heap = h' → Ext h h' → Arr Z h' b (newA k (newarray.typeOf aty) n) (newarray.typeOf aty) → Goes p.tables e below P (T'.setTop (mkF m pc' L (.ref b :: S)))) : Goes p.tables e below P (T.setTop (mkF m pc L (.int n :: S))) := by
  subst hp hc' hs'
  obtain ⟨T', h', k, X', e', E', A', st⟩ := newP X hx hZ w eT (g := mkF m pc L (.int n :: S)) rfl hd rfl hn hcap hb hc hl
  exact (kk T' h' k _ rfl X' e' E' A').on st
theorem o_initO (X : Stand p l e R s m args below meth c T locs cells slots) (hx : p.tables.exec = Jvm.exec) (hZ : Z.Warmed39 s.vm) {own : String} {idx : Nat} (hown : s.vm.findClass own = some m.cls) (w1 : (Cond.methodLink own idx Lib.objectInit).before a0 Z = true) (w2 : (Cond.instanceMethod Lib.objectInit).before a0 Z = true) (w3 : (Cond.code Lib.objectInit ⟨#[0xb1]⟩ 1 none).before a0 Z = true) (eT : T.heap = h) (hsize : L.size = c.maxLocals) {a : Addr} (hd : decode c.code pc = .ok (.invokespecial idx, 3)) (hf : 1 ≤ R.frames) {W : Nat} (hW : (S.map fun v => v.category).sum = W) (hl : W + 12 ≤ R.locals) (hp : pc + 3 = pc')
    (kk : ∀ T', Stand p l e R s m args below meth c T' locs cells slots → T'.heap = h → Goes p.tables e below P (T'.setTop (mkF m pc' L S))) : Goes p.tables e below P (T.setTop (mkF m pc L (.ref a :: S))) := by
  subst hp
  obtain ⟨T', X', e', st⟩ := initO X hx hZ hown w1 w2 w3 eT (g := mkF m pc L (.ref a :: S)) rfl hsize rfl hd hf (W := W) (by rw [← hW]; show 2 * 0 + _ ≤ _; omega) hl
  exact (kk T' X' e').on st
theorem o_stI (X : Stand p l e R s m args below meth c T locs cells slots) (hx : p.tables.exec = Jvm.exec) (hZ : Z.Warmed39 s.vm) (eT : T.heap = h) {a : Addr} {kc : ClassId} {z : Int32} {vs : List Value} {dv : Value} (A : Arv Z h a kc .int z vs dv) {j : Int32} {x : Int32} {i : Nat} (hj : ¬ j < 0 ∧ j < z) (hi : j.toNatClampNeg = i) (hv : i < vs.length) (hd : decode c.code pc = .ok (.iastore, 1)) (hp : pc + 1 = pc')
    (kk : ∀ T' h', Stand p l e R s m args below meth c T' (locs ++ [⟨a, i⟩]) cells slots → T'.heap = h' → Wr h h' a i (.int x) → Arv Z h' a kc .int z (vs.set i (.int x)) dv → Goes p.tables e below P (T'.setTop (mkF m pc' L S))) : Goes p.tables e below P (T.setTop (mkF m pc L ((.int x) :: .int j :: .ref a :: S))) := by
  subst hp
  obtain ⟨cl, A1, q1, S1, N1, H1, G1⟩ := A
  obtain ⟨T', h', X', e', W', st⟩ := stI X hx hZ eT A1 (j := j) (x := x) (inb_of S1 hj) (g := mkF m pc L ((.int x) :: .int j :: .ref a :: S)) rfl rfl hd
  have V' := Arv.set A1 q1 S1 N1 H1 G1 (rfl) W' i hi hv
  rw [hi] at X' W'
  exact (kk T' h' X' e' W' V').on st
theorem o_stJ (X : Stand p l e R s m args below meth c T locs cells slots) (hx : p.tables.exec = Jvm.exec) (hZ : Z.Warmed39 s.vm) (eT : T.heap = h) {a : Addr} {kc : ClassId} {z : Int32} {vs : List Value} {dv : Value} (A : Arv Z h a kc .long z vs dv) {j : Int32} {x : Int64} {i : Nat} (hj : ¬ j < 0 ∧ j < z) (hi : j.toNatClampNeg = i) (hv : i < vs.length) (hd : decode c.code pc = .ok (.lastore, 1)) (hp : pc + 1 = pc')
    (kk : ∀ T' h', Stand p l e R s m args below meth c T' (locs ++ [⟨a, i⟩]) cells slots → T'.heap = h' → Wr h h' a i (.long x) → Arv Z h' a kc .long z (vs.set i (.long x)) dv → Goes p.tables e below P (T'.setTop (mkF m pc' L S))) : Goes p.tables e below P (T.setTop (mkF m pc L ((.long x) :: .int j :: .ref a :: S))) := by
  subst hp
  obtain ⟨cl, A1, q1, S1, N1, H1, G1⟩ := A
  obtain ⟨T', h', X', e', W', st⟩ := stJ X hx hZ eT A1 (j := j) (x := x) (inb_of S1 hj) (g := mkF m pc L ((.long x) :: .int j :: .ref a :: S)) rfl rfl hd
  have V' := Arv.set A1 q1 S1 N1 H1 G1 (rfl) W' i hi hv
  rw [hi] at X' W'
  exact (kk T' h' X' e' W' V').on st
theorem o_stC (X : Stand p l e R s m args below meth c T locs cells slots) (hx : p.tables.exec = Jvm.exec) (hZ : Z.Warmed39 s.vm) (eT : T.heap = h) {a : Addr} {kc : ClassId} {z : Int32} {vs : List Value} {dv : Value} (A : Arv Z h a kc .char z vs dv) {j : Int32} {x : Int32} {i : Nat} (hj : ¬ j < 0 ∧ j < z) (hi : j.toNatClampNeg = i) (hv : i < vs.length) (hd : decode c.code pc = .ok (.castore, 1)) (hp : pc + 1 = pc')
    (kk : ∀ T' h', Stand p l e R s m args below meth c T' (locs ++ [⟨a, i⟩]) cells slots → T'.heap = h' → Wr h h' a i (.int (nar .char x)) → Arv Z h' a kc .char z (vs.set i (.int (nar .char x))) dv → Goes p.tables e below P (T'.setTop (mkF m pc' L S))) : Goes p.tables e below P (T.setTop (mkF m pc L ((.int x) :: .int j :: .ref a :: S))) := by
  subst hp
  obtain ⟨cl, A1, q1, S1, N1, H1, G1⟩ := A
  obtain ⟨T', h', X', e', W', st⟩ := stC X hx hZ eT A1 (j := j) (x := x) (inb_of S1 hj) (g := mkF m pc L ((.int x) :: .int j :: .ref a :: S)) rfl rfl hd
  have V' := Arv.set A1 q1 S1 N1 H1 G1 (fits_nar_char _) W' i hi hv
  rw [hi] at X' W'
  exact (kk T' h' X' e' W' V').on st
theorem o_stB (X : Stand p l e R s m args below meth c T locs cells slots) (hx : p.tables.exec = Jvm.exec) (hZ : Z.Warmed39 s.vm) (eT : T.heap = h) {a : Addr} {kc : ClassId} {z : Int32} {vs : List Value} {dv : Value} (A : Arv Z h a kc .byte z vs dv) {j : Int32} {x : Int32} {i : Nat} (hj : ¬ j < 0 ∧ j < z) (hi : j.toNatClampNeg = i) (hv : i < vs.length) (hd : decode c.code pc = .ok (.bastore, 1)) (hp : pc + 1 = pc')
    (kk : ∀ T' h', Stand p l e R s m args below meth c T' (locs ++ [⟨a, i⟩]) cells slots → T'.heap = h' → Wr h h' a i (.int (nar .byte x)) → Arv Z h' a kc .byte z (vs.set i (.int (nar .byte x))) dv → Goes p.tables e below P (T'.setTop (mkF m pc' L S))) : Goes p.tables e below P (T.setTop (mkF m pc L ((.int x) :: .int j :: .ref a :: S))) := by
  subst hp
  obtain ⟨cl, A1, q1, S1, N1, H1, G1⟩ := A
  obtain ⟨T', h', X', e', W', st⟩ := stB X hx hZ eT A1 (j := j) (x := x) (inb_of S1 hj) (g := mkF m pc L ((.int x) :: .int j :: .ref a :: S)) rfl rfl hd
  have V' := Arv.set A1 q1 S1 N1 H1 G1 (fits_nar_byte _) W' i hi hv
  rw [hi] at X' W'
  exact (kk T' h' X' e' W' V').on st
theorem o_stZ (X : Stand p l e R s m args below meth c T locs cells slots) (hx : p.tables.exec = Jvm.exec) (hZ : Z.Warmed39 s.vm) (eT : T.heap = h) {a : Addr} {kc : ClassId} {z : Int32} {vs : List Value} {dv : Value} (A : Arv Z h a kc .boolean z vs dv) {j : Int32} {x : Int32} {i : Nat} (hj : ¬ j < 0 ∧ j < z) (hi : j.toNatClampNeg = i) (hv : i < vs.length) (hd : decode c.code pc = .ok (.bastore, 1)) (hp : pc + 1 = pc')
    (kk : ∀ T' h', Stand p l e R s m args below meth c T' (locs ++ [⟨a, i⟩]) cells slots → T'.heap = h' → Wr h h' a i (.int (nar .boolean x)) → Arv Z h' a kc .boolean z (vs.set i (.int (nar .boolean x))) dv → Goes p.tables e below P (T'.setTop (mkF m pc' L S))) : Goes p.tables e below P (T.setTop (mkF m pc L ((.int x) :: .int j :: .ref a :: S))) := by
  subst hp
  obtain ⟨cl, A1, q1, S1, N1, H1, G1⟩ := A
  obtain ⟨T', h', X', e', W', st⟩ := stZ X hx hZ eT A1 (j := j) (x := x) (inb_of S1 hj) (g := mkF m pc L ((.int x) :: .int j :: .ref a :: S)) rfl rfl hd
  have V' := Arv.set A1 q1 S1 N1 H1 G1 (fits_nar_bool _) W' i hi hv
  rw [hi] at X' W'
  exact (kk T' h' X' e' W' V').on st
theorem o_stD (X : Stand p l e R s m args below meth c T locs cells slots) (hx : p.tables.exec = Jvm.exec) (hZ : Z.Warmed39 s.vm) (eT : T.heap = h) {a : Addr} {kc : ClassId} {z : Int32} {vs : List Value} {dv : Value} (A : Arv Z h a kc .double z vs dv) {j : Int32} {x : UInt64} {i : Nat} (hj : ¬ j < 0 ∧ j < z) (hi : j.toNatClampNeg = i) (hv : i < vs.length) (hd : decode c.code pc = .ok (.dastore, 1)) (hp : pc + 1 = pc')
    (kk : ∀ T' h', Stand p l e R s m args below meth c T' (locs ++ [⟨a, i⟩]) cells slots → T'.heap = h' → Wr h h' a i (.double x) → Arv Z h' a kc .double z (vs.set i (.double x)) dv → Goes p.tables e below P (T'.setTop (mkF m pc' L S))) : Goes p.tables e below P (T.setTop (mkF m pc L ((.double x) :: .int j :: .ref a :: S))) := by
  subst hp
  obtain ⟨cl, A1, q1, S1, N1, H1, G1⟩ := A
  obtain ⟨T', h', X', e', W', st⟩ := stD X hx hZ eT A1 (j := j) (x := x) (inb_of S1 hj) (g := mkF m pc L ((.double x) :: .int j :: .ref a :: S)) rfl rfl hd
  have V' := Arv.set A1 q1 S1 N1 H1 G1 (rfl) W' i hi hv
  rw [hi] at X' W'
  exact (kk T' h' X' e' W' V').on st
theorem o_castY (X : Stand p l e R s m args below meth c T locs cells slots) (hx : p.tables.exec = Jvm.exec) (hZ : Z.Warmed39 s.vm) {own K : String} {index : Nat} (hown : s.vm.findClass own = some m.cls) (w : (Cond.classLink own index K).before a0 Z = true) (eT : T.heap = h) {a : Addr} (F : Ins Z h a K true) (hd : decode c.code pc = .ok (.checkcast index, 3)) (hp : pc + 3 = pc')
    (kk : ∀ T', Stand p l e R s m args below meth c T' locs cells slots → T'.heap = h → Goes p.tables e below P (T'.setTop (mkF m pc' L (.ref a :: S)))) : Goes p.tables e below P (T.setTop (mkF m pc L (.ref a :: S))) := by
  subst hp
  obtain ⟨T', X', e', st⟩ := castY X hx hZ hown w eT F (g := mkF m pc L (.ref a :: S)) rfl rfl hd
  exact (kk T' X' e').on st
theorem o_instY (X : Stand p l e R s m args below meth c T locs cells slots) (hx : p.tables.exec = Jvm.exec) (hZ : Z.Warmed39 s.vm) {own K : String} {index : Nat} (hown : s.vm.findClass own = some m.cls) (w : (Cond.classLink own index K).before a0 Z = true) (eT : T.heap = h) {a : Addr} (F : Ins Z h a K true) (hd : decode c.code pc = .ok (.instanceof index, 3)) (hp : pc + 3 = pc')
    (kk : ∀ T', Stand p l e R s m args below meth c T' locs cells slots → T'.heap = h → Goes p.tables e below P (T'.setTop (mkF m pc' L (.int 1 :: S)))) : Goes p.tables e below P (T.setTop (mkF m pc L (.ref a :: S))) := by
  subst hp
  obtain ⟨T', X', e', st⟩ := instY X hx hZ hown w eT F (g := mkF m pc L (.ref a :: S)) rfl rfl hd
  exact (kk T' X' e').on st
theorem o_instNo (X : Stand p l e R s m args below meth c T locs cells slots) (hx : p.tables.exec = Jvm.exec) (hZ : Z.Warmed39 s.vm) {own K C : String} {index : Nat} (hown : s.vm.findClass own = some m.cls) (w : (Cond.classLink own index K).before a0 Z = true) (eT : T.heap = h) {a : Addr} (E : Exa Z h a C) (F : ∃ c t, Z.vm.findClass C = some c ∧ Z.vm.findClass K = some t ∧ Z.vm.assignable c t = false) (hd : decode c.code pc = .ok (.instanceof index, 3)) (hp : pc + 3 = pc')
    (kk : ∀ T', Stand p l e R s m args below meth c T' locs cells slots → T'.heap = h → Goes p.tables e below P (T'.setTop (mkF m pc' L (.int 0 :: S)))) : Goes p.tables e below P (T.setTop (mkF m pc L (.ref a :: S))) := by
  subst hp
  obtain ⟨T', X', e', st⟩ := instNo X hx hZ hown w eT E F (g := mkF m pc L (.ref a :: S)) rfl rfl hd
  exact (kk T' X' e').on st
theorem o_static (X : Stand p l e R s m args below meth c T locs cells slots) (hx : p.tables.exec = Jvm.exec) (hZ : Z.Warmed39 s.vm) {own : String} {index : Nat} {y : MethodName} {bytes : ByteArray} {maxL : Nat} {ret : Option FieldType} (hown : s.vm.findClass own = some m.cls) (w1 : (Cond.methodLink own index y).before a0 Z = true) (w2 : (Cond.static y).before a0 Z = true) (hy : y.cls ≠ "java/lang/invoke/MethodHandle" ∧ y.cls ≠ "java/lang/invoke/VarHandle") {rm : Room} {as' : Array Value} {Q : Option Value → Heap → List Loc → Prop} (hM : Met l Z y bytes maxL ret rm [] as' h Q) (hwc : (Cond.code y bytes maxL ret).before a0 Z = true) (hwi : (Cond.initialized y.cls).before a0 Z = true) (eT : T.heap = h) (hsize : L.size = c.maxLocals) {argsL rest : List Value} {W : Nat} {ps : List FieldType} {rr : Option FieldType} (hpd : parseMethodDescriptor y.desc = some ⟨ps, rr⟩) (hlen : argsL.length = ps.length) (hst : S = argsL.reverse ++ rest) (has : as' = (argsL).toArray) (hW : (rest.map fun v => v.category).sum = W) (hd : decode c.code pc = .ok (.invokestatic index, 3)) (hf : rm.frames + 1 ≤ R.frames) (hlo : W + (maxL + 11) + rm.locals ≤ R.locals) (hc : cells + rm.cells ≤ R.cells) (hs : slots + rm.slots ≤ R.slots) (hc' : cells + rm.cells = cells') (hs' : slots + rm.slots = slots') (hp : pc + 3 = pc')
    (kk : ∀ v T' h' Lc, Stand p l e R s m args below meth c T' (locs ++ Lc) cells' slots' → T'.heap = h' → Q v h' Lc → Goes p.tables e below P (T'.setTop (mkF m pc' L (v.toList ++ rest)))) : Goes p.tables e below P (T.setTop (mkF m pc L S)) := by
  subst hp hc' hs' hst has
  obtain ⟨_, _, ⟨T1, L1, k1, n1⟩, -, X1, ⟨Lc, hQ, l1, y1, z1⟩, st⟩ := Jvm.LawKit.callS X hx hown (mvT hZ w1) (mvT hZ w2) (mvT hZ hwi) (mvT hZ hwc) hy (backOf (W := W) hM hZ hwc hwi hf hlo) (g := mkF m pc L (argsL.reverse ++ rest)) rfl hsize (argsL := argsL) (rest := rest) (lenOf hpd hlen) rfl (by rw [← hW]; show 2 * 0 + _ ≤ _; omega) hd (fun _ _ => ⟨rfl, eT, hc, hs⟩)
  dsimp only [Pt.U, Pt.locs, Pt.cells, Pt.slots] at X1 l1 y1 z1 st hQ
  subst l1 y1 z1
  exact (kk _ _ _ _ X1 rfl hQ).on st
theorem o_special (X : Stand p l e R s m args below meth c T locs cells slots) (hx : p.tables.exec = Jvm.exec) (hZ : Z.Warmed39 s.vm) {own : String} {index : Nat} {y : MethodName} {bytes : ByteArray} {maxL : Nat} {ret : Option FieldType} (hr : ret = none) (hy1 : y.name = "<init>") (hown : s.vm.findClass own = some m.cls) (w1 : (Cond.methodLink own index y).before a0 Z = true) (w2 : (Cond.instanceMethod y).before a0 Z = true) (hy : y.cls ≠ "java/lang/invoke/MethodHandle" ∧ y.cls ≠ "java/lang/invoke/VarHandle") {a : Addr} {rm : Room} {as' : Array Value} {Q : Option Value → Heap → List Loc → Prop} (hM : Met l Z y bytes maxL ret rm [] as' h Q) (hwc : (Cond.code y bytes maxL ret).before a0 Z = true) (hwi : (Cond.initialized y.cls).before a0 Z = true) (eT : T.heap = h) (hsize : L.size = c.maxLocals) {argsL rest : List Value} {W : Nat} {ps : List FieldType} {rr : Option FieldType} (hpd : parseMethodDescriptor y.desc = some ⟨ps, rr⟩) (hlen : argsL.length = ps.length) (hst : S = argsL.reverse ++ .ref a :: rest) (has : as' = (.ref a :: argsL).toArray) (hW : (rest.map fun v => v.category).sum = W) (hd : decode c.code pc = .ok (.invokespecial index, 3)) (hf : rm.frames + 1 ≤ R.frames) (hlo : W + (maxL + 11) + rm.locals ≤ R.locals) (hc : cells + rm.cells ≤ R.cells) (hs : slots + rm.slots ≤ R.slots) (hc' : cells + rm.cells = cells') (hs' : slots + rm.slots = slots') (hp : pc + 3 = pc')
    (kk : ∀ v T' h' Lc, Stand p l e R s m args below meth c T' (locs ++ Lc) cells' slots' → T'.heap = h' → Q v h' Lc → Goes p.tables e below P (T'.setTop (mkF m pc' L (v.toList ++ rest)))) : Goes p.tables e below P (T.setTop (mkF m pc L S)) := by
  subst hp hc' hs' hst has hr
  obtain ⟨_, _, ⟨T1, L1, k1, n1⟩, -, X1, ⟨Lc, hQ, l1, y1, z1⟩, st⟩ := X.specialBack hx hy1 hown (mvT hZ w1) (mvT hZ w2) (mvT hZ hwc) hy (backOf (W := W) hM hZ hwc hwi hf hlo) (g := mkF m pc L (argsL.reverse ++ .ref a :: rest)) rfl hsize (Steps.refl _) (a := a) (argsL := argsL) (rest := rest) (lenOf hpd hlen) rfl (by rw [← hW]; show 2 * 0 + _ ≤ _; omega) hd (fun _ _ => ⟨rfl, eT, hc, hs⟩)
  dsimp only [Pt.U, Pt.locs, Pt.cells, Pt.slots] at X1 l1 y1 z1 st hQ
  subst l1 y1 z1
  exact (kk _ _ _ _ X1 rfl hQ).to st
theorem o_virtual (X : Stand p l e R s m args below meth c T locs cells slots) (hx : p.tables.exec = Jvm.exec) (hZ : Z.Warmed39 s.vm) {own C : String} {index : Nat} {y z : MethodName} {bytes : ByteArray} {maxL : Nat} {ret : Option FieldType} (hown : s.vm.findClass own = some m.cls) (w1 : (Cond.methodLink own index y).before a0 Z = true) (w2 : (Cond.declares y).before a0 Z = true) (hnf : NotFace s y) (w3 : (Cond.selects C y z).before a0 Z = true) (w4 : (Cond.instanceMethod z).before a0 Z = true) (hy : y.cls ≠ "java/lang/invoke/MethodHandle" ∧ y.cls ≠ "java/lang/invoke/VarHandle") {a : Addr} (E : Exa Z h a C) {rm : Room} {as' : Array Value} {Q : Option Value → Heap → List Loc → Prop} (hM : Met l Z z bytes maxL ret rm [] as' h Q) (hwc : (Cond.code z bytes maxL ret).before a0 Z = true) (hwi : (Cond.initialized z.cls).before a0 Z = true) (eT : T.heap = h) (hsize : L.size = c.maxLocals) {argsL rest : List Value} {W : Nat} {ps : List FieldType} {rr : Option FieldType} (hpd : parseMethodDescriptor y.desc = some ⟨ps, rr⟩) (hlen : argsL.length = ps.length) (hst : S = argsL.reverse ++ .ref a :: rest) (has : as' = (.ref a :: argsL).toArray) (hW : (rest.map fun v => v.category).sum = W) (hd : decode c.code pc = .ok (.invokevirtual index, 3)) (hf : rm.frames + 1 ≤ R.frames) (hlo : W + (maxL + 11) + rm.locals ≤ R.locals) (hc : cells + rm.cells ≤ R.cells) (hs : slots + rm.slots ≤ R.slots) (hc' : cells + rm.cells = cells') (hs' : slots + rm.slots = slots') (hp : pc + 3 = pc')
    (kk : ∀ v T' h' Lc, Stand p l e R s m args below meth c T' (locs ++ Lc) cells' slots' → T'.heap = h' → Q v h' Lc → Goes p.tables e below P (T'.setTop (mkF m pc' L (v.toList ++ rest)))) : Goes p.tables e below P (T.setTop (mkF m pc L S)) := by
  subst hp hc' hs' hst has
  obtain ⟨cq, kq, qa, qb, qc⟩ := isOf (T := T) hZ eT E
  obtain ⟨_, _, ⟨T1, L1, k1, n1⟩, -, X1, ⟨Lc, hQ, l1, y1, z1⟩, st⟩ := X.virtualBack hx hown (mvT hZ w1) (mvT hZ w2) hnf (mvT hZ w3) (mvT hZ w4) hy (backOf (W := W) hM hZ hwc hwi hf hlo) qa qc (g := mkF m pc L (argsL.reverse ++ .ref a :: rest)) rfl hsize (Steps.refl _) (argsL := argsL) (rest := rest) (lenOf hpd hlen) rfl (by rw [← hW]; show 2 * 0 + _ ≤ _; omega) hd (fun _ _ => ⟨rfl, eT, hc, hs⟩)
  dsimp only [Pt.U, Pt.locs, Pt.cells, Pt.slots] at X1 l1 y1 z1 st hQ
  subst l1 y1 z1
  exact (kk _ _ _ _ X1 rfl hQ).to st
theorem o_iface (X : Stand p l e R s m args below meth c T locs cells slots) (hx : p.tables.exec = Jvm.exec) (hZ : Z.Warmed39 s.vm) {own C : String} {index count : Nat} {xi y : MethodName} {bytes : ByteArray} {maxL : Nat} {ret : Option FieldType} (hown : s.vm.findClass own = some m.cls) (w1 : (Cond.methodLink own index xi).before a0 Z = true) (w2 : (Cond.declares xi).before a0 Z = true) (w3 : (Cond.interfaceMethod xi.cls xi.cls xi.name xi.desc).before args s = true) (w4 : (Cond.selects C xi y).before a0 Z = true) (w5 : (Cond.instanceMethod y).before a0 Z = true) (w6 : (Cond.publicMethod y).before a0 Z = true) (w7 : (Cond.unhidden C xi.name xi.desc).before a0 Z = true) (w8 : (Cond.castable C xi.cls).before a0 Z = true) (hy : xi.cls ≠ "java/lang/invoke/MethodHandle" ∧ xi.cls ≠ "java/lang/invoke/VarHandle") {a : Addr} (E : Exa Z h a C) {rm : Room} {as' : Array Value} {Q : Option Value → Heap → List Loc → Prop} (hM : Met l Z y bytes maxL ret rm [] as' h Q) (hwc : (Cond.code y bytes maxL ret).before a0 Z = true) (hwi : (Cond.initialized y.cls).before a0 Z = true) (eT : T.heap = h) (hsize : L.size = c.maxLocals) {argsL rest : List Value} {W : Nat} {ps : List FieldType} {rr : Option FieldType} (hpd : parseMethodDescriptor xi.desc = some ⟨ps, rr⟩) (hlen : argsL.length = ps.length) (hst : S = argsL.reverse ++ .ref a :: rest) (has : as' = (.ref a :: argsL).toArray) (hW : (rest.map fun v => v.category).sum = W) (hd : decode c.code pc = .ok (.invokeinterface index count, 5)) (hf : rm.frames + 1 ≤ R.frames) (hlo : W + (maxL + 11) + rm.locals ≤ R.locals) (hc : cells + rm.cells ≤ R.cells) (hs : slots + rm.slots ≤ R.slots) (hc' : cells + rm.cells = cells') (hs' : slots + rm.slots = slots') (hp : pc + 5 = pc')
    (kk : ∀ v T' h' Lc, Stand p l e R s m args below meth c T' (locs ++ Lc) cells' slots' → T'.heap = h' → Q v h' Lc → Goes p.tables e below P (T'.setTop (mkF m pc' L (v.toList ++ rest)))) : Goes p.tables e below P (T.setTop (mkF m pc L S)) := by
  subst hp hc' hs' hst has
  obtain ⟨cq, kq, qa, qb, qc⟩ := isOf (T := T) hZ eT E
  obtain ⟨_, _, ⟨T1, L1, k1, n1⟩, -, X1, ⟨Lc, hQ, l1, y1, z1⟩, st⟩ := X.interfaceBack hx hown (mvT hZ w1) (mvT hZ w2) w3 (mvT hZ w4) (mvT hZ w5) (mvT hZ w6) (mvT hZ w7) (mvT hZ w8) hy (backOf (W := W) hM hZ hwc hwi hf hlo) qa qb qc (g := mkF m pc L (argsL.reverse ++ .ref a :: rest)) rfl hsize (Steps.refl _) (argsL := argsL) (rest := rest) (lenOf hpd hlen) rfl (by rw [← hW]; show 2 * 0 + _ ≤ _; omega) hd (fun _ _ => ⟨rfl, eT, hc, hs⟩)
  dsimp only [Pt.U, Pt.locs, Pt.cells, Pt.slots] at X1 l1 y1 z1 st hQ
  subst l1 y1 z1
  exact (kk _ _ _ _ X1 rfl hQ).to st
theorem o_virtualUp (X : Stand p l e R s m args below meth c T locs cells slots) (hx : p.tables.exec = Jvm.exec) (hZ : Z.Warmed39 s.vm) {own C owner : String} {index : Nat} {x y : MethodName} {bytes : ByteArray} {maxL : Nat} {ret : Option FieldType} (hown : s.vm.findClass own = some m.cls) (w1 : (Cond.methodLink own index x).before a0 Z = true) (w2 : (Cond.sameMethod x.cls owner x.name x.desc).before a0 Z = true) (w2' : (Cond.declares ⟨owner, x.name, x.desc⟩).before a0 Z = true) (w3 : (Cond.selects C x y).before a0 Z = true) (w4 : (Cond.instanceMethod y).before a0 Z = true) (hy : owner ≠ "java/lang/invoke/MethodHandle" ∧ owner ≠ "java/lang/invoke/VarHandle") {a : Addr} (E : Exa Z h a C) {rm : Room} {as' : Array Value} {Q : Option Value → Heap → List Loc → Prop} (hM : Met l Z y bytes maxL ret rm [] as' h Q) (hwc : (Cond.code y bytes maxL ret).before a0 Z = true) (hwi : (Cond.initialized y.cls).before a0 Z = true) (eT : T.heap = h) (hsize : L.size = c.maxLocals) {argsL rest : List Value} {W : Nat} {ps : List FieldType} {rr : Option FieldType} (hpd : parseMethodDescriptor x.desc = some ⟨ps, rr⟩) (hlen : argsL.length = ps.length) (hst : S = argsL.reverse ++ .ref a :: rest) (has : as' = (.ref a :: argsL).toArray) (hW : (rest.map fun v => v.category).sum = W) (hd : decode c.code pc = .ok (.invokevirtual index, 3)) (hf : rm.frames + 1 ≤ R.frames) (hlo : W + (maxL + 11) + rm.locals ≤ R.locals) (hc : cells + rm.cells ≤ R.cells) (hs : slots + rm.slots ≤ R.slots) (hc' : cells + rm.cells = cells') (hs' : slots + rm.slots = slots') (hp : pc + 3 = pc')
    (kk : ∀ v T' h' Lc, Stand p l e R s m args below meth c T' (locs ++ Lc) cells' slots' → T'.heap = h' → Q v h' Lc → Goes p.tables e below P (T'.setTop (mkF m pc' L (v.toList ++ rest)))) : Goes p.tables e below P (T.setTop (mkF m pc L S)) := by
  subst hp hc' hs' hst has
  obtain ⟨cq, kq, qa, qb, qc⟩ := isOf (T := T) hZ eT E
  obtain ⟨_, _, ⟨T1, L1, k1, n1⟩, -, X1, ⟨Lc, hQ, l1, y1, z1⟩, st⟩ := X.virtualBackUp hx hown (mvT hZ w1) (mvT hZ w2) (mvT hZ w2') hy (mvT hZ w3) (mvT hZ w4) (backOf (W := W) hM hZ hwc hwi hf hlo) qa qc (g := mkF m pc L (argsL.reverse ++ .ref a :: rest)) rfl hsize (Steps.refl _) (argsL := argsL) (rest := rest) (lenOf hpd hlen) rfl (by rw [← hW]; show 2 * 0 + _ ≤ _; omega) hd (fun _ _ => ⟨rfl, eT, hc, hs⟩)
  dsimp only [Pt.U, Pt.locs, Pt.cells, Pt.slots] at X1 l1 y1 z1 st hQ
  subst l1 y1 z1
  exact (kk _ _ _ _ X1 rfl hQ).to st
theorem o_alen (X : Stand p l e R s m args below meth c T locs cells slots) (hx : p.tables.exec = Jvm.exec) (hZ : Z.Warmed39 s.vm) (eT : T.heap = h) {a : Addr} {kc : ClassId} {ty : FieldType} {z : Int32} {vs : List Value} {dv : Value} (A : Arv Z h a kc ty z vs dv) (hd : decode c.code pc = .ok (.arraylength, 1)) (hp : pc + 1 = pc') (kk : Goes p.tables e below P (T.setTop (mkF m pc' L (.int z :: S)))) : Goes p.tables e below P (T.setTop (mkF m pc L (.ref a :: S))) := by
  subst hp
  obtain ⟨cl, A1, q1, S1, N1, H1, G1⟩ := A
  rw [← len_of S1 N1] at kk
  exact kk.on fun _ k => X.arraylength hx (by rw [eT]; exact A1.1) (State.isArrayOf_alike hZ.alike A1.2.1) (g := mkF m pc L (.ref a :: S)) rfl rfl hd _ k
theorem o_iaload (X : Stand p l e R s m args below meth c T locs cells slots) (hx : p.tables.exec = Jvm.exec) (hZ : Z.Warmed39 s.vm) (eT : T.heap = h) {a : Addr} {kc : ClassId} {z : Int32} {vs : List Value} {dv v : Value} (A : Arv Z h a kc .int z vs dv) {j : Int32} (hj : ¬ j < 0 ∧ j < z) (hv : vs.getD j.toNatClampNeg dv = v) (hd : decode c.code pc = .ok (.iaload, 1)) (hp : pc + 1 = pc') (kk : Goes p.tables e below P (T.setTop (mkF m pc' L (v :: S)))) : Goes p.tables e below P (T.setTop (mkF m pc L (.int j :: .ref a :: S))) := by
  subst hp
  obtain ⟨cl, A1, q1, S1, N1, H1, G1⟩ := A
  have hin := inb_of S1 hj
  exact kk.on fun _ k => X.iaload hx (j := j) (v := v) (by rw [eT]; exact A1.1) (State.isArrayOf_alike hZ.alike A1.2.1) A1.2.2 hin (H1.at hin hv) (g := mkF m pc L (.int j :: .ref a :: S)) rfl rfl hd _ k
theorem o_laload (X : Stand p l e R s m args below meth c T locs cells slots) (hx : p.tables.exec = Jvm.exec) (hZ : Z.Warmed39 s.vm) (eT : T.heap = h) {a : Addr} {kc : ClassId} {z : Int32} {vs : List Value} {dv v : Value} (A : Arv Z h a kc .long z vs dv) {j : Int32} (hj : ¬ j < 0 ∧ j < z) (hv : vs.getD j.toNatClampNeg dv = v) (hd : decode c.code pc = .ok (.laload, 1)) (hp : pc + 1 = pc') (kk : Goes p.tables e below P (T.setTop (mkF m pc' L (v :: S)))) : Goes p.tables e below P (T.setTop (mkF m pc L (.int j :: .ref a :: S))) := by
  subst hp
  obtain ⟨cl, A1, q1, S1, N1, H1, G1⟩ := A
  have hin := inb_of S1 hj
  exact kk.on fun _ k => X.laload hx (j := j) (v := v) (by rw [eT]; exact A1.1) (State.isArrayOf_alike hZ.alike A1.2.1) A1.2.2 hin (H1.at hin hv) (g := mkF m pc L (.int j :: .ref a :: S)) rfl rfl hd _ k
theorem o_caload (X : Stand p l e R s m args below meth c T locs cells slots) (hx : p.tables.exec = Jvm.exec) (hZ : Z.Warmed39 s.vm) (eT : T.heap = h) {a : Addr} {kc : ClassId} {z : Int32} {vs : List Value} {dv v : Value} (A : Arv Z h a kc .char z vs dv) {j : Int32} (hj : ¬ j < 0 ∧ j < z) (hv : vs.getD j.toNatClampNeg dv = v) (hd : decode c.code pc = .ok (.caload, 1)) (hp : pc + 1 = pc') (kk : Goes p.tables e below P (T.setTop (mkF m pc' L (v :: S)))) : Goes p.tables e below P (T.setTop (mkF m pc L (.int j :: .ref a :: S))) := by
  subst hp
  obtain ⟨cl, A1, q1, S1, N1, H1, G1⟩ := A
  have hin := inb_of S1 hj
  exact kk.on fun _ k => X.caload hx (j := j) (v := v) (by rw [eT]; exact A1.1) (State.isArrayOf_alike hZ.alike A1.2.1) A1.2.2 hin (H1.at hin hv) (g := mkF m pc L (.int j :: .ref a :: S)) rfl rfl hd _ k
theorem o_baloadBytes (X : Stand p l e R s m args below meth c T locs cells slots) (hx : p.tables.exec = Jvm.exec) (hZ : Z.Warmed39 s.vm) (eT : T.heap = h) {a : Addr} {kc : ClassId} {z : Int32} {vs : List Value} {dv v : Value} (A : Arv Z h a kc .byte z vs dv) {j : Int32} (hj : ¬ j < 0 ∧ j < z) (hv : vs.getD j.toNatClampNeg dv = v) (hd : decode c.code pc = .ok (.baload, 1)) (hp : pc + 1 = pc') (kk : Goes p.tables e below P (T.setTop (mkF m pc' L (v :: S)))) : Goes p.tables e below P (T.setTop (mkF m pc L (.int j :: .ref a :: S))) := by
  subst hp
  obtain ⟨cl, A1, q1, S1, N1, H1, G1⟩ := A
  have hin := inb_of S1 hj
  exact kk.on fun _ k => X.baloadBytes hx (j := j) (v := v) (by rw [eT]; exact A1.1) (State.isArrayOf_alike hZ.alike A1.2.1) A1.2.2 hin (H1.at hin hv) (g := mkF m pc L (.int j :: .ref a :: S)) rfl rfl hd _ k
theorem o_daload (X : Stand p l e R s m args below meth c T locs cells slots) (hx : p.tables.exec = Jvm.exec) (hZ : Z.Warmed39 s.vm) (eT : T.heap = h) {a : Addr} {kc : ClassId} {z : Int32} {vs : List Value} {dv v : Value} (A : Arv Z h a kc .double z vs dv) {j : Int32} (hj : ¬ j < 0 ∧ j < z) (hv : vs.getD j.toNatClampNeg dv = v) (hd : decode c.code pc = .ok (.daload, 1)) (hp : pc + 1 = pc') (kk : Goes p.tables e below P (T.setTop (mkF m pc' L (v :: S)))) : Goes p.tables e below P (T.setTop (mkF m pc L (.int j :: .ref a :: S))) := by
  subst hp
  obtain ⟨cl, A1, q1, S1, N1, H1, G1⟩ := A
  have hin := inb_of S1 hj
  exact kk.on fun _ k => X.daload hx (j := j) (v := v) (by rw [eT]; exact A1.1) (State.isArrayOf_alike hZ.alike A1.2.1) A1.2.2 hin (H1.at hin hv) (g := mkF m pc L (.int j :: .ref a :: S)) rfl rfl hd _ k
end Own
def EndsW (s : State) (Q : Option Value → Heap → List Loc → Prop) (C S : Nat) (o : Outcome) (U : State) : Prop := ∃ v L, o = .returned v ∧ Q v U.heap L ∧ ReturnedEndW s o U L C S
def MetW (l : Launch) (Z : State) (y : MethodName) (bytes : ByteArray) (maxL : Nat) (ret : Option FieldType) (rm : Room) (ws : List Jvm.Cond) (as' : Array Value) (h0 : Heap) (Q : Option Value → Heap → List Loc → Prop) : Prop :=
  MetFree l y (head1 (Jvm.Cond.code y bytes maxL ret :: ws) rm) (fun a U => a = as' ∧ Z.Warmed39 U.vm ∧ U.heap = h0) (fun _ _ _ _ _ => True) (fun _ U o U' => ∃ v L, o = .returned v ∧ Q v U'.heap L ∧ ReturnedEndW U o U' L rm.cells rm.slots)
/-- the walk's base: the start, its tables warmer -/
def Base (s s' : State) (h : Heap) : Prop := ∃ vm k, s' = s.setVm vm ∧ s.Since vm k ∧ k ≤ h.size
theorem Base.start (s : State) (h : Heap) : Base s s h := ⟨s.vm, 0, (State.setVm_self s).symm, (State.WarmedH.refl s).since 0, Nat.zero_le _⟩
theorem Base.up {s s' : State} {h h' : Heap} (B : Base s s' h) (q : h.size ≤ h'.size) : Base s s' h' := by
  obtain ⟨vm, k, a, b, c⟩ := B
  exact ⟨vm, k, a, b, Nat.le_trans c q⟩
section Wide
variable {p : Program} {l : Launch} {e : Env} {R : Room} {s s' : State} {m : MethodId} {args : Array Value} {below : List Frame} {meth : Method} {c : Code} {T : State} {locs : List Loc} {cells slots cells' slots' : Nat} {Z : State} {a0 : Array Value} {h : Heap} {P : Outcome → State → Prop} {pc pc' : Nat} {L L' : Array Slot} {S : List Value}
theorem metW_of {y : MethodName} {bytes : ByteArray} {maxL : Nat} {ret : Option FieldType} {rm : Room} {ws : List Jvm.Cond} {as' : Array Value} {h0 : Heap} {Q : Option Value → Heap → List Loc → Prop} {L0 : Array Slot}
    (hpn : plainFor y = true) (hef : ∀ m, entryFrame m as' maxL = mkF m 0 L0 [])
    (body : ∀ (p : Program) (e : Env) (s : State) (m : MethodId) (below : List Frame) (meth : Method) (c : Code) (T : State), p.tables.exec = Jvm.exec → c.code = bytes → c.maxLocals = maxL → s.vm.findClass y.cls = some m.cls → meth.name = y.name → meth.sig.returnType = ret → meth.locks = false → Z.Warmed39 s.vm → Stand p l e rm s m as' below meth c T [] 0 0 → T.heap = h0 → Goes p.tables e below (EndsW s Q rm.cells rm.slots) (T.setTop (mkF m 0 L0 []))) :
    MetW l Z y bytes maxL ret rm ws as' h0 Q := by
  refine MetFree.of_bodySF hpn hisR ?_
  intro p e s m args below meth c s₁ Bd hml0 hP hK
  obtain ⟨rfl, hZ, hh⟩ := hP
  have e0 : s₁.heap = h0 := by rw [← hh, Bd.state]; rfl
  obtain ⟨s₂, o, h1, h2, h3, h4⟩ := body p e s m below meth c s₁ Bd.exec Bd.bytes hml0 (findClass_of_methodNamed Bd.named) (name_of_methodNamed Bd.named Bd.method).1 Bd.returns (BodyLoose.notSynchronized Bd) hZ (Stand.of_body Bd) e0
  exact ⟨s₂, o, castTop (hef m) h1, h2, h3, h4⟩
theorem o_retW (X : Stand p l e R s' m args below meth c T locs cells slots) (hx : p.tables.exec = Jvm.exec) (hlk : meth.locks = false) {w : Value} {t : FieldType} {i : Instr} {Q : Option Value → Heap → List Loc → Prop} {C Sl : Nat} (hret : meth.sig.returnType = some t) (hn : narrow t w = w)
    (hi : (i = .ireturn ∧ (t = .int ∨ t = .boolean ∨ t = .byte ∨ t = .char ∨ t = .short) ∧ ∃ z, w = .int z) ∨ (i = .lreturn ∧ t = .long ∧ ∃ z, w = .long z) ∨ (i = .dreturn ∧ t = .double ∧ ∃ z, w = .double z) ∨ (i = .freturn ∧ t = .float ∧ ∃ z, w = .float z) ∨ (i = .areturn ∧ t.isReference = true ∧ w.isRef = true))
    (hd : decode c.code pc = .ok (i, 1)) (hC : cells ≤ C) (hS : slots ≤ Sl) (eT : T.heap = h) (B : Base s s' h) (hq : Q (some w) h locs) : Goes p.tables e below (EndsW s Q C Sl) (T.setTop (mkF m pc L (w :: S))) := by
  subst eT
  obtain ⟨vm, k, rfl, hSi, hk⟩ := B
  obtain ⟨fs, hr, hrun, hended, hE⟩ := X.leaveW hSi hk (v := some w) (fun h => by rw [hret] at h; cases h) hlk
  exact ⟨_, _, retOut X hx hret hn hi hd hr, hrun, hended, _, _, rfl, hq, hE.1, hE.2.1, hE.2.2.1, hE.2.2.2.mono hC hS⟩
theorem o_retVW (X : Stand p l e R s' m args below meth c T locs cells slots) (hx : p.tables.exec = Jvm.exec) (hlk : meth.locks = false) {Q : Option Value → Heap → List Loc → Prop} {C Sl : Nat} (hret : meth.sig.returnType = none) (hd : decode c.code pc = .ok (.return_, 1)) (hC : cells ≤ C) (hS : slots ≤ Sl) (eT : T.heap = h) (B : Base s s' h) (hq : Q none h locs) :
    Goes p.tables e below (EndsW s Q C Sl) (T.setTop (mkF m pc L [])) := by
  subst eT
  obtain ⟨vm, k, rfl, hSi, hk⟩ := B
  obtain ⟨fs, hr, hrun, hended, hE⟩ := X.leaveW hSi hk (v := none) (fun _ => rfl) hlk
  exact ⟨_, _, X.returnOut hx hret hd hr, hrun, hended, _, _, rfl, hq, hE.1, hE.2.1, hE.2.2.1, hE.2.2.2.mono hC hS⟩
theorem o_ldcS (X : Stand p l e R s' m args below meth c T locs cells slots) (hx : p.tables.exec = Jvm.exec) (hZ : Z.Warmed39 s'.vm) {own text : String} {index : Nat} (hown : s'.vm.findClass own = some m.cls) (w : (Cond.stringLink own index text).before a0 Z = true) (wS : ∀ a ∈ Bundle.stringAtoms, a.before a0 Z = true) (eT : T.heap = h) (B : Base s s' h) (hd : decode c.code pc = .ok (.ldc index, 2)) {n : Nat} (hn : 4 * text.toList.length ≤ n) (hbig : n ≤ 536870912) (hc : cells + 2 ≤ R.cells) (hl : slots + (n + 4) ≤ R.slots) (hc' : cells + 2 = cells') (hs' : slots + (n + 4) = slots') (hp : pc + 2 = pc')
    (kk : ∀ s2 T' h' a, Stand p l e R s2 m args below meth c T' locs cells' slots' → T'.heap = h' → Ext h h' → Base s s2 h' → Z.Warmed39 s2.vm → s2.vm.findClass own = some m.cls → Goes p.tables e below P (T'.setTop (mkF m pc' L (.ref a :: S)))) : Goes p.tables e below P (T.setTop (mkF m pc L S)) := by
  subst hp hc' hs'
  obtain ⟨vm, k, rfl, hSi, hk⟩ := B
  obtain ⟨a, T', h', k1, X', e', E', hS', hk', hZ', ho', st⟩ := ldcS X hx hZ hown w wS eT hSi hk (g := mkF m pc L S) rfl hd hn hbig hc hl
  exact (kk _ T' h' a X' e' E' ⟨_, _, rfl, hS', hk'⟩ hZ' ho').on st
theorem o_staticW (X : Stand p l e R s' m args below meth c T locs cells slots) (hx : p.tables.exec = Jvm.exec) (hZ : Z.Warmed39 s'.vm) {own : String} {index : Nat} {y : MethodName} {bytes : ByteArray} {maxL : Nat} {ret : Option FieldType} (hown : s'.vm.findClass own = some m.cls) (w1 : (Cond.methodLink own index y).before a0 Z = true) (w2 : (Cond.static y).before a0 Z = true) (hy : y.cls ≠ "java/lang/invoke/MethodHandle" ∧ y.cls ≠ "java/lang/invoke/VarHandle") {rm : Room} {as' : Array Value} {Q : Option Value → Heap → List Loc → Prop} (hM : MetW l Z y bytes maxL ret rm [] as' h Q) (hwc : (Cond.code y bytes maxL ret).before a0 Z = true) (hwi : (Cond.initialized y.cls).before a0 Z = true) (eT : T.heap = h) (B : Base s s' h) (hsize : L.size = c.maxLocals) {argsL rest : List Value} {W : Nat} {ps : List FieldType} {rr : Option FieldType} (hpd : parseMethodDescriptor y.desc = some ⟨ps, rr⟩) (hlen : argsL.length = ps.length) (hst : S = argsL.reverse ++ rest) (has : as' = (argsL).toArray) (hW : (rest.map fun v => v.category).sum = W) (hd : decode c.code pc = .ok (.invokestatic index, 3)) (hf : rm.frames + 1 ≤ R.frames) (hlo : W + (maxL + 11) + rm.locals ≤ R.locals) (hc : cells + rm.cells ≤ R.cells) (hs : slots + rm.slots ≤ R.slots) (hc' : cells + rm.cells = cells') (hs' : slots + rm.slots = slots') (hp : pc + 3 = pc')
    (kk : ∀ v s2 T' h' Lc, Stand p l e R s2 m args below meth c T' (locs ++ Lc) cells' slots' → T'.heap = h' → h.size ≤ h'.size → Base s s2 h' → Z.Warmed39 s2.vm → s2.vm.findClass own = some m.cls → Q v h' Lc → Goes p.tables e below P (T'.setTop (mkF m pc' L (v.toList ++ rest)))) : Goes p.tables e below P (T.setTop (mkF m pc L S)) := by
  subst hp hc' hs' hst has
  obtain ⟨vm, k, rfl, hSi, hk⟩ := B
  obtain ⟨v1, _, ⟨T1, L1, k1, n1⟩, -, X1, hS1, hg1, ⟨Lc, hQ, l1, y1, z1⟩, st⟩ := callSS X hx hown (mvT hZ w1) (mvT hZ w2) (mvT hZ hwi) (mvT hZ hwc) hy (backOfS (W := W) hM hZ hwc hwi hf hlo) (g := mkF m pc L (argsL.reverse ++ rest)) rfl hsize (argsL := argsL) (rest := rest) (lenOf hpd hlen) rfl (by rw [← hW]; show 2 * 0 + _ ≤ _; omega) hd (fun _ _ => ⟨rfl, eT, hc, hs⟩)
  dsimp only [Pt.U, Pt.locs, Pt.cells, Pt.slots] at X1 l1 y1 z1 st hQ hS1 hg1
  subst l1 y1 z1
  subst eT
  exact (kk v1 (s.setVm T1.vm) T1 _ Lc X1 rfl hg1 ⟨_, _, rfl, hSi.trans hS1 (Nat.le_trans hk hg1), Nat.le_refl _⟩ (State.Warmed39.trans (t := s.setVm vm) hZ hS1.1) (by rw [show (s.setVm T1.vm).vm = T1.vm from rfl, hS1.1.alike.findClass]; exact hown) hQ).to st
theorem o_specialW (X : Stand p l e R s' m args below meth c T locs cells slots) (hx : p.tables.exec = Jvm.exec) (hZ : Z.Warmed39 s'.vm) {own : String} {index : Nat} {y : MethodName} {bytes : ByteArray} {maxL : Nat} {ret : Option FieldType} (hr : ret = none) (hy1 : y.name = "<init>") (hown : s'.vm.findClass own = some m.cls) (w1 : (Cond.methodLink own index y).before a0 Z = true) (w2 : (Cond.instanceMethod y).before a0 Z = true) (hy : y.cls ≠ "java/lang/invoke/MethodHandle" ∧ y.cls ≠ "java/lang/invoke/VarHandle") {a : Addr} {rm : Room} {as' : Array Value} {Q : Option Value → Heap → List Loc → Prop} (hM : MetW l Z y bytes maxL ret rm [] as' h Q) (hwc : (Cond.code y bytes maxL ret).before a0 Z = true) (hwi : (Cond.initialized y.cls).before a0 Z = true) (eT : T.heap = h) (B : Base s s' h) (hsize : L.size = c.maxLocals) {argsL rest : List Value} {W : Nat} {ps : List FieldType} {rr : Option FieldType} (hpd : parseMethodDescriptor y.desc = some ⟨ps, rr⟩) (hlen : argsL.length = ps.length) (hst : S = argsL.reverse ++ .ref a :: rest) (has : as' = (.ref a :: argsL).toArray) (hW : (rest.map fun v => v.category).sum = W) (hd : decode c.code pc = .ok (.invokespecial index, 3)) (hf : rm.frames + 1 ≤ R.frames) (hlo : W + (maxL + 11) + rm.locals ≤ R.locals) (hc : cells + rm.cells ≤ R.cells) (hs : slots + rm.slots ≤ R.slots) (hc' : cells + rm.cells = cells') (hs' : slots + rm.slots = slots') (hp : pc + 3 = pc')
    (kk : ∀ v s2 T' h' Lc, Stand p l e R s2 m args below meth c T' (locs ++ Lc) cells' slots' → T'.heap = h' → h.size ≤ h'.size → Base s s2 h' → Z.Warmed39 s2.vm → s2.vm.findClass own = some m.cls → Q v h' Lc → Goes p.tables e below P (T'.setTop (mkF m pc' L (v.toList ++ rest)))) : Goes p.tables e below P (T.setTop (mkF m pc L S)) := by
  subst hp hc' hs' hst has hr
  obtain ⟨vm, k, rfl, hSi, hk⟩ := B
  obtain ⟨v1, _, ⟨T1, L1, k1, n1⟩, -, X1, hS1, hg1, ⟨Lc, hQ, l1, y1, z1⟩, st⟩ := X.specialBackS hx hy1 hown (mvT hZ w1) (mvT hZ w2) (mvT hZ hwc) hy (backOfS (W := W) hM hZ hwc hwi hf hlo) (g := mkF m pc L (argsL.reverse ++ .ref a :: rest)) rfl hsize (Steps.refl _) (a := a) (argsL := argsL) (rest := rest) (lenOf hpd hlen) rfl (by rw [← hW]; show 2 * 0 + _ ≤ _; omega) hd (fun _ _ => ⟨rfl, eT, hc, hs⟩)
  dsimp only [Pt.U, Pt.locs, Pt.cells, Pt.slots] at X1 l1 y1 z1 st hQ hS1 hg1
  subst l1 y1 z1
  subst eT
  exact (kk v1 (s.setVm T1.vm) T1 _ Lc X1 rfl hg1 ⟨_, _, rfl, hSi.trans hS1 (Nat.le_trans hk hg1), Nat.le_refl _⟩ (State.Warmed39.trans (t := s.setVm vm) hZ hS1.1) (by rw [show (s.setVm T1.vm).vm = T1.vm from rfl, hS1.1.alike.findClass]; exact hown) hQ).to st
end Wide
theorem own_sa {Z : State} {a0 : Array Value} (hw : ∀ d ∈ tables_1, d.before a0 Z = true) : ∀ d ∈ Bundle.stringAtoms, d.before a0 Z = true := fun d hd => hw d ((by decide +kernel : ∀ d ∈ Bundle.stringAtoms, d ∈ tables_1) d hd)
theorem own_c255 (x : Int32) : ¬ ((255 : Int32) < (((x &&& (255 : Int32)).toUInt32.toUInt16.toUInt32.toInt32))) := by
  have t : ∀ k : Fin 256, ¬ (255 : Int32) < ((Int32.ofNat k.val).toUInt32.toUInt16.toUInt32.toInt32) := by decide +kernel
  have h : (x &&& 255).toBitVec.toNat < 256 := by
    simp only [Int32.toBitVec_and, BitVec.toNat_and]
    exact Nat.lt_succ_of_le Nat.and_le_right
  have e : (x &&& 255) = Int32.ofNat (x &&& 255).toBitVec.toNat := by
    apply Int32.toBitVec_inj.mp
    show _ = BitVec.ofNat 32 _
    rw [BitVec.ofNat_toNat]; simp
  rw [e]
  exact t ⟨_, h⟩
theorem own_names {a b f t z r : Int32} {u v : Value} (hu : f = 0 ∧ u = .null ∨ ¬ (f = 0) ∧ ¬ (u = .null)) (hv : t = 0 ∧ v = .null ∨ ¬ (t = 0) ∧ ¬ (v = .null))
    (hz : z = 1 ∧ (¬ (a < (0 : Int32)) ∨ ¬ (b < (0 : Int32)) ∨ ¬ (f = 0) ∨ ¬ (t = 0)) ∨ z = 0 ∧ ¬ (¬ (a < (0 : Int32)) ∨ ¬ (b < (0 : Int32)) ∨ ¬ (f = 0) ∨ ¬ (t = 0))) (hr : r = 1 ∧ (¬ (a < (0 : Int32)) ∨ ¬ (u = .null) ∨ ¬ (b < (0 : Int32)) ∨ ¬ (v = .null)) ∨ r = 0 ∧ ¬ (¬ (a < (0 : Int32)) ∨ ¬ (u = .null) ∨ ¬ (b < (0 : Int32)) ∨ ¬ (v = .null))) : r = z := by
  have e : (¬ (a < (0 : Int32)) ∨ ¬ (u = .null) ∨ ¬ (b < (0 : Int32)) ∨ ¬ (v = .null)) ↔ (¬ (a < (0 : Int32)) ∨ ¬ (b < (0 : Int32)) ∨ ¬ (f = 0) ∨ ¬ (t = 0)) := by
    rcases hu with ⟨h1, h2⟩ | ⟨h1, h2⟩ <;> rcases hv with ⟨h3, h4⟩ | ⟨h3, h4⟩ <;> simp [h1, h2, h3, h4]
  rw [e] at hr
  rcases hz with ⟨rfl, h1⟩ | ⟨rfl, h1⟩ <;> rcases hr with ⟨rfl, h2⟩ | ⟨rfl, h2⟩
  · rfl
  · exact absurd h1 h2
  · exact absurd h2 h1
  · rfl
theorem wd0 {Z : State} {a0 : Array Value} (hw : ∀ d ∈ tables_1, d.before a0 Z = true) : (Jvm.Cond.methodLink "com/example/timeshed/timeshed/network/gtfs/TimetableNamesTripsPinLaw" (7 : Nat) ({ cls := "com/example/timeshed/timeshed/network/gtfs/TimetableNamesTripsPinLaw", name := "route", desc := "(IZ)Ljava/lang/String;" } : Jvm.MethodName)).before a0 Z = true := hw _ (List.mem_of_getElem? (i := 0) rfl)
theorem wd1 {Z : State} {a0 : Array Value} (hw : ∀ d ∈ tables_1, d.before a0 Z = true) : (Jvm.Cond.static ({ cls := "com/example/timeshed/timeshed/network/gtfs/TimetableNamesTripsPinLaw", name := "route", desc := "(IZ)Ljava/lang/String;" } : Jvm.MethodName)).before a0 Z = true := hw _ (List.mem_of_getElem? (i := 1) rfl)
theorem wd2 {Z : State} {a0 : Array Value} (hw : ∀ d ∈ tables_1, d.before a0 Z = true) : (Jvm.Cond.initialized "com/example/timeshed/timeshed/network/gtfs/TimetableNamesTripsPinLaw").before a0 Z = true := hw _ (List.mem_of_getElem? (i := 2) rfl)
theorem wd3 {Z : State} {a0 : Array Value} (hw : ∀ d ∈ tables_1, d.before a0 Z = true) : (Jvm.Cond.code ({ cls := "com/example/timeshed/timeshed/network/gtfs/TimetableNamesTripsPinLaw", name := "route", desc := "(IZ)Ljava/lang/String;" } : Jvm.MethodName) method_3_code (2 : Nat) (Option.some (Jvm.ClassFile.FieldType.object "java/lang/String"))).before a0 Z = true := hw _ (List.mem_of_getElem? (i := 3) rfl)
theorem wd4 {Z : State} {a0 : Array Value} (hw : ∀ d ∈ tables_1, d.before a0 Z = true) : (Jvm.Cond.methodLink "com/example/timeshed/timeshed/network/gtfs/TimetableNamesTripsPinLaw" (28 : Nat) ({ cls := "java/lang/String", name := "valueOf", desc := "(C)Ljava/lang/String;" } : Jvm.MethodName)).before a0 Z = true := hw _ (List.mem_of_getElem? (i := 4) rfl)
theorem wd5 {Z : State} {a0 : Array Value} (hw : ∀ d ∈ tables_1, d.before a0 Z = true) : (Jvm.Cond.static ({ cls := "java/lang/String", name := "valueOf", desc := "(C)Ljava/lang/String;" } : Jvm.MethodName)).before a0 Z = true := hw _ (List.mem_of_getElem? (i := 5) rfl)
theorem wd6 {Z : State} {a0 : Array Value} (hw : ∀ d ∈ tables_1, d.before a0 Z = true) : (Jvm.Cond.initialized "java/lang/String").before a0 Z = true := hw _ (List.mem_of_getElem? (i := 6) rfl)
theorem wd7 {Z : State} {a0 : Array Value} (hw : ∀ d ∈ tables_1, d.before a0 Z = true) : (Jvm.Cond.code ({ cls := "java/lang/String", name := "valueOf", desc := "(C)Ljava/lang/String;" } : Jvm.MethodName) jdk_42_method_139_code (1 : Nat) (Option.some (Jvm.ClassFile.FieldType.object "java/lang/String"))).before a0 Z = true := hw _ (List.mem_of_getElem? (i := 7) rfl)
theorem wd8 {Z : State} {a0 : Array Value} (hw : ∀ d ∈ tables_1, d.before a0 Z = true) : (Jvm.Cond.fieldLink "java/lang/String" (38 : Nat) "java/lang/String" "COMPACT_STRINGS" "Z").before a0 Z = true := hw _ (List.mem_of_getElem? (i := 8) rfl)
theorem wd9 {Z : State} {a0 : Array Value} (hw : ∀ d ∈ tables_1, d.before a0 Z = true) : (Jvm.Cond.methodLink "java/lang/String" (1015 : Nat) ({ cls := "java/lang/StringLatin1", name := "canEncode", desc := "(C)Z" } : Jvm.MethodName)).before a0 Z = true := hw _ (List.mem_of_getElem? (i := 9) rfl)
theorem wd10 {Z : State} {a0 : Array Value} (hw : ∀ d ∈ tables_1, d.before a0 Z = true) : (Jvm.Cond.static ({ cls := "java/lang/StringLatin1", name := "canEncode", desc := "(C)Z" } : Jvm.MethodName)).before a0 Z = true := hw _ (List.mem_of_getElem? (i := 10) rfl)
theorem wd11 {Z : State} {a0 : Array Value} (hw : ∀ d ∈ tables_1, d.before a0 Z = true) : (Jvm.Cond.initialized "java/lang/StringLatin1").before a0 Z = true := hw _ (List.mem_of_getElem? (i := 11) rfl)
theorem wd12 {Z : State} {a0 : Array Value} (hw : ∀ d ∈ tables_1, d.before a0 Z = true) : (Jvm.Cond.code ({ cls := "java/lang/StringLatin1", name := "canEncode", desc := "(C)Z" } : Jvm.MethodName) jdk_43_method_3_code (1 : Nat) (Option.some Jvm.ClassFile.FieldType.boolean)).before a0 Z = true := hw _ (List.mem_of_getElem? (i := 12) rfl)
theorem wd13 {Z : State} {a0 : Array Value} (hw : ∀ d ∈ tables_1, d.before a0 Z = true) : (Jvm.Cond.classLink "java/lang/String" (10 : Nat) "java/lang/String").before a0 Z = true := hw _ (List.mem_of_getElem? (i := 13) rfl)
theorem wd14 {Z : State} {a0 : Array Value} (hw : ∀ d ∈ tables_1, d.before a0 Z = true) : (Jvm.Cond.instantiable "java/lang/String" (4 : Nat)).before a0 Z = true := hw _ (List.mem_of_getElem? (i := 14) rfl)
theorem wd15 {Z : State} {a0 : Array Value} (hw : ∀ d ∈ tables_1, d.before a0 Z = true) : (Jvm.Cond.methodLink "java/lang/String" (1018 : Nat) ({ cls := "java/lang/StringLatin1", name := "toBytes", desc := "(C)[B" } : Jvm.MethodName)).before a0 Z = true := hw _ (List.mem_of_getElem? (i := 15) rfl)
theorem wd16 {Z : State} {a0 : Array Value} (hw : ∀ d ∈ tables_1, d.before a0 Z = true) : (Jvm.Cond.static ({ cls := "java/lang/StringLatin1", name := "toBytes", desc := "(C)[B" } : Jvm.MethodName)).before a0 Z = true := hw _ (List.mem_of_getElem? (i := 16) rfl)
theorem wd17 {Z : State} {a0 : Array Value} (hw : ∀ d ∈ tables_1, d.before a0 Z = true) : (Jvm.Cond.code ({ cls := "java/lang/StringLatin1", name := "toBytes", desc := "(C)[B" } : Jvm.MethodName) jdk_43_method_46_code (1 : Nat) (Option.some (Jvm.ClassFile.FieldType.array Jvm.ClassFile.FieldType.byte))).before a0 Z = true := hw _ (List.mem_of_getElem? (i := 17) rfl)
theorem wd18 {Z : State} {a0 : Array Value} (hw : ∀ d ∈ tables_1, d.before a0 Z = true) : (Jvm.Cond.arrayClass Jvm.ClassFile.FieldType.byte).before a0 Z = true := hw _ (List.mem_of_getElem? (i := 18) rfl)
theorem wd19 {Z : State} {a0 : Array Value} (hw : ∀ d ∈ tables_1, d.before a0 Z = true) : (Jvm.Cond.methodLink "java/lang/String" (209 : Nat) ({ cls := "java/lang/String", name := "<init>", desc := "([BB)V" } : Jvm.MethodName)).before a0 Z = true := hw _ (List.mem_of_getElem? (i := 19) rfl)
theorem wd20 {Z : State} {a0 : Array Value} (hw : ∀ d ∈ tables_1, d.before a0 Z = true) : (Jvm.Cond.instanceMethod ({ cls := "java/lang/String", name := "<init>", desc := "([BB)V" } : Jvm.MethodName)).before a0 Z = true := hw _ (List.mem_of_getElem? (i := 20) rfl)
theorem wd22 {Z : State} {a0 : Array Value} (hw : ∀ d ∈ tables_1, d.before a0 Z = true) : (Jvm.Cond.code ({ cls := "java/lang/String", name := "<init>", desc := "([BB)V" } : Jvm.MethodName) jdk_42_method_151_code (3 : Nat) (Option.none : Option Jvm.ClassFile.FieldType)).before a0 Z = true := hw _ (List.mem_of_getElem? (i := 22) rfl)
theorem wd23 {Z : State} {a0 : Array Value} (hw : ∀ d ∈ tables_1, d.before a0 Z = true) : (Jvm.Cond.methodLink "java/lang/String" (1 : Nat) ({ cls := "java/lang/Object", name := "<init>", desc := "()V" } : Jvm.MethodName)).before a0 Z = true := hw _ (List.mem_of_getElem? (i := 23) rfl)
theorem wd24 {Z : State} {a0 : Array Value} (hw : ∀ d ∈ tables_1, d.before a0 Z = true) : (Jvm.Cond.instanceMethod ({ cls := "java/lang/Object", name := "<init>", desc := "()V" } : Jvm.MethodName)).before a0 Z = true := hw _ (List.mem_of_getElem? (i := 24) rfl)
theorem wd25 {Z : State} {a0 : Array Value} (hw : ∀ d ∈ tables_1, d.before a0 Z = true) : (Jvm.Cond.code ({ cls := "java/lang/Object", name := "<init>", desc := "()V" } : Jvm.MethodName) object_method_1_code (1 : Nat) (Option.none : Option Jvm.ClassFile.FieldType)).before a0 Z = true := hw _ (List.mem_of_getElem? (i := 25) rfl)
theorem wd26 {Z : State} {a0 : Array Value} (hw : ∀ d ∈ tables_1, d.before a0 Z = true) : (Jvm.Cond.fieldLink "java/lang/String" (9 : Nat) "java/lang/String" "value" "[B").before a0 Z = true := hw _ (List.mem_of_getElem? (i := 26) rfl)
theorem wd27 {Z : State} {a0 : Array Value} (hw : ∀ d ∈ tables_1, d.before a0 Z = true) : (Jvm.Cond.laysFinal "java/lang/String" "java/lang/String" "value" "[B").before a0 Z = true := hw _ (List.mem_of_getElem? (i := 27) rfl)
theorem wd28 {Z : State} {a0 : Array Value} (hw : ∀ d ∈ tables_1, d.before a0 Z = true) : (Jvm.Cond.fieldLink "java/lang/String" (15 : Nat) "java/lang/String" "coder" "B").before a0 Z = true := hw _ (List.mem_of_getElem? (i := 28) rfl)
theorem wd29 {Z : State} {a0 : Array Value} (hw : ∀ d ∈ tables_1, d.before a0 Z = true) : (Jvm.Cond.laysFinal "java/lang/String" "java/lang/String" "coder" "B").before a0 Z = true := hw _ (List.mem_of_getElem? (i := 29) rfl)
theorem wd30 {Z : State} {a0 : Array Value} (hw : ∀ d ∈ tables_1, d.before a0 Z = true) : (Jvm.Cond.methodLink "com/example/timeshed/timeshed/network/gtfs/TimetableNamesTripsPinLaw" (13 : Nat) ({ cls := "com/example/timeshed/timeshed/network/gtfs/TimetableNamesTripsPinLaw", name := "type", desc := "(I)Lcom/example/timeshed/timeshed/network/gtfs/Timetable$TransferType;" } : Jvm.MethodName)).before a0 Z = true := hw _ (List.mem_of_getElem? (i := 30) rfl)
theorem wd31 {Z : State} {a0 : Array Value} (hw : ∀ d ∈ tables_1, d.before a0 Z = true) : (Jvm.Cond.static ({ cls := "com/example/timeshed/timeshed/network/gtfs/TimetableNamesTripsPinLaw", name := "type", desc := "(I)Lcom/example/timeshed/timeshed/network/gtfs/Timetable$TransferType;" } : Jvm.MethodName)).before a0 Z = true := hw _ (List.mem_of_getElem? (i := 31) rfl)
theorem wd32 {Z : State} {a0 : Array Value} (hw : ∀ d ∈ tables_1, d.before a0 Z = true) : (Jvm.Cond.code ({ cls := "com/example/timeshed/timeshed/network/gtfs/TimetableNamesTripsPinLaw", name := "type", desc := "(I)Lcom/example/timeshed/timeshed/network/gtfs/Timetable$TransferType;" } : Jvm.MethodName) method_4_code (1 : Nat) (Option.some (Jvm.ClassFile.FieldType.object "com/example/timeshed/timeshed/network/gtfs/Timetable$TransferType"))).before a0 Z = true := hw _ (List.mem_of_getElem? (i := 32) rfl)
theorem wd33 {Z : State} {a0 : Array Value} (hw : ∀ d ∈ tables_1, d.before a0 Z = true) : (Jvm.Cond.fieldLink "com/example/timeshed/timeshed/network/gtfs/TimetableNamesTripsPinLaw" (34 : Nat) "com/example/timeshed/timeshed/network/gtfs/Timetable$TransferType" "RECOMMENDED" "Lcom/example/timeshed/timeshed/network/gtfs/Timetable$TransferType;").before a0 Z = true := hw _ (List.mem_of_getElem? (i := 33) rfl)
theorem wd34 {Z : State} {a0 : Array Value} (hw : ∀ d ∈ tables_1, d.before a0 Z = true) : (Jvm.Cond.initialized "com/example/timeshed/timeshed/network/gtfs/Timetable$TransferType").before a0 Z = true := hw _ (List.mem_of_getElem? (i := 34) rfl)
theorem wd35 {Z : State} {a0 : Array Value} (hw : ∀ d ∈ tables_1, d.before a0 Z = true) : (Jvm.Cond.laysStatic "com/example/timeshed/timeshed/network/gtfs/Timetable$TransferType" "RECOMMENDED" "Lcom/example/timeshed/timeshed/network/gtfs/Timetable$TransferType;").before a0 Z = true := hw _ (List.mem_of_getElem? (i := 35) rfl)
theorem wd36 {Z : State} {a0 : Array Value} (hw : ∀ d ∈ tables_1, d.before a0 Z = true) : (Jvm.Cond.classLink "com/example/timeshed/timeshed/network/gtfs/TimetableNamesTripsPinLaw" (17 : Nat) "com/example/timeshed/timeshed/network/gtfs/Timetable$Transfer").before a0 Z = true := hw _ (List.mem_of_getElem? (i := 36) rfl)
theorem wd37 {Z : State} {a0 : Array Value} (hw : ∀ d ∈ tables_1, d.before a0 Z = true) : (Jvm.Cond.instantiable "com/example/timeshed/timeshed/network/gtfs/Timetable$Transfer" (8 : Nat)).before a0 Z = true := hw _ (List.mem_of_getElem? (i := 37) rfl)
theorem wd38 {Z : State} {a0 : Array Value} (hw : ∀ d ∈ tables_1, d.before a0 Z = true) : (Jvm.Cond.initialized "com/example/timeshed/timeshed/network/gtfs/Timetable$Transfer").before a0 Z = true := hw _ (List.mem_of_getElem? (i := 38) rfl)
theorem wd39 {Z : State} {a0 : Array Value} (hw : ∀ d ∈ tables_1, d.before a0 Z = true) : (Jvm.Cond.methodLink "com/example/timeshed/timeshed/network/gtfs/TimetableNamesTripsPinLaw" (19 : Nat) ({ cls := "com/example/timeshed/timeshed/network/gtfs/Timetable$Transfer", name := "<init>", desc := "(IIILjava/lang/String;ILjava/lang/String;Lcom/example/timeshed/timeshed/network/gtfs/Timetable$TransferType;I)V" } : Jvm.MethodName)).before a0 Z = true := hw _ (List.mem_of_getElem? (i := 39) rfl)
theorem wd40 {Z : State} {a0 : Array Value} (hw : ∀ d ∈ tables_1, d.before a0 Z = true) : (Jvm.Cond.instanceMethod ({ cls := "com/example/timeshed/timeshed/network/gtfs/Timetable$Transfer", name := "<init>", desc := "(IIILjava/lang/String;ILjava/lang/String;Lcom/example/timeshed/timeshed/network/gtfs/Timetable$TransferType;I)V" } : Jvm.MethodName)).before a0 Z = true := hw _ (List.mem_of_getElem? (i := 40) rfl)
theorem wd41 {Z : State} {a0 : Array Value} (hw : ∀ d ∈ tables_1, d.before a0 Z = true) : (Jvm.Cond.code ({ cls := "com/example/timeshed/timeshed/network/gtfs/Timetable$Transfer", name := "<init>", desc := "(IIILjava/lang/String;ILjava/lang/String;Lcom/example/timeshed/timeshed/network/gtfs/Timetable$TransferType;I)V" } : Jvm.MethodName) prog_109_method_1_code (9 : Nat) (Option.none : Option Jvm.ClassFile.FieldType)).before a0 Z = true := hw _ (List.mem_of_getElem? (i := 41) rfl)
theorem wd42 {Z : State} {a0 : Array Value} (hw : ∀ d ∈ tables_1, d.before a0 Z = true) : (Jvm.Cond.methodLink "com/example/timeshed/timeshed/network/gtfs/Timetable$Transfer" (1 : Nat) ({ cls := "java/lang/Record", name := "<init>", desc := "()V" } : Jvm.MethodName)).before a0 Z = true := hw _ (List.mem_of_getElem? (i := 42) rfl)
theorem wd43 {Z : State} {a0 : Array Value} (hw : ∀ d ∈ tables_1, d.before a0 Z = true) : (Jvm.Cond.instanceMethod ({ cls := "java/lang/Record", name := "<init>", desc := "()V" } : Jvm.MethodName)).before a0 Z = true := hw _ (List.mem_of_getElem? (i := 43) rfl)
theorem wd45 {Z : State} {a0 : Array Value} (hw : ∀ d ∈ tables_1, d.before a0 Z = true) : (Jvm.Cond.initialized "java/lang/Record").before a0 Z = true := hw _ (List.mem_of_getElem? (i := 45) rfl)
theorem wd46 {Z : State} {a0 : Array Value} (hw : ∀ d ∈ tables_1, d.before a0 Z = true) : (Jvm.Cond.code ({ cls := "java/lang/Record", name := "<init>", desc := "()V" } : Jvm.MethodName) jdk_30_method_1_code (1 : Nat) (Option.none : Option Jvm.ClassFile.FieldType)).before a0 Z = true := hw _ (List.mem_of_getElem? (i := 46) rfl)
theorem wd47 {Z : State} {a0 : Array Value} (hw : ∀ d ∈ tables_1, d.before a0 Z = true) : (Jvm.Cond.methodLink "java/lang/Record" (1 : Nat) ({ cls := "java/lang/Object", name := "<init>", desc := "()V" } : Jvm.MethodName)).before a0 Z = true := hw _ (List.mem_of_getElem? (i := 47) rfl)
theorem wd48 {Z : State} {a0 : Array Value} (hw : ∀ d ∈ tables_1, d.before a0 Z = true) : (Jvm.Cond.fieldLink "com/example/timeshed/timeshed/network/gtfs/Timetable$Transfer" (7 : Nat) "com/example/timeshed/timeshed/network/gtfs/Timetable$Transfer" "fromStop" "I").before a0 Z = true := hw _ (List.mem_of_getElem? (i := 48) rfl)
theorem wd49 {Z : State} {a0 : Array Value} (hw : ∀ d ∈ tables_1, d.before a0 Z = true) : (Jvm.Cond.laysFinal "com/example/timeshed/timeshed/network/gtfs/Timetable$Transfer" "com/example/timeshed/timeshed/network/gtfs/Timetable$Transfer" "fromStop" "I").before a0 Z = true := hw _ (List.mem_of_getElem? (i := 49) rfl)
theorem wd50 {Z : State} {a0 : Array Value} (hw : ∀ d ∈ tables_1, d.before a0 Z = true) : (Jvm.Cond.fieldLink "com/example/timeshed/timeshed/network/gtfs/Timetable$Transfer" (13 : Nat) "com/example/timeshed/timeshed/network/gtfs/Timetable$Transfer" "toStop" "I").before a0 Z = true := hw _ (List.mem_of_getElem? (i := 50) rfl)
theorem wd51 {Z : State} {a0 : Array Value} (hw : ∀ d ∈ tables_1, d.before a0 Z = true) : (Jvm.Cond.laysFinal "com/example/timeshed/timeshed/network/gtfs/Timetable$Transfer" "com/example/timeshed/timeshed/network/gtfs/Timetable$Transfer" "toStop" "I").before a0 Z = true := hw _ (List.mem_of_getElem? (i := 51) rfl)
theorem wd52 {Z : State} {a0 : Array Value} (hw : ∀ d ∈ tables_1, d.before a0 Z = true) : (Jvm.Cond.fieldLink "com/example/timeshed/timeshed/network/gtfs/Timetable$Transfer" (16 : Nat) "com/example/timeshed/timeshed/network/gtfs/Timetable$Transfer" "fromTrip" "I").before a0 Z = true := hw _ (List.mem_of_getElem? (i := 52) rfl)
theorem wd53 {Z : State} {a0 : Array Value} (hw : ∀ d ∈ tables_1, d.before a0 Z = true) : (Jvm.Cond.laysFinal "com/example/timeshed/timeshed/network/gtfs/Timetable$Transfer" "com/example/timeshed/timeshed/network/gtfs/Timetable$Transfer" "fromTrip" "I").before a0 Z = true := hw _ (List.mem_of_getElem? (i := 53) rfl)
theorem wd54 {Z : State} {a0 : Array Value} (hw : ∀ d ∈ tables_1, d.before a0 Z = true) : (Jvm.Cond.fieldLink "com/example/timeshed/timeshed/network/gtfs/Timetable$Transfer" (19 : Nat) "com/example/timeshed/timeshed/network/gtfs/Timetable$Transfer" "fromRoute" "Ljava/lang/String;").before a0 Z = true := hw _ (List.mem_of_getElem? (i := 54) rfl)
theorem wd55 {Z : State} {a0 : Array Value} (hw : ∀ d ∈ tables_1, d.before a0 Z = true) : (Jvm.Cond.laysFinal "com/example/timeshed/timeshed/network/gtfs/Timetable$Transfer" "com/example/timeshed/timeshed/network/gtfs/Timetable$Transfer" "fromRoute" "Ljava/lang/String;").before a0 Z = true := hw _ (List.mem_of_getElem? (i := 55) rfl)
theorem wd56 {Z : State} {a0 : Array Value} (hw : ∀ d ∈ tables_1, d.before a0 Z = true) : (Jvm.Cond.fieldLink "com/example/timeshed/timeshed/network/gtfs/Timetable$Transfer" (23 : Nat) "com/example/timeshed/timeshed/network/gtfs/Timetable$Transfer" "toTrip" "I").before a0 Z = true := hw _ (List.mem_of_getElem? (i := 56) rfl)
theorem wd57 {Z : State} {a0 : Array Value} (hw : ∀ d ∈ tables_1, d.before a0 Z = true) : (Jvm.Cond.laysFinal "com/example/timeshed/timeshed/network/gtfs/Timetable$Transfer" "com/example/timeshed/timeshed/network/gtfs/Timetable$Transfer" "toTrip" "I").before a0 Z = true := hw _ (List.mem_of_getElem? (i := 57) rfl)
theorem wd58 {Z : State} {a0 : Array Value} (hw : ∀ d ∈ tables_1, d.before a0 Z = true) : (Jvm.Cond.fieldLink "com/example/timeshed/timeshed/network/gtfs/Timetable$Transfer" (26 : Nat) "com/example/timeshed/timeshed/network/gtfs/Timetable$Transfer" "toRoute" "Ljava/lang/String;").before a0 Z = true := hw _ (List.mem_of_getElem? (i := 58) rfl)
theorem wd59 {Z : State} {a0 : Array Value} (hw : ∀ d ∈ tables_1, d.before a0 Z = true) : (Jvm.Cond.laysFinal "com/example/timeshed/timeshed/network/gtfs/Timetable$Transfer" "com/example/timeshed/timeshed/network/gtfs/Timetable$Transfer" "toRoute" "Ljava/lang/String;").before a0 Z = true := hw _ (List.mem_of_getElem? (i := 59) rfl)
theorem wd60 {Z : State} {a0 : Array Value} (hw : ∀ d ∈ tables_1, d.before a0 Z = true) : (Jvm.Cond.fieldLink "com/example/timeshed/timeshed/network/gtfs/Timetable$Transfer" (29 : Nat) "com/example/timeshed/timeshed/network/gtfs/Timetable$Transfer" "type" "Lcom/example/timeshed/timeshed/network/gtfs/Timetable$TransferType;").before a0 Z = true := hw _ (List.mem_of_getElem? (i := 60) rfl)
theorem wd61 {Z : State} {a0 : Array Value} (hw : ∀ d ∈ tables_1, d.before a0 Z = true) : (Jvm.Cond.laysFinal "com/example/timeshed/timeshed/network/gtfs/Timetable$Transfer" "com/example/timeshed/timeshed/network/gtfs/Timetable$Transfer" "type" "Lcom/example/timeshed/timeshed/network/gtfs/Timetable$TransferType;").before a0 Z = true := hw _ (List.mem_of_getElem? (i := 61) rfl)
theorem wd62 {Z : State} {a0 : Array Value} (hw : ∀ d ∈ tables_1, d.before a0 Z = true) : (Jvm.Cond.fieldLink "com/example/timeshed/timeshed/network/gtfs/Timetable$Transfer" (33 : Nat) "com/example/timeshed/timeshed/network/gtfs/Timetable$Transfer" "minimumTime" "I").before a0 Z = true := hw _ (List.mem_of_getElem? (i := 62) rfl)
theorem wd63 {Z : State} {a0 : Array Value} (hw : ∀ d ∈ tables_1, d.before a0 Z = true) : (Jvm.Cond.laysFinal "com/example/timeshed/timeshed/network/gtfs/Timetable$Transfer" "com/example/timeshed/timeshed/network/gtfs/Timetable$Transfer" "minimumTime" "I").before a0 Z = true := hw _ (List.mem_of_getElem? (i := 63) rfl)
theorem wd64 {Z : State} {a0 : Array Value} (hw : ∀ d ∈ tables_1, d.before a0 Z = true) : (Jvm.Cond.methodLink "com/example/timeshed/timeshed/network/gtfs/TimetableNamesTripsPinLaw" (22 : Nat) ({ cls := "com/example/timeshed/timeshed/network/gtfs/Timetable$Transfer", name := "namesTrips", desc := "()Z" } : Jvm.MethodName)).before a0 Z = true := hw _ (List.mem_of_getElem? (i := 64) rfl)
theorem wd65 {Z : State} {a0 : Array Value} (hw : ∀ d ∈ tables_1, d.before a0 Z = true) : (Jvm.Cond.declares ({ cls := "com/example/timeshed/timeshed/network/gtfs/Timetable$Transfer", name := "namesTrips", desc := "()Z" } : Jvm.MethodName)).before a0 Z = true := hw _ (List.mem_of_getElem? (i := 65) rfl)
theorem wd66 {Z : State} {a0 : Array Value} (hw : ∀ d ∈ tables_1, d.before a0 Z = true) : (Jvm.Cond.instanceMethod ({ cls := "com/example/timeshed/timeshed/network/gtfs/Timetable$Transfer", name := "namesTrips", desc := "()Z" } : Jvm.MethodName)).before a0 Z = true := hw _ (List.mem_of_getElem? (i := 66) rfl)
theorem wd67 {Z : State} {a0 : Array Value} (hw : ∀ d ∈ tables_1, d.before a0 Z = true) : (Jvm.Cond.selects "com/example/timeshed/timeshed/network/gtfs/Timetable$Transfer" ({ cls := "com/example/timeshed/timeshed/network/gtfs/Timetable$Transfer", name := "namesTrips", desc := "()Z" } : Jvm.MethodName) ({ cls := "com/example/timeshed/timeshed/network/gtfs/Timetable$Transfer", name := "namesTrips", desc := "()Z" } : Jvm.MethodName)).before a0 Z = true := hw _ (List.mem_of_getElem? (i := 67) rfl)
theorem wd68 {Z : State} {a0 : Array Value} (hw : ∀ d ∈ tables_1, d.before a0 Z = true) : (Jvm.Cond.code ({ cls := "com/example/timeshed/timeshed/network/gtfs/Timetable$Transfer", name := "namesTrips", desc := "()Z" } : Jvm.MethodName) prog_109_method_2_code (1 : Nat) (Option.some Jvm.ClassFile.FieldType.boolean)).before a0 Z = true := hw _ (List.mem_of_getElem? (i := 68) rfl)
theorem wd69 {Z : State} {a0 : Array Value} (hw : ∀ d ∈ tables_1, d.before a0 Z = true) : (Jvm.Cond.stringLink "com/example/timeshed/timeshed/network/gtfs/TimetableNamesTripsPinLaw" (26 : Nat) "").before a0 Z = true := hw _ (List.mem_of_getElem? (i := 69) rfl)
theorem wd72 {Z : State} {a0 : Array Value} (hw : ∀ d ∈ tables_1, d.before a0 Z = true) : (Jvm.Cond.fieldLink "com/example/timeshed/timeshed/network/gtfs/TimetableNamesTripsPinLaw" (46 : Nat) "com/example/timeshed/timeshed/network/gtfs/Timetable$TransferType" "NOT_POSSIBLE" "Lcom/example/timeshed/timeshed/network/gtfs/Timetable$TransferType;").before a0 Z = true := hw _ (List.mem_of_getElem? (i := 72) rfl)
theorem wd73 {Z : State} {a0 : Array Value} (hw : ∀ d ∈ tables_1, d.before a0 Z = true) : (Jvm.Cond.laysStatic "com/example/timeshed/timeshed/network/gtfs/Timetable$TransferType" "NOT_POSSIBLE" "Lcom/example/timeshed/timeshed/network/gtfs/Timetable$TransferType;").before a0 Z = true := hw _ (List.mem_of_getElem? (i := 73) rfl)
theorem wd74 {Z : State} {a0 : Array Value} (hw : ∀ d ∈ tables_1, d.before a0 Z = true) : (Jvm.Cond.fieldLink "com/example/timeshed/timeshed/network/gtfs/TimetableNamesTripsPinLaw" (43 : Nat) "com/example/timeshed/timeshed/network/gtfs/Timetable$TransferType" "MINIMUM_TIME" "Lcom/example/timeshed/timeshed/network/gtfs/Timetable$TransferType;").before a0 Z = true := hw _ (List.mem_of_getElem? (i := 74) rfl)
theorem wd75 {Z : State} {a0 : Array Value} (hw : ∀ d ∈ tables_1, d.before a0 Z = true) : (Jvm.Cond.laysStatic "com/example/timeshed/timeshed/network/gtfs/Timetable$TransferType" "MINIMUM_TIME" "Lcom/example/timeshed/timeshed/network/gtfs/Timetable$TransferType;").before a0 Z = true := hw _ (List.mem_of_getElem? (i := 75) rfl)
theorem wd76 {Z : State} {a0 : Array Value} (hw : ∀ d ∈ tables_1, d.before a0 Z = true) : (Jvm.Cond.fieldLink "com/example/timeshed/timeshed/network/gtfs/TimetableNamesTripsPinLaw" (40 : Nat) "com/example/timeshed/timeshed/network/gtfs/Timetable$TransferType" "TIMED" "Lcom/example/timeshed/timeshed/network/gtfs/Timetable$TransferType;").before a0 Z = true := hw _ (List.mem_of_getElem? (i := 76) rfl)
theorem wd77 {Z : State} {a0 : Array Value} (hw : ∀ d ∈ tables_1, d.before a0 Z = true) : (Jvm.Cond.laysStatic "com/example/timeshed/timeshed/network/gtfs/Timetable$TransferType" "TIMED" "Lcom/example/timeshed/timeshed/network/gtfs/Timetable$TransferType;").before a0 Z = true := hw _ (List.mem_of_getElem? (i := 77) rfl)
theorem d1_0 : decode method_3_code 0 = .ok (.iload_n 1, 1) := by decide +kernel
theorem d1_1 : decode method_3_code 1 = .ok (.ifCond .eq 6, 3) := by decide +kernel
theorem d1_4 : decode method_3_code 4 = .ok (.ldc 26, 2) := by decide +kernel
theorem d1_6 : decode method_3_code 6 = .ok (.areturn, 1) := by decide +kernel
theorem d1_7 : decode method_3_code 7 = .ok (.iload_n 0, 1) := by decide +kernel
theorem d1_8 : decode method_3_code 8 = .ok (.sipush 255, 3) := by decide +kernel
theorem d1_11 : decode method_3_code 11 = .ok (.iand, 1) := by decide +kernel
theorem d1_12 : decode method_3_code 12 = .ok (.i2c, 1) := by decide +kernel
theorem d1_13 : decode method_3_code 13 = .ok (.invokestatic 28, 3) := by decide +kernel
theorem d1_16 : decode method_3_code 16 = .ok (.areturn, 1) := by decide +kernel
theorem d2_0 : decode jdk_42_method_139_code 0 = .ok (.getstatic 38, 3) := by decide +kernel
theorem d2_3 : decode jdk_42_method_139_code 3 = .ok (.ifCond .eq 23, 3) := by decide +kernel
theorem d2_6 : decode jdk_42_method_139_code 6 = .ok (.iload_n 0, 1) := by decide +kernel
theorem d2_7 : decode jdk_42_method_139_code 7 = .ok (.invokestatic 1015, 3) := by decide +kernel
theorem d2_10 : decode jdk_42_method_139_code 10 = .ok (.ifCond .eq 16, 3) := by decide +kernel
theorem d2_13 : decode jdk_42_method_139_code 13 = .ok (.new 10, 3) := by decide +kernel
theorem d2_16 : decode jdk_42_method_139_code 16 = .ok (.dup, 1) := by decide +kernel
theorem d2_17 : decode jdk_42_method_139_code 17 = .ok (.iload_n 0, 1) := by decide +kernel
theorem d2_18 : decode jdk_42_method_139_code 18 = .ok (.invokestatic 1018, 3) := by decide +kernel
theorem d2_21 : decode jdk_42_method_139_code 21 = .ok (.iconst 0, 1) := by decide +kernel
theorem d2_22 : decode jdk_42_method_139_code 22 = .ok (.invokespecial 209, 3) := by decide +kernel
theorem d2_25 : decode jdk_42_method_139_code 25 = .ok (.areturn, 1) := by decide +kernel
theorem d3_0 : decode jdk_43_method_3_code 0 = .ok (.iload_n 0, 1) := by decide +kernel
theorem d3_1 : decode jdk_43_method_3_code 1 = .ok (.sipush 255, 3) := by decide +kernel
theorem d3_4 : decode jdk_43_method_3_code 4 = .ok (.if_icmp .gt 7, 3) := by decide +kernel
theorem d3_7 : decode jdk_43_method_3_code 7 = .ok (.iconst 1, 1) := by decide +kernel
theorem d3_8 : decode jdk_43_method_3_code 8 = .ok (.goto 4, 3) := by decide +kernel
theorem d3_12 : decode jdk_43_method_3_code 12 = .ok (.ireturn, 1) := by decide +kernel
theorem d4_0 : decode jdk_43_method_46_code 0 = .ok (.iconst 1, 1) := by decide +kernel
theorem d4_1 : decode jdk_43_method_46_code 1 = .ok (.newarray .byte, 2) := by decide +kernel
theorem d4_3 : decode jdk_43_method_46_code 3 = .ok (.dup, 1) := by decide +kernel
theorem d4_4 : decode jdk_43_method_46_code 4 = .ok (.iconst 0, 1) := by decide +kernel
theorem d4_5 : decode jdk_43_method_46_code 5 = .ok (.iload_n 0, 1) := by decide +kernel
theorem d4_6 : decode jdk_43_method_46_code 6 = .ok (.i2b, 1) := by decide +kernel
theorem d4_7 : decode jdk_43_method_46_code 7 = .ok (.bastore, 1) := by decide +kernel
theorem d4_8 : decode jdk_43_method_46_code 8 = .ok (.areturn, 1) := by decide +kernel
theorem d5_0 : decode jdk_42_method_151_code 0 = .ok (.aload_n 0, 1) := by decide +kernel
theorem d5_1 : decode jdk_42_method_151_code 1 = .ok (.invokespecial 1, 3) := by decide +kernel
theorem d5_4 : decode jdk_42_method_151_code 4 = .ok (.aload_n 0, 1) := by decide +kernel
theorem d5_5 : decode jdk_42_method_151_code 5 = .ok (.aload_n 1, 1) := by decide +kernel
theorem d5_6 : decode jdk_42_method_151_code 6 = .ok (.putfield 9, 3) := by decide +kernel
theorem d5_9 : decode jdk_42_method_151_code 9 = .ok (.aload_n 0, 1) := by decide +kernel
theorem d5_10 : decode jdk_42_method_151_code 10 = .ok (.iload_n 2, 1) := by decide +kernel
theorem d5_11 : decode jdk_42_method_151_code 11 = .ok (.putfield 15, 3) := by decide +kernel
theorem d5_14 : decode jdk_42_method_151_code 14 = .ok (.return_, 1) := by decide +kernel
theorem d7_0 : decode method_4_code 0 = .ok (.iload_n 0, 1) := by decide +kernel
theorem d7_1 : decode method_4_code 1 = .ok (.ifCond .ne 7, 3) := by decide +kernel
theorem d7_4 : decode method_4_code 4 = .ok (.getstatic 34, 3) := by decide +kernel
theorem d7_7 : decode method_4_code 7 = .ok (.areturn, 1) := by decide +kernel
theorem d7_8 : decode method_4_code 8 = .ok (.iload_n 0, 1) := by decide +kernel
theorem d7_9 : decode method_4_code 9 = .ok (.iconst 1, 1) := by decide +kernel
theorem d7_10 : decode method_4_code 10 = .ok (.if_icmp .ne 7, 3) := by decide +kernel
theorem d7_13 : decode method_4_code 13 = .ok (.getstatic 40, 3) := by decide +kernel
theorem d7_16 : decode method_4_code 16 = .ok (.areturn, 1) := by decide +kernel
theorem d7_17 : decode method_4_code 17 = .ok (.iload_n 0, 1) := by decide +kernel
theorem d7_18 : decode method_4_code 18 = .ok (.iconst 2, 1) := by decide +kernel
theorem d7_19 : decode method_4_code 19 = .ok (.if_icmp .ne 7, 3) := by decide +kernel
theorem d7_22 : decode method_4_code 22 = .ok (.getstatic 43, 3) := by decide +kernel
theorem d7_25 : decode method_4_code 25 = .ok (.areturn, 1) := by decide +kernel
theorem d7_26 : decode method_4_code 26 = .ok (.getstatic 46, 3) := by decide +kernel
theorem d7_29 : decode method_4_code 29 = .ok (.areturn, 1) := by decide +kernel
theorem d8_0 : decode prog_109_method_1_code 0 = .ok (.aload_n 0, 1) := by decide +kernel
theorem d8_1 : decode prog_109_method_1_code 1 = .ok (.invokespecial 1, 3) := by decide +kernel
theorem d8_4 : decode prog_109_method_1_code 4 = .ok (.aload_n 0, 1) := by decide +kernel
theorem d8_5 : decode prog_109_method_1_code 5 = .ok (.iload_n 1, 1) := by decide +kernel
theorem d8_6 : decode prog_109_method_1_code 6 = .ok (.putfield 7, 3) := by decide +kernel
theorem d8_9 : decode prog_109_method_1_code 9 = .ok (.aload_n 0, 1) := by decide +kernel
theorem d8_10 : decode prog_109_method_1_code 10 = .ok (.iload_n 2, 1) := by decide +kernel
theorem d8_11 : decode prog_109_method_1_code 11 = .ok (.putfield 13, 3) := by decide +kernel
theorem d8_14 : decode prog_109_method_1_code 14 = .ok (.aload_n 0, 1) := by decide +kernel
theorem d8_15 : decode prog_109_method_1_code 15 = .ok (.iload_n 3, 1) := by decide +kernel
theorem d8_16 : decode prog_109_method_1_code 16 = .ok (.putfield 16, 3) := by decide +kernel
theorem d8_19 : decode prog_109_method_1_code 19 = .ok (.aload_n 0, 1) := by decide +kernel
theorem d8_20 : decode prog_109_method_1_code 20 = .ok (.aload 4, 2) := by decide +kernel
theorem d8_22 : decode prog_109_method_1_code 22 = .ok (.putfield 19, 3) := by decide +kernel
theorem d8_25 : decode prog_109_method_1_code 25 = .ok (.aload_n 0, 1) := by decide +kernel
theorem d8_26 : decode prog_109_method_1_code 26 = .ok (.iload 5, 2) := by decide +kernel
theorem d8_28 : decode prog_109_method_1_code 28 = .ok (.putfield 23, 3) := by decide +kernel
theorem d8_31 : decode prog_109_method_1_code 31 = .ok (.aload_n 0, 1) := by decide +kernel
theorem d8_32 : decode prog_109_method_1_code 32 = .ok (.aload 6, 2) := by decide +kernel
theorem d8_34 : decode prog_109_method_1_code 34 = .ok (.putfield 26, 3) := by decide +kernel
theorem d8_37 : decode prog_109_method_1_code 37 = .ok (.aload_n 0, 1) := by decide +kernel
theorem d8_38 : decode prog_109_method_1_code 38 = .ok (.aload 7, 2) := by decide +kernel
theorem d8_40 : decode prog_109_method_1_code 40 = .ok (.putfield 29, 3) := by decide +kernel
theorem d8_43 : decode prog_109_method_1_code 43 = .ok (.aload_n 0, 1) := by decide +kernel
theorem d8_44 : decode prog_109_method_1_code 44 = .ok (.iload 8, 2) := by decide +kernel
theorem d8_46 : decode prog_109_method_1_code 46 = .ok (.putfield 33, 3) := by decide +kernel
theorem d8_49 : decode prog_109_method_1_code 49 = .ok (.return_, 1) := by decide +kernel
theorem d9_0 : decode jdk_30_method_1_code 0 = .ok (.aload_n 0, 1) := by decide +kernel
theorem d9_1 : decode jdk_30_method_1_code 1 = .ok (.invokespecial 1, 3) := by decide +kernel
theorem d9_4 : decode jdk_30_method_1_code 4 = .ok (.return_, 1) := by decide +kernel
theorem d10_0 : decode prog_109_method_2_code 0 = .ok (.aload_n 0, 1) := by decide +kernel
theorem d10_1 : decode prog_109_method_2_code 1 = .ok (.getfield 16, 3) := by decide +kernel
theorem d10_4 : decode prog_109_method_2_code 4 = .ok (.ifCond .ge 24, 3) := by decide +kernel
theorem d10_7 : decode prog_109_method_2_code 7 = .ok (.aload_n 0, 1) := by decide +kernel
theorem d10_8 : decode prog_109_method_2_code 8 = .ok (.getfield 19, 3) := by decide +kernel
theorem d10_11 : decode prog_109_method_2_code 11 = .ok (.ifnonnull 17, 3) := by decide +kernel
theorem d10_14 : decode prog_109_method_2_code 14 = .ok (.aload_n 0, 1) := by decide +kernel
theorem d10_15 : decode prog_109_method_2_code 15 = .ok (.getfield 23, 3) := by decide +kernel
theorem d10_18 : decode prog_109_method_2_code 18 = .ok (.ifCond .ge 10, 3) := by decide +kernel
theorem d10_21 : decode prog_109_method_2_code 21 = .ok (.aload_n 0, 1) := by decide +kernel
theorem d10_22 : decode prog_109_method_2_code 22 = .ok (.getfield 26, 3) := by decide +kernel
theorem d10_25 : decode prog_109_method_2_code 25 = .ok (.ifnull 7, 3) := by decide +kernel
theorem d10_28 : decode prog_109_method_2_code 28 = .ok (.iconst 1, 1) := by decide +kernel
theorem d10_29 : decode prog_109_method_2_code 29 = .ok (.goto 4, 3) := by decide +kernel
theorem d10_32 : decode prog_109_method_2_code 32 = .ok (.iconst 0, 1) := by decide +kernel
theorem d10_33 : decode prog_109_method_2_code 33 = .ok (.ireturn, 1) := by decide +kernel
theorem pd0 : parseMethodDescriptor "(C)Z" = some ⟨[.char], some .boolean⟩ := by decide +kernel
theorem pd1 : parseMethodDescriptor "(C)[B" = some ⟨[.char], some (.array .byte)⟩ := by decide +kernel
theorem pd2 : parseMethodDescriptor "([BB)V" = some ⟨[(.array .byte), .byte], none⟩ := by decide +kernel
theorem pd3 : parseMethodDescriptor "(C)Ljava/lang/String;" = some ⟨[.char], some (.object "java/lang/String")⟩ := by decide +kernel
theorem pd4 : parseMethodDescriptor "()V" = some ⟨[], none⟩ := by decide +kernel
theorem pd5 : parseMethodDescriptor "(IZ)Ljava/lang/String;" = some ⟨[.int, .boolean], some (.object "java/lang/String")⟩ := by decide +kernel
theorem pd6 : parseMethodDescriptor "(I)Lcom/example/timeshed/timeshed/network/gtfs/Timetable$TransferType;" = some ⟨[.int], some (.object "com/example/timeshed/timeshed/network/gtfs/Timetable$TransferType")⟩ := by decide +kernel
theorem pd7 : parseMethodDescriptor "(IIILjava/lang/String;ILjava/lang/String;Lcom/example/timeshed/timeshed/network/gtfs/Timetable$TransferType;I)V" = some ⟨[.int, .int, .int, (.object "java/lang/String"), .int, (.object "java/lang/String"), (.object "com/example/timeshed/timeshed/network/gtfs/Timetable$TransferType"), .int], none⟩ := by decide +kernel
theorem pd8 : parseMethodDescriptor "()Z" = some ⟨[], some .boolean⟩ := by decide +kernel
theorem pn0 : plainName x.cls = true := by first | (simp [x, plainName, overriddenIn]; done) | decide +kernel
theorem pn1 : plainName "java/lang/StringLatin1" = true := by first | (simp [plainName, overriddenIn]; done) | decide +kernel
theorem pn2 : plainName "java/lang/String" = true := by first | (simp [plainName, overriddenIn]; done) | decide +kernel
theorem pn3 : plainName "com/example/timeshed/timeshed/network/gtfs/TimetableNamesTripsPinLaw" = true := by first | (simp [plainName, overriddenIn]; done) | decide +kernel
theorem pn4 : plainName "java/lang/Record" = true := by first | (simp [plainName, overriddenIn]; done) | decide +kernel
theorem pn5 : plainName "com/example/timeshed/timeshed/network/gtfs/Timetable$Transfer" = true := by first | (simp [plainName, overriddenIn]; done) | decide +kernel

def Q3 (Z : State) (p1 : Int32) (h0 : Heap) (n0 : Nat) (v : Option Value) (h : Heap) (L : List Loc) : Prop := v = some (.int (1 : Int32)) ∧ Fr n0 L ∧ h = h0
set_option maxRecDepth 65536 in
set_option maxHeartbeats 40000000 in
theorem rm3 (l : Launch) (Z : State) (a0 : Array Value) (hw : ∀ d ∈ tables_1, d.before a0 Z = true) (p1 : Int32) (h0 : Heap) (n0 : Nat) (O0 : Old Z n0 h0) (hp1 : ¬ ((255 : Int32) < p1)) :
    Met l Z (⟨"java/lang/StringLatin1", "canEncode", "(C)Z"⟩ : MethodName) jdk_43_method_3_code 1 (some .boolean) ({ frames := 0, cells := 0, slots := 0, locals := 0 } : Room) [] #[(.int p1)] h0 (Q3 Z p1 h0 n0) := by
  refine met_of (L0 := #[.val (.int p1)]) (plainFor_of_name pn1) (fun m => by first | (simp [entryFrame, mkF, argsToLocals, Value.category]; done) | rfl) ?_
  intro p e s m below meth c T0 hx hby hml hown hnm hret hlk hZ X0 e0
  have N0 := Fr.nil n0
  refine o_iloadN X0 hx (hb hby d3_0) rfl rfl ?_
  refine o_sipush X0 hx (hb hby d3_1) (v := (255 : Int32)) rfl rfl ?_
  refine o_icmpNo X0 hx (hb hby d3_4) (flt hp1).2.2.1 rfl ?_
  refine o_iconst X0 hx (hb hby d3_7) (v := (1 : Int32)) rfl rfl ?_
  refine o_goto X0 hx (hb hby d3_8) (by decide) (pc' := 12) (by decide) ?_
  exact o_ret X0 hx hlk (t := .boolean) hret rfl (Or.inl ⟨rfl, by decide, _, rfl⟩) (hb hby d3_12) (by decide) (by decide) e0 ⟨rfl, N0, rfl⟩
def Q4 (Z : State) (p1 : Int32) (h0 : Heap) (n0 : Nat) (v : Option Value) (h : Heap) (L : List Loc) : Prop := ∃ t : Addr, ∃ k : ClassId, v = some (.ref t) ∧ Fr n0 L ∧ Keep h0 h [] ∧ (h0.size ≤ t) ∧ Arv Z h t k .byte (1 : Int32) [(.int (nar .byte (p1.toInt8.toInt32)))] (.int (0 : Int32))
set_option maxRecDepth 65536 in
set_option maxHeartbeats 40000000 in
theorem rm4 (l : Launch) (Z : State) (a0 : Array Value) (hw : ∀ d ∈ tables_1, d.before a0 Z = true) (p1 : Int32) (h0 : Heap) (n0 : Nat) (O0 : Old Z n0 h0) :
    Met l Z (⟨"java/lang/StringLatin1", "toBytes", "(C)[B"⟩ : MethodName) jdk_43_method_46_code 1 (some (.array .byte)) ({ frames := 0, cells := 1, slots := 1, locals := 0 } : Room) [] #[(.int p1)] h0 (Q4 Z p1 h0 n0) := by
  refine met_of (L0 := #[.val (.int p1)]) (plainFor_of_name pn1) (fun m => by first | (simp [entryFrame, mkF, argsToLocals, Value.category]; done) | rfl) ?_
  intro p e s m below meth c T0 hx hby hml hown hnm hret hlk hZ X0 e0
  have N0 := Fr.nil n0
  have KK0 : Keep h0 h0 [] := Keep.refl _ _
  refine o_iconst X0 hx (hb hby d4_0) (v := (1 : Int32)) rfl rfl ?_
  refine o_newP (aty := .byte) X0 hx hZ (wd18 hw) e0 (hb hby d4_1) (by decide) (cap := 1) (by decide) (by decide) (by decide) (by decide) (cells' := 1) (slots' := 1) rfl rfl rfl fun T1 h1 k1 b1 g1 X1 e1 E1 A1 => ?_
  have s_b1_h0 : h0.size ≤ b1 := Nat.le_trans KK0.1 (Nat.le_of_eq g1.symm)
  have n_b1 : n0 ≤ b1 := Nat.le_trans (O0.1 ▸ O0.2.1) (Nat.le_of_eq g1.symm)
  have KE1_h0 : Keep h0 h1 [] := KK0.ext E1
  have OE1 : Old Z n0 h1 := O0.ext E1
  have A_b1 : Arv Z h1 b1 k1 .byte (1 : Int32) [(.int (0 : Int32))] (.int (0 : Int32)) := (Arv.new A1 (by decide)).pad (pad_rep [] (.int (0 : Int32)) 1)
  refine o_dup X1 hx (hb hby d4_3) rfl rfl ?_
  refine o_iconst X1 hx (hb hby d4_4) (v := (0 : Int32)) rfl rfl ?_
  refine o_iloadN X1 hx (hb hby d4_5) rfl rfl ?_
  refine o_i2b X1 hx (hb hby d4_6) rfl ?_
  refine o_stB X1 hx hZ e1 A_b1 (i := 0) ⟨by decide, by decide⟩ (by decide) (Nat.le_of_ble_eq_true rfl) (hb hby d4_7) rfl fun T7 h7 X7 e7 W7 (A7 : Arv Z h7 b1 k1 .byte (1 : Int32) [(.int (nar .byte (p1.toInt8.toInt32)))] (.int (0 : Int32))) => ?_
  have N7 := Fr.snoc X7 N0 n_b1
  have KW7_h0 : Keep h0 h7 [] := KE1_h0.wr W7 (Or.inr s_b1_h0)
  have OW7 : Old Z n0 h7 := OE1.wr W7 n_b1
  exact o_ret X7 hx hlk (t := (.array .byte)) hret rfl (Or.inr (Or.inr (Or.inr (Or.inr ⟨rfl, rfl, rfl⟩)))) (hb hby d4_8) (by decide) (by decide) e7 ⟨b1, k1, rfl, N7, KW7_h0, s_b1_h0, A7⟩
def Q5 (Z : State) (a1 : Addr) (t1 : Addr) (h0 : Heap) (n0 : Nat) (v : Option Value) (h : Heap) (L : List Loc) : Prop := v = none ∧ Fr n0 L ∧ Keep h0 h [a1] ∧ Exa Z h a1 "java/lang/String" ∧ Fld Z h a1 "java/lang/String" "value" "[B" (.ref t1) ∧ Fld Z h a1 "java/lang/String" "coder" "B" (.int (0 : Int32))
set_option maxRecDepth 65536 in
set_option maxHeartbeats 40000000 in
theorem rm5 (l : Launch) (Z : State) (a0 : Array Value) (hw : ∀ d ∈ tables_1, d.before a0 Z = true) (a1 : Addr) (t1 : Addr) (h0 : Heap) (n0 : Nat) (O0 : Old Z n0 h0) (E_a1 : Exa Z h0 a1 "java/lang/String") (F_a1_value : Fld Z h0 a1 "java/lang/String" "value" "[B" .null) (F_a1_coder : Fld Z h0 a1 "java/lang/String" "coder" "B" (.int (0 : Int32))) (na1 : n0 ≤ a1) :
    Met l Z (⟨"java/lang/String", "<init>", "([BB)V"⟩ : MethodName) jdk_42_method_151_code 3 none ({ frames := 1, cells := 0, slots := 0, locals := 12 } : Room) [] #[(.ref a1), (.ref t1), (.int (0 : Int32))] h0 (Q5 Z a1 t1 h0 n0) := by
  refine met_of (L0 := #[.val (.ref a1), .val (.ref t1), .val (.int (0 : Int32))]) (plainFor_of_name pn2) (fun m => by first | (simp [entryFrame, mkF, argsToLocals, Value.category]; done) | rfl) ?_
  intro p e s m below meth c T0 hx hby hml hown hnm hret hlk hZ X0 e0
  have N0 := Fr.nil n0
  have KK0 : Keep h0 h0 [a1] := Keep.refl _ _
  refine o_aloadN X0 hx (hb hby d5_0) rfl rfl rfl ?_
  refine o_initO X0 hx hZ hown (wd23 hw) (wd24 hw) (wd25 hw) e0 (by rw [hml]; rfl) (hb hby d5_1) (by decide) (W := 0) rfl (by decide) rfl fun T1 X1 e1 => ?_
  refine o_aloadN X1 hx (hb hby d5_4) rfl rfl rfl ?_
  refine o_aloadN X1 hx (hb hby d5_5) rfl rfl rfl ?_
  refine o_putF X1 hx hZ hown (host := "") (Or.inl (wd26 hw)) Via.refl e1 F_a1_value E_a1 (Or.inr ⟨(wd27 hw), rfl, hnm⟩) (wd14 hw) (ty := (.array .byte)) (by decide) rfl rfl (hb hby d5_6) rfl fun T6 h6 X6 e6 W6 => ?_
  have F6 : Fld Z h6 a1 "java/lang/String" "value" "[B" (.ref t1) := F_a1_value.same W6
  have N6 := Fr.snoc X6 N0 na1
  have KW6_h0 : Keep h0 h6 [a1] := KK0.wr W6 (Or.inl (List.mem_of_getElem? (i := 0) rfl))
  have OW6 : Old Z n0 h6 := O0.wr W6 na1
  refine o_aloadN X6 hx (hb hby d5_9) rfl rfl rfl ?_
  refine o_iloadN X6 hx (hb hby d5_10) rfl rfl ?_
  have fF11 : Fld Z h6 a1 "java/lang/String" "coder" "B" (.int (0 : Int32)) := (F_a1_coder.other W6 (Or.inr (slot_ne (Z := Z) (a0 := a0) (Or.inr (wd29 hw)) (Or.inr (wd27 hw)) (by decide) (t := .byte) (t' := (.array .byte)) (by decide) (by decide))))
  have fE11 : Exa Z h6 a1 "java/lang/String" := (E_a1.wr W6)
  refine o_putF X6 hx hZ hown (host := "") (Or.inl (wd28 hw)) Via.refl e6 fF11 fE11 (Or.inr ⟨(wd29 hw), rfl, hnm⟩) (wd14 hw) (ty := .byte) (by decide) rfl rfl (hb hby d5_11) rfl fun T11 h11 X11 e11 W11 => ?_
  have F11 : Fld Z h11 a1 "java/lang/String" "coder" "B" (.int (0 : Int32)) := fF11.same W11
  have N11 := Fr.snoc X11 N6 na1
  have KW11_h0 : Keep h0 h11 [a1] := KW6_h0.wr W11 (Or.inl (List.mem_of_getElem? (i := 0) rfl))
  have OW11 : Old Z n0 h11 := OW6.wr W11 na1
  have fE14 : Exa Z h11 a1 "java/lang/String" := (fE11.wr W11)
  have fF14 : Fld Z h11 a1 "java/lang/String" "value" "[B" (.ref t1) := (F6.other W11 (Or.inr (slot_ne (Z := Z) (a0 := a0) (Or.inr (wd27 hw)) (Or.inr (wd29 hw)) (by decide) (t := (.array .byte)) (t' := .byte) (by decide) (by decide))))
  exact o_retV X11 hx hlk hret (hb hby d5_14) (by decide) (by decide) e11 ⟨rfl, N11, KW11_h0, fE14, fF14, F11⟩
def Q2 (Z : State) (p1 : Int32) (cs : Int32) (h0 : Heap) (n0 : Nat) (v : Option Value) (h : Heap) (L : List Loc) : Prop := ∃ b : Addr, ∃ t : Addr, ∃ k : ClassId, v = some (.ref b) ∧ Fr n0 L ∧ Keep h0 h [] ∧ (h0.size ≤ b) ∧ (h0.size ≤ t) ∧ Exa Z h b "java/lang/String" ∧ Fld Z h b "java/lang/String" "value" "[B" (.ref t) ∧ Fld Z h b "java/lang/String" "coder" "B" (.int (0 : Int32)) ∧ Arv Z h t k .byte (1 : Int32) [(.int (nar .byte (p1.toInt8.toInt32)))] (.int (0 : Int32))
set_option maxRecDepth 65536 in
set_option maxHeartbeats 40000000 in
theorem rm2 (l : Launch) (Z : State) (a0 : Array Value) (hw : ∀ d ∈ tables_1, d.before a0 Z = true) (p1 : Int32) (cs : Int32) (h0 : Heap) (n0 : Nat) (O0 : Old Z n0 h0) (S_COMPACT_STRINGS : Sta Z Z.heap "java/lang/String" "COMPACT_STRINGS" "Z" (.int cs)) (hcs : ¬ (cs = (0 : Int32))) (hp1 : ¬ ((255 : Int32) < p1)) :
    Met l Z (⟨"java/lang/String", "valueOf", "(C)Ljava/lang/String;"⟩ : MethodName) jdk_42_method_139_code 1 (some (.object "java/lang/String")) ({ frames := 2, cells := 2, slots := 5, locals := 27 } : Room) [] #[(.int p1)] h0 (Q2 Z p1 cs h0 n0) := by
  refine met_of (L0 := #[.val (.int p1)]) (plainFor_of_name pn2) (fun m => by first | (simp [entryFrame, mkF, argsToLocals, Value.category]; done) | rfl) ?_
  intro p e s m below meth c T0 hx hby hml hown hnm hret hlk hZ X0 e0
  have N0 := Fr.nil n0
  have KK0 : Keep h0 h0 [] := Keep.refl _ _
  refine o_getS X0 hx hZ hown (host := "") (Or.inl (wd8 hw)) Via.refl e0 (Sta.ext O0.2 S_COMPACT_STRINGS) (hb hby d2_0) rfl fun T0_2 X0_2 e0_2 => ?_
  refine o_ifNo X0_2 hx (hb hby d2_3) ((if0 _ _).trans (feq hcs).1) rfl ?_
  refine o_iloadN X0_2 hx (hb hby d2_6) rfl rfl ?_
  refine o_static X0_2 hx hZ hown (wd9 hw) (wd10 hw) (by decide) (rm3 l Z a0 hw p1 h0 n0 O0 hp1) (wd12 hw) (wd11 hw) e0_2 (by rw [hml]; rfl) (argsL := [(.int p1)]) (rest := []) (W := 0) pd0 rfl rfl rfl rfl (hb hby d2_7) (by decide) (by decide) (by decide) (by decide) (cells' := 0) (slots' := 0) rfl rfl rfl fun v7 T7 h7 Lc7 X7 e7 hq7 => ?_
  obtain ⟨rfl, N7q, K7⟩ := hq7
  have N7 := Fr.app N0 N7q
  have e7_2 : T7.heap = h0 := e7.trans K7
  show Goes p.tables e below (Ends s (Q2 Z p1 cs h0 n0) ({ frames := 2, cells := 2, slots := 5, locals := 27 } : Room).cells ({ frames := 2, cells := 2, slots := 5, locals := 27 } : Room).slots) (T7.setTop (mkF m 10 #[.val (.int p1)] [(.int (1 : Int32))]))
  refine o_ifNo X7 hx (hb hby d2_10) ((if0 _ _).trans (feq (by decide)).1) rfl ?_
  refine o_new X7 hx hZ hown (wd13 hw) (wd14 hw) (wd6 hw) e7_2 (hb hby d2_13) (by decide) (by decide) (cells' := 1) (slots' := 4) rfl rfl rfl fun T13 h13 b13 g13 X13 e13 E13 A13 D13 => ?_
  have s_b13_h0 : h0.size ≤ b13 := Nat.le_trans KK0.1 (Nat.le_of_eq g13.symm)
  have n_b13 : n0 ≤ b13 := Nat.le_trans (O0.1 ▸ O0.2.1) (Nat.le_of_eq g13.symm)
  have KE13_h0 : Keep h0 h13 [] := KK0.ext E13
  have OE13 : Old Z n0 h13 := O0.ext E13
  have Fb13_value : Fld Z h13 b13 "java/lang/String" "value" "[B" .null := D13 (Or.inr (wd27 hw)) (ty := (.array .byte)) (by decide)
  have Fb13_coder : Fld Z h13 b13 "java/lang/String" "coder" "B" (.int (0 : Int32)) := D13 (Or.inr (wd29 hw)) (ty := .byte) (by decide)
  refine o_dup X13 hx (hb hby d2_16) rfl rfl ?_
  refine o_iloadN X13 hx (hb hby d2_17) rfl rfl ?_
  refine o_static X13 hx hZ hown (wd15 hw) (wd16 hw) (by decide) (rm4 l Z a0 hw p1 h13 n0 OE13 ) (wd17 hw) (wd11 hw) e13 (by rw [hml]; rfl) (argsL := [(.int p1)]) (rest := [(.ref b13), (.ref b13)]) (W := 2) pd1 rfl rfl rfl rfl (hb hby d2_18) (by decide) (by decide) (by decide) (by decide) (cells' := 2) (slots' := 5) rfl rfl rfl fun v18 T18 h18 Lc18 X18 e18 hq18 => ?_
  obtain ⟨t_18, k_18, rfl, N18q, K18, ht_18, qA_18⟩ := hq18
  have N18 := Fr.app N7 N18q
  have s_t_18_h0 : h0.size ≤ t_18 := Nat.le_trans KE13_h0.1 ht_18
  have n_t_18 : n0 ≤ t_18 := Nat.le_trans (OE13.1 ▸ OE13.2.1) ht_18
  have KK18_h0 : Keep h0 h18 [] := KE13_h0.trans K18 all0
  have OK18 : Old Z n0 h18 := OE13.keep K18 all0
  show Goes p.tables e below (Ends s (Q2 Z p1 cs h0 n0) ({ frames := 2, cells := 2, slots := 5, locals := 27 } : Room).cells ({ frames := 2, cells := 2, slots := 5, locals := 27 } : Room).slots) (T18.setTop (mkF m 21 #[.val (.int p1)] [(.ref t_18), (.ref b13), (.ref b13)]))
  refine o_iconst X18 hx (hb hby d2_21) (v := (0 : Int32)) rfl rfl ?_
  have fE22 : Exa Z h18 b13 "java/lang/String" := (A13.keep K18)
  have fF22 : Fld Z h18 b13 "java/lang/String" "value" "[B" .null := (Fb13_value.keep K18 nin0)
  have fF22_2 : Fld Z h18 b13 "java/lang/String" "coder" "B" (.int (0 : Int32)) := (Fb13_coder.keep K18 nin0)
  refine o_special X18 hx hZ rfl rfl hown (wd19 hw) (wd20 hw) (by decide) (a := b13) (rm5 l Z a0 hw b13 t_18 h18 n0 OK18 fE22 fF22 fF22_2 n_b13) (wd22 hw) (wd6 hw) e18 (by rw [hml]; rfl) (argsL := [(.ref t_18), (.int (0 : Int32))]) (rest := [(.ref b13)]) (W := 1) pd2 rfl rfl rfl rfl (hb hby d2_22) (by decide) (by decide) (by decide) (by decide) (cells' := 2) (slots' := 5) rfl rfl rfl fun v22 T22 h22 Lc22 X22 e22 hq22 => ?_
  obtain ⟨rfl, N22q, K22, qE_22, qF_22, qF_22_2⟩ := hq22
  have N22 := Fr.app N18 N22q
  have KK22_h0 : Keep h0 h22 [] := KK18_h0.trans K22 (allS (Or.inr s_b13_h0) all0)
  have OK22 : Old Z n0 h22 := OK18.keep K22 (allS n_b13 all0)
  show Goes p.tables e below (Ends s (Q2 Z p1 cs h0 n0) ({ frames := 2, cells := 2, slots := 5, locals := 27 } : Room).cells ({ frames := 2, cells := 2, slots := 5, locals := 27 } : Room).slots) (T22.setTop (mkF m 25 #[.val (.int p1)] [(.ref b13)]))
  have fA25 : Arv Z h22 t_18 k_18 .byte (1 : Int32) [(.int (nar .byte (p1.toInt8.toInt32)))] (.int (0 : Int32)) := (qA_18.keep K22 (ninS (Ne.symm (Nat.ne_of_lt (Nat.lt_of_lt_of_le A13.lt ht_18))) nin0))
  exact o_ret X22 hx hlk (t := (.object "java/lang/String")) hret rfl (Or.inr (Or.inr (Or.inr (Or.inr ⟨rfl, rfl, rfl⟩)))) (hb hby d2_25) (by decide) (by decide) e22 ⟨b13, t_18, k_18, rfl, N22, KK22_h0, s_b13_h0, s_t_18_h0, qE_22, qF_22, qF_22_2, fA25⟩
def Q1 (Z : State) (p1 : Int32) (p2 : Int32) (cs : Int32) (h0 : Heap) (n0 : Nat) (v : Option Value) (h : Heap) (L : List Loc) : Prop := ∃ b : Addr, v = some (.ref b) ∧ Fr n0 L ∧ Keep h0 h []
set_option maxRecDepth 65536 in
set_option maxHeartbeats 40000000 in
theorem rm1 (l : Launch) (Z : State) (a0 : Array Value) (hw : ∀ d ∈ tables_1, d.before a0 Z = true) (p1 : Int32) (p2 : Int32) (cs : Int32) (h0 : Heap) (n0 : Nat) (O0 : Old Z n0 h0) (S_COMPACT_STRINGS : Sta Z Z.heap "java/lang/String" "COMPACT_STRINGS" "Z" (.int cs)) (hcs : ¬ (cs = (0 : Int32))) :
    MetW l Z (⟨"com/example/timeshed/timeshed/network/gtfs/TimetableNamesTripsPinLaw", "route", "(IZ)Ljava/lang/String;"⟩ : MethodName) method_3_code 2 (some (.object "java/lang/String")) ({ frames := 3, cells := 2, slots := 5, locals := 39 } : Room) [] #[(.int p1), (.int p2)] h0 (Q1 Z p1 p2 cs h0 n0) := by
  refine metW_of (L0 := #[.val (.int p1), .val (.int p2)]) (plainFor_of_name pn3) (fun m => by first | (simp [entryFrame, mkF, argsToLocals, Value.category]; done) | rfl) ?_
  intro p e s m below meth c T0 hx hby hml hown hnm hret hlk hZ X0 e0
  have N0 := Fr.nil n0
  have B0 := Base.start s h0
  have KK0 : Keep h0 h0 [] := Keep.refl _ _
  refine o_iloadN X0 hx (hb hby d1_0) rfl rfl ?_
  by_cases hc1 : p2 = (0 : Int32)
  ·
    refine o_ifYes X0 hx (hb hby d1_1) ((if0 _ _).trans (teq hc1).1) (by decide) (pc' := 7) (by decide) ?_
    refine o_iloadN X0 hx (hb hby d1_7) rfl rfl ?_
    refine o_sipush X0 hx (hb hby d1_8) (v := (255 : Int32)) rfl rfl ?_
    refine o_iand X0 hx (hb hby d1_11) rfl ?_
    refine o_i2c X0 hx (hb hby d1_12) rfl ?_
    refine o_static X0 hx hZ hown (wd4 hw) (wd5 hw) (by decide) (rm2 l Z a0 hw (((p1 &&& (255 : Int32)).toUInt32.toUInt16.toUInt32.toInt32)) cs h0 n0 O0 S_COMPACT_STRINGS hcs (own_c255 _)) (wd7 hw) (wd6 hw) e0 (by rw [hml]; rfl) (argsL := [(.int ((p1 &&& (255 : Int32)).toUInt32.toUInt16.toUInt32.toInt32))]) (rest := []) (W := 0) pd3 rfl rfl rfl rfl (hb hby d1_13) (by decide) (by decide) (by decide) (by decide) (cells' := 2) (slots' := 5) rfl rfl rfl fun v13 T13 h13 Lc13 X13 e13 hq13 => ?_
    obtain ⟨b_13, t_13, k_13, rfl, N13q, K13, hb_13, ht_13, qE_13, qF_13, qF_13_2, qA_13⟩ := hq13
    have N13 := Fr.app N0 N13q
    have s_b_13_h0 : h0.size ≤ b_13 := Nat.le_trans KK0.1 hb_13
    have n_b_13 : n0 ≤ b_13 := Nat.le_trans (O0.1 ▸ O0.2.1) hb_13
    have s_t_13_h0 : h0.size ≤ t_13 := Nat.le_trans KK0.1 ht_13
    have n_t_13 : n0 ≤ t_13 := Nat.le_trans (O0.1 ▸ O0.2.1) ht_13
    have KK13_h0 : Keep h0 h13 [] := KK0.trans K13 all0
    have OK13 : Old Z n0 h13 := O0.keep K13 all0
    show Goes p.tables e below (EndsW s (Q1 Z p1 p2 cs h0 n0) ({ frames := 3, cells := 2, slots := 5, locals := 39 } : Room).cells ({ frames := 3, cells := 2, slots := 5, locals := 39 } : Room).slots) (T13.setTop (mkF m 16 #[.val (.int p1), .val (.int p2)] [(.ref b_13)]))
    have B16 : Base s s h13 := (B0.up K13.1)
    exact o_retW X13 hx hlk (t := (.object "java/lang/String")) hret rfl (Or.inr (Or.inr (Or.inr (Or.inr ⟨rfl, rfl, rfl⟩)))) (hb hby d1_16) (by decide) (by decide) e13 B16 ⟨b_13, rfl, N13, KK13_h0⟩
  ·
    refine o_ifNo X0 hx (hb hby d1_1) ((if0 _ _).trans (feq hc1).1) rfl ?_
    refine o_ldcS X0 hx hZ hown (wd69 hw) (own_sa hw) e0 B0 (hb hby d1_4) (n := 0) (by decide) (by decide) (by decide) (by decide) (cells' := 2) (slots' := 4) rfl rfl rfl fun s4 T4 h4 a4 X4 e4 E4 B4 hZ4 hown4 => ?_
    have KE4_h0 : Keep h0 h4 [] := KK0.ext E4
    have OE4 : Old Z n0 h4 := O0.ext E4
    exact o_retW X4 hx hlk (t := (.object "java/lang/String")) hret rfl (Or.inr (Or.inr (Or.inr (Or.inr ⟨rfl, rfl, rfl⟩)))) (hb hby d1_6) (by decide) (by decide) e4 B4 ⟨a4, rfl, N0, KE4_h0⟩
def Q7 (Z : State) (p1 : Int32) (en0 : Value) (en1 : Value) (en2 : Value) (en3 : Value) (h0 : Heap) (n0 : Nat) (v : Option Value) (h : Heap) (L : List Loc) : Prop := ∃ u : Value, v = some u ∧ Fr n0 L ∧ h = h0 ∧ (u.isRef = true)
set_option maxRecDepth 65536 in
set_option maxHeartbeats 40000000 in
theorem rm7 (l : Launch) (Z : State) (a0 : Array Value) (hw : ∀ d ∈ tables_1, d.before a0 Z = true) (p1 : Int32) (en0 : Value) (en1 : Value) (en2 : Value) (en3 : Value) (h0 : Heap) (n0 : Nat) (O0 : Old Z n0 h0) (S_RECOMMENDED : Sta Z Z.heap "com/example/timeshed/timeshed/network/gtfs/Timetable$TransferType" "RECOMMENDED" "Lcom/example/timeshed/timeshed/network/gtfs/Timetable$TransferType;" en0) (ren0 : en0.isRef = true) (S_TIMED : Sta Z Z.heap "com/example/timeshed/timeshed/network/gtfs/Timetable$TransferType" "TIMED" "Lcom/example/timeshed/timeshed/network/gtfs/Timetable$TransferType;" en1) (ren1 : en1.isRef = true) (S_MINIMUM_TIME : Sta Z Z.heap "com/example/timeshed/timeshed/network/gtfs/Timetable$TransferType" "MINIMUM_TIME" "Lcom/example/timeshed/timeshed/network/gtfs/Timetable$TransferType;" en2) (ren2 : en2.isRef = true) (S_NOT_POSSIBLE : Sta Z Z.heap "com/example/timeshed/timeshed/network/gtfs/Timetable$TransferType" "NOT_POSSIBLE" "Lcom/example/timeshed/timeshed/network/gtfs/Timetable$TransferType;" en3) (ren3 : en3.isRef = true) :
    Met l Z (⟨"com/example/timeshed/timeshed/network/gtfs/TimetableNamesTripsPinLaw", "type", "(I)Lcom/example/timeshed/timeshed/network/gtfs/Timetable$TransferType;"⟩ : MethodName) method_4_code 1 (some (.object "com/example/timeshed/timeshed/network/gtfs/Timetable$TransferType")) ({ frames := 0, cells := 0, slots := 0, locals := 0 } : Room) [] #[(.int p1)] h0 (Q7 Z p1 en0 en1 en2 en3 h0 n0) := by
  refine met_of (L0 := #[.val (.int p1)]) (plainFor_of_name pn3) (fun m => by first | (simp [entryFrame, mkF, argsToLocals, Value.category]; done) | rfl) ?_
  intro p e s m below meth c T0 hx hby hml hown hnm hret hlk hZ X0 e0
  have N0 := Fr.nil n0
  refine o_iloadN X0 hx (hb hby d7_0) rfl rfl ?_
  by_cases hc1 : p1 = (0 : Int32)
  ·
    refine o_ifNo X0 hx (hb hby d7_1) ((if0 _ _).trans (teq hc1).2) rfl ?_
    refine o_getS X0 hx hZ hown (host := "") (Or.inl (wd33 hw)) Via.refl e0 (Sta.ext O0.2 S_RECOMMENDED) (hb hby d7_4) rfl fun T4 X4 e4 => ?_
    exact o_ret X4 hx hlk (t := (.object "com/example/timeshed/timeshed/network/gtfs/Timetable$TransferType")) hret (o_nar ren0) (Or.inr (Or.inr (Or.inr (Or.inr ⟨rfl, rfl, ren0⟩)))) (hb hby d7_7) (by decide) (by decide) e4 ⟨en0, rfl, N0, rfl, ren0⟩
  ·
    refine o_ifYes X0 hx (hb hby d7_1) ((if0 _ _).trans (feq hc1).2) (by decide) (pc' := 8) (by decide) ?_
    refine o_iloadN X0 hx (hb hby d7_8) rfl rfl ?_
    refine o_iconst X0 hx (hb hby d7_9) (v := (1 : Int32)) rfl rfl ?_
    by_cases hc10 : p1 = (1 : Int32)
    ·
      refine o_icmpNo X0 hx (hb hby d7_10) (teq hc10).2 rfl ?_
      refine o_getS X0 hx hZ hown (host := "") (Or.inl (wd76 hw)) Via.refl e0 (Sta.ext O0.2 S_TIMED) (hb hby d7_13) rfl fun T13 X13 e13 => ?_
      exact o_ret X13 hx hlk (t := (.object "com/example/timeshed/timeshed/network/gtfs/Timetable$TransferType")) hret (o_nar ren1) (Or.inr (Or.inr (Or.inr (Or.inr ⟨rfl, rfl, ren1⟩)))) (hb hby d7_16) (by decide) (by decide) e13 ⟨en1, rfl, N0, rfl, ren1⟩
    ·
      refine o_icmpYes X0 hx (hb hby d7_10) (feq hc10).2 (by decide) (pc' := 17) (by decide) ?_
      refine o_iloadN X0 hx (hb hby d7_17) rfl rfl ?_
      refine o_iconst X0 hx (hb hby d7_18) (v := (2 : Int32)) rfl rfl ?_
      by_cases hc19 : p1 = (2 : Int32)
      ·
        refine o_icmpNo X0 hx (hb hby d7_19) (teq hc19).2 rfl ?_
        refine o_getS X0 hx hZ hown (host := "") (Or.inl (wd74 hw)) Via.refl e0 (Sta.ext O0.2 S_MINIMUM_TIME) (hb hby d7_22) rfl fun T22 X22 e22 => ?_
        exact o_ret X22 hx hlk (t := (.object "com/example/timeshed/timeshed/network/gtfs/Timetable$TransferType")) hret (o_nar ren2) (Or.inr (Or.inr (Or.inr (Or.inr ⟨rfl, rfl, ren2⟩)))) (hb hby d7_25) (by decide) (by decide) e22 ⟨en2, rfl, N0, rfl, ren2⟩
      ·
        refine o_icmpYes X0 hx (hb hby d7_19) (feq hc19).2 (by decide) (pc' := 26) (by decide) ?_
        refine o_getS X0 hx hZ hown (host := "") (Or.inl (wd72 hw)) Via.refl e0 (Sta.ext O0.2 S_NOT_POSSIBLE) (hb hby d7_26) rfl fun T26 X26 e26 => ?_
        exact o_ret X26 hx hlk (t := (.object "com/example/timeshed/timeshed/network/gtfs/Timetable$TransferType")) hret (o_nar ren3) (Or.inr (Or.inr (Or.inr (Or.inr ⟨rfl, rfl, ren3⟩)))) (hb hby d7_29) (by decide) (by decide) e26 ⟨en3, rfl, N0, rfl, ren3⟩
def Q9 (Z : State) (a1 : Addr) (h0 : Heap) (n0 : Nat) (v : Option Value) (h : Heap) (L : List Loc) : Prop := v = none ∧ Fr n0 L ∧ h = h0
set_option maxRecDepth 65536 in
set_option maxHeartbeats 40000000 in
theorem rm9 (l : Launch) (Z : State) (a0 : Array Value) (hw : ∀ d ∈ tables_1, d.before a0 Z = true) (a1 : Addr) (h0 : Heap) (n0 : Nat) (O0 : Old Z n0 h0) :
    Met l Z (⟨"java/lang/Record", "<init>", "()V"⟩ : MethodName) jdk_30_method_1_code 1 none ({ frames := 1, cells := 0, slots := 0, locals := 12 } : Room) [] #[(.ref a1)] h0 (Q9 Z a1 h0 n0) := by
  refine met_of (L0 := #[.val (.ref a1)]) (plainFor_of_name pn4) (fun m => by first | (simp [entryFrame, mkF, argsToLocals, Value.category]; done) | rfl) ?_
  intro p e s m below meth c T0 hx hby hml hown hnm hret hlk hZ X0 e0
  have N0 := Fr.nil n0
  refine o_aloadN X0 hx (hb hby d9_0) rfl rfl rfl ?_
  refine o_initO X0 hx hZ hown (wd47 hw) (wd24 hw) (wd25 hw) e0 (by rw [hml]; rfl) (hb hby d9_1) (by decide) (W := 0) rfl (by decide) rfl fun T1 X1 e1 => ?_
  exact o_retV X1 hx hlk hret (hb hby d9_4) (by decide) (by decide) e1 ⟨rfl, N0, rfl⟩
def Q8 (Z : State) (a1 : Addr) (p1 : Int32) (p2 : Int32) (p3 : Int32) (u4 : Value) (p5 : Int32) (u6 : Value) (u7 : Value) (p8 : Int32) (h0 : Heap) (n0 : Nat) (v : Option Value) (h : Heap) (L : List Loc) : Prop := v = none ∧ Fr n0 L ∧ Keep h0 h [a1] ∧ Exa Z h a1 "com/example/timeshed/timeshed/network/gtfs/Timetable$Transfer" ∧ Fld Z h a1 "com/example/timeshed/timeshed/network/gtfs/Timetable$Transfer" "fromTrip" "I" (.int p3) ∧ Fld Z h a1 "com/example/timeshed/timeshed/network/gtfs/Timetable$Transfer" "fromRoute" "Ljava/lang/String;" u4 ∧ Fld Z h a1 "com/example/timeshed/timeshed/network/gtfs/Timetable$Transfer" "toTrip" "I" (.int p5) ∧ Fld Z h a1 "com/example/timeshed/timeshed/network/gtfs/Timetable$Transfer" "toRoute" "Ljava/lang/String;" u6
set_option maxRecDepth 65536 in
set_option maxHeartbeats 40000000 in
theorem rm8 (l : Launch) (Z : State) (a0 : Array Value) (hw : ∀ d ∈ tables_1, d.before a0 Z = true) (a1 : Addr) (p1 : Int32) (p2 : Int32) (p3 : Int32) (u4 : Value) (p5 : Int32) (u6 : Value) (u7 : Value) (p8 : Int32) (h0 : Heap) (n0 : Nat) (O0 : Old Z n0 h0) (E_a1 : Exa Z h0 a1 "com/example/timeshed/timeshed/network/gtfs/Timetable$Transfer") (F_a1_fromStop : Fld Z h0 a1 "com/example/timeshed/timeshed/network/gtfs/Timetable$Transfer" "fromStop" "I" (.int (0 : Int32))) (F_a1_toStop : Fld Z h0 a1 "com/example/timeshed/timeshed/network/gtfs/Timetable$Transfer" "toStop" "I" (.int (0 : Int32))) (F_a1_fromTrip : Fld Z h0 a1 "com/example/timeshed/timeshed/network/gtfs/Timetable$Transfer" "fromTrip" "I" (.int (0 : Int32))) (F_a1_fromRoute : Fld Z h0 a1 "com/example/timeshed/timeshed/network/gtfs/Timetable$Transfer" "fromRoute" "Ljava/lang/String;" .null) (F_a1_toTrip : Fld Z h0 a1 "com/example/timeshed/timeshed/network/gtfs/Timetable$Transfer" "toTrip" "I" (.int (0 : Int32))) (F_a1_toRoute : Fld Z h0 a1 "com/example/timeshed/timeshed/network/gtfs/Timetable$Transfer" "toRoute" "Ljava/lang/String;" .null) (F_a1_type : Fld Z h0 a1 "com/example/timeshed/timeshed/network/gtfs/Timetable$Transfer" "type" "Lcom/example/timeshed/timeshed/network/gtfs/Timetable$TransferType;" .null) (F_a1_minimumTime : Fld Z h0 a1 "com/example/timeshed/timeshed/network/gtfs/Timetable$Transfer" "minimumTime" "I" (.int (0 : Int32))) (na1 : n0 ≤ a1) (ru4 : u4.isRef = true) (ru6 : u6.isRef = true) (ru7 : u7.isRef = true) :
    Met l Z (⟨"com/example/timeshed/timeshed/network/gtfs/Timetable$Transfer", "<init>", "(IIILjava/lang/String;ILjava/lang/String;Lcom/example/timeshed/timeshed/network/gtfs/Timetable$TransferType;I)V"⟩ : MethodName) prog_109_method_1_code 9 none ({ frames := 2, cells := 0, slots := 0, locals := 24 } : Room) [] #[(.ref a1), (.int p1), (.int p2), (.int p3), u4, (.int p5), u6, u7, (.int p8)] h0 (Q8 Z a1 p1 p2 p3 u4 p5 u6 u7 p8 h0 n0) := by
  refine met_of (L0 := #[.val (.ref a1), .val (.int p1), .val (.int p2), .val (.int p3), .val u4, .val (.int p5), .val u6, .val u7, .val (.int p8)]) (plainFor_of_name pn5) (fun m => by rcases ref_cases ru4 with rfl | ⟨_, rfl⟩ <;> rcases ref_cases ru6 with rfl | ⟨_, rfl⟩ <;> rcases ref_cases ru7 with rfl | ⟨_, rfl⟩ <;> rfl) ?_
  intro p e s m below meth c T0 hx hby hml hown hnm hret hlk hZ X0 e0
  have N0 := Fr.nil n0
  have KK0 : Keep h0 h0 [a1] := Keep.refl _ _
  refine o_aloadN X0 hx (hb hby d8_0) rfl rfl rfl ?_
  refine o_special X0 hx hZ rfl rfl hown (wd42 hw) (wd43 hw) (by decide) (a := a1) (rm9 l Z a0 hw a1 h0 n0 O0 ) (wd46 hw) (wd45 hw) e0 (by rw [hml]; rfl) (argsL := []) (rest := []) (W := 0) pd4 rfl rfl rfl rfl (hb hby d8_1) (by decide) (by decide) (by decide) (by decide) (cells' := 0) (slots' := 0) rfl rfl rfl fun v1 T1 h1 Lc1 X1 e1 hq1 => ?_
  obtain ⟨rfl, N1q, K1⟩ := hq1
  have N1 := Fr.app N0 N1q
  have e1_2 : T1.heap = h0 := e1.trans K1
  show Goes p.tables e below (Ends s (Q8 Z a1 p1 p2 p3 u4 p5 u6 u7 p8 h0 n0) ({ frames := 2, cells := 0, slots := 0, locals := 24 } : Room).cells ({ frames := 2, cells := 0, slots := 0, locals := 24 } : Room).slots) (T1.setTop (mkF m 4 #[.val (.ref a1), .val (.int p1), .val (.int p2), .val (.int p3), .val u4, .val (.int p5), .val u6, .val u7, .val (.int p8)] []))
  refine o_aloadN X1 hx (hb hby d8_4) rfl rfl rfl ?_
  refine o_iloadN X1 hx (hb hby d8_5) rfl rfl ?_
  refine o_putF X1 hx hZ hown (host := "") (Or.inl (wd48 hw)) Via.refl e1_2 F_a1_fromStop E_a1 (Or.inr ⟨(wd49 hw), rfl, hnm⟩) (wd37 hw) (ty := .int) (by decide) rfl rfl (hb hby d8_6) rfl fun T6 h6 X6 e6 W6 => ?_
  have F6 : Fld Z h6 a1 "com/example/timeshed/timeshed/network/gtfs/Timetable$Transfer" "fromStop" "I" (.int p1) := F_a1_fromStop.same W6
  have N6 := Fr.snoc X6 N1 na1
  have KW6_h0 : Keep h0 h6 [a1] := KK0.wr W6 (Or.inl (List.mem_of_getElem? (i := 0) rfl))
  have OW6 : Old Z n0 h6 := O0.wr W6 na1
  refine o_aloadN X6 hx (hb hby d8_9) rfl rfl rfl ?_
  refine o_iloadN X6 hx (hb hby d8_10) rfl rfl ?_
  have fF11 : Fld Z h6 a1 "com/example/timeshed/timeshed/network/gtfs/Timetable$Transfer" "toStop" "I" (.int (0 : Int32)) := (F_a1_toStop.other W6 (Or.inr (slot_ne (Z := Z) (a0 := a0) (Or.inr (wd51 hw)) (Or.inr (wd49 hw)) (by decide) (t := .int) (t' := .int) (by decide) (by decide))))
  have fE11 : Exa Z h6 a1 "com/example/timeshed/timeshed/network/gtfs/Timetable$Transfer" := (E_a1.wr W6)
  refine o_putF X6 hx hZ hown (host := "") (Or.inl (wd50 hw)) Via.refl e6 fF11 fE11 (Or.inr ⟨(wd51 hw), rfl, hnm⟩) (wd37 hw) (ty := .int) (by decide) rfl rfl (hb hby d8_11) rfl fun T11 h11 X11 e11 W11 => ?_
  have F11 : Fld Z h11 a1 "com/example/timeshed/timeshed/network/gtfs/Timetable$Transfer" "toStop" "I" (.int p2) := fF11.same W11
  have N11 := Fr.snoc X11 N6 na1
  have KW11_h0 : Keep h0 h11 [a1] := KW6_h0.wr W11 (Or.inl (List.mem_of_getElem? (i := 0) rfl))
  have OW11 : Old Z n0 h11 := OW6.wr W11 na1
  refine o_aloadN X11 hx (hb hby d8_14) rfl rfl rfl ?_
  refine o_iloadN X11 hx (hb hby d8_15) rfl rfl ?_
  have fF16 : Fld Z h11 a1 "com/example/timeshed/timeshed/network/gtfs/Timetable$Transfer" "fromTrip" "I" (.int (0 : Int32)) := ((F_a1_fromTrip.other W6 (Or.inr (slot_ne (Z := Z) (a0 := a0) (Or.inr (wd53 hw)) (Or.inr (wd49 hw)) (by decide) (t := .int) (t' := .int) (by decide) (by decide)))).other W11 (Or.inr (slot_ne (Z := Z) (a0 := a0) (Or.inr (wd53 hw)) (Or.inr (wd51 hw)) (by decide) (t := .int) (t' := .int) (by decide) (by decide))))
  have fE16 : Exa Z h11 a1 "com/example/timeshed/timeshed/network/gtfs/Timetable$Transfer" := (fE11.wr W11)
  refine o_putF X11 hx hZ hown (host := "") (Or.inl (wd52 hw)) Via.refl e11 fF16 fE16 (Or.inr ⟨(wd53 hw), rfl, hnm⟩) (wd37 hw) (ty := .int) (by decide) rfl rfl (hb hby d8_16) rfl fun T16 h16 X16 e16 W16 => ?_
  have F16 : Fld Z h16 a1 "com/example/timeshed/timeshed/network/gtfs/Timetable$Transfer" "fromTrip" "I" (.int p3) := fF16.same W16
  have N16 := Fr.snoc X16 N11 na1
  have KW16_h0 : Keep h0 h16 [a1] := KW11_h0.wr W16 (Or.inl (List.mem_of_getElem? (i := 0) rfl))
  have OW16 : Old Z n0 h16 := OW11.wr W16 na1
  refine o_aloadN X16 hx (hb hby d8_19) rfl rfl rfl ?_
  refine o_aload X16 hx (hb hby d8_20) rfl ru4 rfl ?_
  have fF22 : Fld Z h16 a1 "com/example/timeshed/timeshed/network/gtfs/Timetable$Transfer" "fromRoute" "Ljava/lang/String;" .null := (((F_a1_fromRoute.other W6 (Or.inr (slot_ne (Z := Z) (a0 := a0) (Or.inr (wd55 hw)) (Or.inr (wd49 hw)) (by decide) (t := (.object "java/lang/String")) (t' := .int) (by decide) (by decide)))).other W11 (Or.inr (slot_ne (Z := Z) (a0 := a0) (Or.inr (wd55 hw)) (Or.inr (wd51 hw)) (by decide) (t := (.object "java/lang/String")) (t' := .int) (by decide) (by decide)))).other W16 (Or.inr (slot_ne (Z := Z) (a0 := a0) (Or.inr (wd55 hw)) (Or.inr (wd53 hw)) (by decide) (t := (.object "java/lang/String")) (t' := .int) (by decide) (by decide))))
  have fE22 : Exa Z h16 a1 "com/example/timeshed/timeshed/network/gtfs/Timetable$Transfer" := (fE16.wr W16)
  refine o_putF X16 hx hZ hown (host := "") (Or.inl (wd54 hw)) Via.refl e16 fF22 fE22 (Or.inr ⟨(wd55 hw), rfl, hnm⟩) (wd37 hw) (ty := (.object "java/lang/String")) (by decide) (o_nar ru4) (o_fit ru4) (hb hby d8_22) rfl fun T22 h22 X22 e22 W22 => ?_
  have F22 : Fld Z h22 a1 "com/example/timeshed/timeshed/network/gtfs/Timetable$Transfer" "fromRoute" "Ljava/lang/String;" u4 := fF22.same W22
  have N22 := Fr.snoc X22 N16 na1
  have KW22_h0 : Keep h0 h22 [a1] := KW16_h0.wr W22 (Or.inl (List.mem_of_getElem? (i := 0) rfl))
  have OW22 : Old Z n0 h22 := OW16.wr W22 na1
  refine o_aloadN X22 hx (hb hby d8_25) rfl rfl rfl ?_
  refine o_iload X22 hx (hb hby d8_26) rfl rfl ?_
  have fF28 : Fld Z h22 a1 "com/example/timeshed/timeshed/network/gtfs/Timetable$Transfer" "toTrip" "I" (.int (0 : Int32)) := ((((F_a1_toTrip.other W6 (Or.inr (slot_ne (Z := Z) (a0 := a0) (Or.inr (wd57 hw)) (Or.inr (wd49 hw)) (by decide) (t := .int) (t' := .int) (by decide) (by decide)))).other W11 (Or.inr (slot_ne (Z := Z) (a0 := a0) (Or.inr (wd57 hw)) (Or.inr (wd51 hw)) (by decide) (t := .int) (t' := .int) (by decide) (by decide)))).other W16 (Or.inr (slot_ne (Z := Z) (a0 := a0) (Or.inr (wd57 hw)) (Or.inr (wd53 hw)) (by decide) (t := .int) (t' := .int) (by decide) (by decide)))).other W22 (Or.inr (slot_ne (Z := Z) (a0 := a0) (Or.inr (wd57 hw)) (Or.inr (wd55 hw)) (by decide) (t := .int) (t' := (.object "java/lang/String")) (by decide) (by decide))))
  have fE28 : Exa Z h22 a1 "com/example/timeshed/timeshed/network/gtfs/Timetable$Transfer" := (fE22.wr W22)
  refine o_putF X22 hx hZ hown (host := "") (Or.inl (wd56 hw)) Via.refl e22 fF28 fE28 (Or.inr ⟨(wd57 hw), rfl, hnm⟩) (wd37 hw) (ty := .int) (by decide) rfl rfl (hb hby d8_28) rfl fun T28 h28 X28 e28 W28 => ?_
  have F28 : Fld Z h28 a1 "com/example/timeshed/timeshed/network/gtfs/Timetable$Transfer" "toTrip" "I" (.int p5) := fF28.same W28
  have N28 := Fr.snoc X28 N22 na1
  have KW28_h0 : Keep h0 h28 [a1] := KW22_h0.wr W28 (Or.inl (List.mem_of_getElem? (i := 0) rfl))
  have OW28 : Old Z n0 h28 := OW22.wr W28 na1
  refine o_aloadN X28 hx (hb hby d8_31) rfl rfl rfl ?_
  refine o_aload X28 hx (hb hby d8_32) rfl ru6 rfl ?_
  have fF34 : Fld Z h28 a1 "com/example/timeshed/timeshed/network/gtfs/Timetable$Transfer" "toRoute" "Ljava/lang/String;" .null := (((((F_a1_toRoute.other W6 (Or.inr (slot_ne (Z := Z) (a0 := a0) (Or.inr (wd59 hw)) (Or.inr (wd49 hw)) (by decide) (t := (.object "java/lang/String")) (t' := .int) (by decide) (by decide)))).other W11 (Or.inr (slot_ne (Z := Z) (a0 := a0) (Or.inr (wd59 hw)) (Or.inr (wd51 hw)) (by decide) (t := (.object "java/lang/String")) (t' := .int) (by decide) (by decide)))).other W16 (Or.inr (slot_ne (Z := Z) (a0 := a0) (Or.inr (wd59 hw)) (Or.inr (wd53 hw)) (by decide) (t := (.object "java/lang/String")) (t' := .int) (by decide) (by decide)))).other W22 (Or.inr (slot_ne (Z := Z) (a0 := a0) (Or.inr (wd59 hw)) (Or.inr (wd55 hw)) (by decide) (t := (.object "java/lang/String")) (t' := (.object "java/lang/String")) (by decide) (by decide)))).other W28 (Or.inr (slot_ne (Z := Z) (a0 := a0) (Or.inr (wd59 hw)) (Or.inr (wd57 hw)) (by decide) (t := (.object "java/lang/String")) (t' := .int) (by decide) (by decide))))
  have fE34 : Exa Z h28 a1 "com/example/timeshed/timeshed/network/gtfs/Timetable$Transfer" := (fE28.wr W28)
  refine o_putF X28 hx hZ hown (host := "") (Or.inl (wd58 hw)) Via.refl e28 fF34 fE34 (Or.inr ⟨(wd59 hw), rfl, hnm⟩) (wd37 hw) (ty := (.object "java/lang/String")) (by decide) (o_nar ru6) (o_fit ru6) (hb hby d8_34) rfl fun T34 h34 X34 e34 W34 => ?_
  have F34 : Fld Z h34 a1 "com/example/timeshed/timeshed/network/gtfs/Timetable$Transfer" "toRoute" "Ljava/lang/String;" u6 := fF34.same W34
  have N34 := Fr.snoc X34 N28 na1
  have KW34_h0 : Keep h0 h34 [a1] := KW28_h0.wr W34 (Or.inl (List.mem_of_getElem? (i := 0) rfl))
  have OW34 : Old Z n0 h34 := OW28.wr W34 na1
  refine o_aloadN X34 hx (hb hby d8_37) rfl rfl rfl ?_
  refine o_aload X34 hx (hb hby d8_38) rfl ru7 rfl ?_
  have fF40 : Fld Z h34 a1 "com/example/timeshed/timeshed/network/gtfs/Timetable$Transfer" "type" "Lcom/example/timeshed/timeshed/network/gtfs/Timetable$TransferType;" .null := ((((((F_a1_type.other W6 (Or.inr (slot_ne (Z := Z) (a0 := a0) (Or.inr (wd61 hw)) (Or.inr (wd49 hw)) (by decide) (t := (.object "com/example/timeshed/timeshed/network/gtfs/Timetable$TransferType")) (t' := .int) (by decide) (by decide)))).other W11 (Or.inr (slot_ne (Z := Z) (a0 := a0) (Or.inr (wd61 hw)) (Or.inr (wd51 hw)) (by decide) (t := (.object "com/example/timeshed/timeshed/network/gtfs/Timetable$TransferType")) (t' := .int) (by decide) (by decide)))).other W16 (Or.inr (slot_ne (Z := Z) (a0 := a0) (Or.inr (wd61 hw)) (Or.inr (wd53 hw)) (by decide) (t := (.object "com/example/timeshed/timeshed/network/gtfs/Timetable$TransferType")) (t' := .int) (by decide) (by decide)))).other W22 (Or.inr (slot_ne (Z := Z) (a0 := a0) (Or.inr (wd61 hw)) (Or.inr (wd55 hw)) (by decide) (t := (.object "com/example/timeshed/timeshed/network/gtfs/Timetable$TransferType")) (t' := (.object "java/lang/String")) (by decide) (by decide)))).other W28 (Or.inr (slot_ne (Z := Z) (a0 := a0) (Or.inr (wd61 hw)) (Or.inr (wd57 hw)) (by decide) (t := (.object "com/example/timeshed/timeshed/network/gtfs/Timetable$TransferType")) (t' := .int) (by decide) (by decide)))).other W34 (Or.inr (slot_ne (Z := Z) (a0 := a0) (Or.inr (wd61 hw)) (Or.inr (wd59 hw)) (by decide) (t := (.object "com/example/timeshed/timeshed/network/gtfs/Timetable$TransferType")) (t' := (.object "java/lang/String")) (by decide) (by decide))))
  have fE40 : Exa Z h34 a1 "com/example/timeshed/timeshed/network/gtfs/Timetable$Transfer" := (fE34.wr W34)
  refine o_putF X34 hx hZ hown (host := "") (Or.inl (wd60 hw)) Via.refl e34 fF40 fE40 (Or.inr ⟨(wd61 hw), rfl, hnm⟩) (wd37 hw) (ty := (.object "com/example/timeshed/timeshed/network/gtfs/Timetable$TransferType")) (by decide) (o_nar ru7) (o_fit ru7) (hb hby d8_40) rfl fun T40 h40 X40 e40 W40 => ?_
  have F40 : Fld Z h40 a1 "com/example/timeshed/timeshed/network/gtfs/Timetable$Transfer" "type" "Lcom/example/timeshed/timeshed/network/gtfs/Timetable$TransferType;" u7 := fF40.same W40
  have N40 := Fr.snoc X40 N34 na1
  have KW40_h0 : Keep h0 h40 [a1] := KW34_h0.wr W40 (Or.inl (List.mem_of_getElem? (i := 0) rfl))
  have OW40 : Old Z n0 h40 := OW34.wr W40 na1
  refine o_aloadN X40 hx (hb hby d8_43) rfl rfl rfl ?_
  refine o_iload X40 hx (hb hby d8_44) rfl rfl ?_
  have fF46 : Fld Z h40 a1 "com/example/timeshed/timeshed/network/gtfs/Timetable$Transfer" "minimumTime" "I" (.int (0 : Int32)) := (((((((F_a1_minimumTime.other W6 (Or.inr (slot_ne (Z := Z) (a0 := a0) (Or.inr (wd63 hw)) (Or.inr (wd49 hw)) (by decide) (t := .int) (t' := .int) (by decide) (by decide)))).other W11 (Or.inr (slot_ne (Z := Z) (a0 := a0) (Or.inr (wd63 hw)) (Or.inr (wd51 hw)) (by decide) (t := .int) (t' := .int) (by decide) (by decide)))).other W16 (Or.inr (slot_ne (Z := Z) (a0 := a0) (Or.inr (wd63 hw)) (Or.inr (wd53 hw)) (by decide) (t := .int) (t' := .int) (by decide) (by decide)))).other W22 (Or.inr (slot_ne (Z := Z) (a0 := a0) (Or.inr (wd63 hw)) (Or.inr (wd55 hw)) (by decide) (t := .int) (t' := (.object "java/lang/String")) (by decide) (by decide)))).other W28 (Or.inr (slot_ne (Z := Z) (a0 := a0) (Or.inr (wd63 hw)) (Or.inr (wd57 hw)) (by decide) (t := .int) (t' := .int) (by decide) (by decide)))).other W34 (Or.inr (slot_ne (Z := Z) (a0 := a0) (Or.inr (wd63 hw)) (Or.inr (wd59 hw)) (by decide) (t := .int) (t' := (.object "java/lang/String")) (by decide) (by decide)))).other W40 (Or.inr (slot_ne (Z := Z) (a0 := a0) (Or.inr (wd63 hw)) (Or.inr (wd61 hw)) (by decide) (t := .int) (t' := (.object "com/example/timeshed/timeshed/network/gtfs/Timetable$TransferType")) (by decide) (by decide))))
  have fE46 : Exa Z h40 a1 "com/example/timeshed/timeshed/network/gtfs/Timetable$Transfer" := (fE40.wr W40)
  refine o_putF X40 hx hZ hown (host := "") (Or.inl (wd62 hw)) Via.refl e40 fF46 fE46 (Or.inr ⟨(wd63 hw), rfl, hnm⟩) (wd37 hw) (ty := .int) (by decide) rfl rfl (hb hby d8_46) rfl fun T46 h46 X46 e46 W46 => ?_
  have F46 : Fld Z h46 a1 "com/example/timeshed/timeshed/network/gtfs/Timetable$Transfer" "minimumTime" "I" (.int p8) := fF46.same W46
  have N46 := Fr.snoc X46 N40 na1
  have KW46_h0 : Keep h0 h46 [a1] := KW40_h0.wr W46 (Or.inl (List.mem_of_getElem? (i := 0) rfl))
  have OW46 : Old Z n0 h46 := OW40.wr W46 na1
  have fE49 : Exa Z h46 a1 "com/example/timeshed/timeshed/network/gtfs/Timetable$Transfer" := (fE46.wr W46)
  have fF49 : Fld Z h46 a1 "com/example/timeshed/timeshed/network/gtfs/Timetable$Transfer" "fromTrip" "I" (.int p3) := (((((F16.other W22 (Or.inr (slot_ne (Z := Z) (a0 := a0) (Or.inr (wd53 hw)) (Or.inr (wd55 hw)) (by decide) (t := .int) (t' := (.object "java/lang/String")) (by decide) (by decide)))).other W28 (Or.inr (slot_ne (Z := Z) (a0 := a0) (Or.inr (wd53 hw)) (Or.inr (wd57 hw)) (by decide) (t := .int) (t' := .int) (by decide) (by decide)))).other W34 (Or.inr (slot_ne (Z := Z) (a0 := a0) (Or.inr (wd53 hw)) (Or.inr (wd59 hw)) (by decide) (t := .int) (t' := (.object "java/lang/String")) (by decide) (by decide)))).other W40 (Or.inr (slot_ne (Z := Z) (a0 := a0) (Or.inr (wd53 hw)) (Or.inr (wd61 hw)) (by decide) (t := .int) (t' := (.object "com/example/timeshed/timeshed/network/gtfs/Timetable$TransferType")) (by decide) (by decide)))).other W46 (Or.inr (slot_ne (Z := Z) (a0 := a0) (Or.inr (wd53 hw)) (Or.inr (wd63 hw)) (by decide) (t := .int) (t' := .int) (by decide) (by decide))))
  have fF49_2 : Fld Z h46 a1 "com/example/timeshed/timeshed/network/gtfs/Timetable$Transfer" "fromRoute" "Ljava/lang/String;" u4 := ((((F22.other W28 (Or.inr (slot_ne (Z := Z) (a0 := a0) (Or.inr (wd55 hw)) (Or.inr (wd57 hw)) (by decide) (t := (.object "java/lang/String")) (t' := .int) (by decide) (by decide)))).other W34 (Or.inr (slot_ne (Z := Z) (a0 := a0) (Or.inr (wd55 hw)) (Or.inr (wd59 hw)) (by decide) (t := (.object "java/lang/String")) (t' := (.object "java/lang/String")) (by decide) (by decide)))).other W40 (Or.inr (slot_ne (Z := Z) (a0 := a0) (Or.inr (wd55 hw)) (Or.inr (wd61 hw)) (by decide) (t := (.object "java/lang/String")) (t' := (.object "com/example/timeshed/timeshed/network/gtfs/Timetable$TransferType")) (by decide) (by decide)))).other W46 (Or.inr (slot_ne (Z := Z) (a0 := a0) (Or.inr (wd55 hw)) (Or.inr (wd63 hw)) (by decide) (t := (.object "java/lang/String")) (t' := .int) (by decide) (by decide))))
  have fF49_3 : Fld Z h46 a1 "com/example/timeshed/timeshed/network/gtfs/Timetable$Transfer" "toTrip" "I" (.int p5) := (((F28.other W34 (Or.inr (slot_ne (Z := Z) (a0 := a0) (Or.inr (wd57 hw)) (Or.inr (wd59 hw)) (by decide) (t := .int) (t' := (.object "java/lang/String")) (by decide) (by decide)))).other W40 (Or.inr (slot_ne (Z := Z) (a0 := a0) (Or.inr (wd57 hw)) (Or.inr (wd61 hw)) (by decide) (t := .int) (t' := (.object "com/example/timeshed/timeshed/network/gtfs/Timetable$TransferType")) (by decide) (by decide)))).other W46 (Or.inr (slot_ne (Z := Z) (a0 := a0) (Or.inr (wd57 hw)) (Or.inr (wd63 hw)) (by decide) (t := .int) (t' := .int) (by decide) (by decide))))
  have fF49_4 : Fld Z h46 a1 "com/example/timeshed/timeshed/network/gtfs/Timetable$Transfer" "toRoute" "Ljava/lang/String;" u6 := ((F34.other W40 (Or.inr (slot_ne (Z := Z) (a0 := a0) (Or.inr (wd59 hw)) (Or.inr (wd61 hw)) (by decide) (t := (.object "java/lang/String")) (t' := (.object "com/example/timeshed/timeshed/network/gtfs/Timetable$TransferType")) (by decide) (by decide)))).other W46 (Or.inr (slot_ne (Z := Z) (a0 := a0) (Or.inr (wd59 hw)) (Or.inr (wd63 hw)) (by decide) (t := (.object "java/lang/String")) (t' := .int) (by decide) (by decide))))
  exact o_retV X46 hx hlk hret (hb hby d8_49) (by decide) (by decide) e46 ⟨rfl, N46, KW46_h0, fE49, fF49, fF49_2, fF49_3, fF49_4⟩
def Q10 (Z : State) (a1 : Addr) (p3 : Int32) (u4 : Value) (p5 : Int32) (u6 : Value) (h0 : Heap) (n0 : Nat) (v : Option Value) (h : Heap) (L : List Loc) : Prop := ∃ z : Int32, v = some (.int z) ∧ Fr n0 L ∧ h = h0 ∧ (z = 1 ∧ (¬ (p3 < (0 : Int32)) ∨ ¬ (u4 = .null) ∨ ¬ (p5 < (0 : Int32)) ∨ ¬ (u6 = .null)) ∨ z = 0 ∧ ¬ (¬ (p3 < (0 : Int32)) ∨ ¬ (u4 = .null) ∨ ¬ (p5 < (0 : Int32)) ∨ ¬ (u6 = .null)))
set_option maxRecDepth 65536 in
set_option maxHeartbeats 40000000 in
theorem rm10 (l : Launch) (Z : State) (a0 : Array Value) (hw : ∀ d ∈ tables_1, d.before a0 Z = true) (a1 : Addr) (p3 : Int32) (u4 : Value) (p5 : Int32) (u6 : Value) (h0 : Heap) (n0 : Nat) (O0 : Old Z n0 h0) (F_a1_fromTrip : Fld Z h0 a1 "com/example/timeshed/timeshed/network/gtfs/Timetable$Transfer" "fromTrip" "I" (.int p3)) (F_a1_fromRoute : Fld Z h0 a1 "com/example/timeshed/timeshed/network/gtfs/Timetable$Transfer" "fromRoute" "Ljava/lang/String;" u4) (F_a1_toTrip : Fld Z h0 a1 "com/example/timeshed/timeshed/network/gtfs/Timetable$Transfer" "toTrip" "I" (.int p5)) (F_a1_toRoute : Fld Z h0 a1 "com/example/timeshed/timeshed/network/gtfs/Timetable$Transfer" "toRoute" "Ljava/lang/String;" u6) (ru4 : u4.isRef = true) (ru6 : u6.isRef = true) :
    Met l Z (⟨"com/example/timeshed/timeshed/network/gtfs/Timetable$Transfer", "namesTrips", "()Z"⟩ : MethodName) prog_109_method_2_code 1 (some .boolean) ({ frames := 0, cells := 0, slots := 0, locals := 0 } : Room) [] #[(.ref a1)] h0 (Q10 Z a1 p3 u4 p5 u6 h0 n0) := by
  refine met_of (L0 := #[.val (.ref a1)]) (plainFor_of_name pn5) (fun m => by first | (simp [entryFrame, mkF, argsToLocals, Value.category]; done) | rfl) ?_
  intro p e s m below meth c T0 hx hby hml hown hnm hret hlk hZ X0 e0
  have N0 := Fr.nil n0
  refine o_aloadN X0 hx (hb hby d10_0) rfl rfl rfl ?_
  refine o_getF X0 hx hZ hown (host := "") (Or.inl (wd52 hw)) Via.refl e0 F_a1_fromTrip (hb hby d10_1) rfl fun T1 X1 e1 => ?_
  by_cases hc4 : p3 < (0 : Int32)
  ·
    refine o_ifNo X1 hx (hb hby d10_4) ((if0 _ _).trans (tlt hc4).2.1) rfl ?_
    refine o_aloadN X1 hx (hb hby d10_7) rfl rfl rfl ?_
    refine o_getF X1 hx hZ hown (host := "") (Or.inl (wd54 hw)) Via.refl e1 F_a1_fromRoute (hb hby d10_8) rfl fun T8 X8 e8 => ?_
    rcases ref_cases ru4 with rfl | ⟨b11, rfl⟩
    ·
      refine o_ifnonnullNo X8 hx (hb hby d10_11) rfl ?_
      refine o_aloadN X8 hx (hb hby d10_14) rfl rfl rfl ?_
      refine o_getF X8 hx hZ hown (host := "") (Or.inl (wd56 hw)) Via.refl e8 F_a1_toTrip (hb hby d10_15) rfl fun T15 X15 e15 => ?_
      by_cases hc18 : p5 < (0 : Int32)
      ·
        refine o_ifNo X15 hx (hb hby d10_18) ((if0 _ _).trans (tlt hc18).2.1) rfl ?_
        refine o_aloadN X15 hx (hb hby d10_21) rfl rfl rfl ?_
        refine o_getF X15 hx hZ hown (host := "") (Or.inl (wd58 hw)) Via.refl e15 F_a1_toRoute (hb hby d10_22) rfl fun T22 X22 e22 => ?_
        rcases ref_cases ru6 with rfl | ⟨b25, rfl⟩
        ·
          refine o_ifnullYes X22 hx (hb hby d10_25) (by decide) (pc' := 32) (by decide) ?_
          refine o_iconst X22 hx (hb hby d10_32) (v := (0 : Int32)) rfl rfl ?_
          exact o_ret X22 hx hlk (t := .boolean) hret rfl (Or.inl ⟨rfl, by decide, _, rfl⟩) (hb hby d10_33) (by decide) (by decide) e22 ⟨(0 : Int32), rfl, N0, rfl, (Or.inr ⟨rfl, fun q => q.elim (fun h => h hc4) (fun q => q.elim (fun h => h rfl) (fun q => q.elim (fun h => h hc18) (fun h => h rfl)))⟩)⟩
        ·
          refine o_ifnullNo X22 hx (hb hby d10_25) rfl ?_
          refine o_iconst X22 hx (hb hby d10_28) (v := (1 : Int32)) rfl rfl ?_
          refine o_goto X22 hx (hb hby d10_29) (by decide) (pc' := 33) (by decide) ?_
          exact o_ret X22 hx hlk (t := .boolean) hret rfl (Or.inl ⟨rfl, by decide, _, rfl⟩) (hb hby d10_33) (by decide) (by decide) e22 ⟨(1 : Int32), rfl, N0, rfl, (Or.inl ⟨rfl, Or.inr (Or.inr (Or.inr nofun))⟩)⟩
      ·
        refine o_ifYes X15 hx (hb hby d10_18) ((if0 _ _).trans (flt hc18).2.1) (by decide) (pc' := 28) (by decide) ?_
        refine o_iconst X15 hx (hb hby d10_28) (v := (1 : Int32)) rfl rfl ?_
        refine o_goto X15 hx (hb hby d10_29) (by decide) (pc' := 33) (by decide) ?_
        exact o_ret X15 hx hlk (t := .boolean) hret rfl (Or.inl ⟨rfl, by decide, _, rfl⟩) (hb hby d10_33) (by decide) (by decide) e15 ⟨(1 : Int32), rfl, N0, rfl, (Or.inl ⟨rfl, Or.inr (Or.inr (Or.inl hc18))⟩)⟩
    ·
      refine o_ifnonnullYes X8 hx (hb hby d10_11) (by decide) (pc' := 28) (by decide) ?_
      refine o_iconst X8 hx (hb hby d10_28) (v := (1 : Int32)) rfl rfl ?_
      refine o_goto X8 hx (hb hby d10_29) (by decide) (pc' := 33) (by decide) ?_
      exact o_ret X8 hx hlk (t := .boolean) hret rfl (Or.inl ⟨rfl, by decide, _, rfl⟩) (hb hby d10_33) (by decide) (by decide) e8 ⟨(1 : Int32), rfl, N0, rfl, (Or.inl ⟨rfl, Or.inr (Or.inl nofun)⟩)⟩
  ·
    refine o_ifYes X1 hx (hb hby d10_4) ((if0 _ _).trans (flt hc4).2.1) (by decide) (pc' := 28) (by decide) ?_
    refine o_iconst X1 hx (hb hby d10_28) (v := (1 : Int32)) rfl rfl ?_
    refine o_goto X1 hx (hb hby d10_29) (by decide) (pc' := 33) (by decide) ?_
    exact o_ret X1 hx hlk (t := .boolean) hret rfl (Or.inl ⟨rfl, by decide, _, rfl⟩) (hb hby d10_33) (by decide) (by decide) e1 ⟨(1 : Int32), rfl, N0, rfl, (Or.inl ⟨rfl, Or.inl hc4⟩)⟩
def Q0 (Z : State) (p0 : Int32) (p1 : Int32) (p2 : Int32) (p3 : Int32) (p4 : Int32) (p5 : Int32) (cs : Int32) (en0 : Value) (en1 : Value) (en2 : Value) (en3 : Value) (h0 : Heap) (n0 : Nat) (v : Option Value) (h : Heap) (L : List Loc) : Prop := v = some (.int (1 : Int32)) ∧ Fr n0 L ∧ Keep h0 h []
set_option maxRecDepth 65536 in
set_option maxHeartbeats 40000000 in
theorem rm0 (l : Launch) (Z : State) (a0 : Array Value) (hw : ∀ d ∈ tables_1, d.before a0 Z = true) (ws : List Jvm.Cond) (p0 : Int32) (p1 : Int32) (p2 : Int32) (p3 : Int32) (p4 : Int32) (p5 : Int32) (cs : Int32) (en0 : Value) (en1 : Value) (en2 : Value) (en3 : Value) (h0 : Heap) (n0 : Nat) (O0 : Old Z n0 h0) (S_COMPACT_STRINGS : Sta Z Z.heap "java/lang/String" "COMPACT_STRINGS" "Z" (.int cs)) (hcs : ¬ (cs = (0 : Int32))) (S_RECOMMENDED : Sta Z Z.heap "com/example/timeshed/timeshed/network/gtfs/Timetable$TransferType" "RECOMMENDED" "Lcom/example/timeshed/timeshed/network/gtfs/Timetable$TransferType;" en0) (ren0 : en0.isRef = true) (S_TIMED : Sta Z Z.heap "com/example/timeshed/timeshed/network/gtfs/Timetable$TransferType" "TIMED" "Lcom/example/timeshed/timeshed/network/gtfs/Timetable$TransferType;" en1) (ren1 : en1.isRef = true) (S_MINIMUM_TIME : Sta Z Z.heap "com/example/timeshed/timeshed/network/gtfs/Timetable$TransferType" "MINIMUM_TIME" "Lcom/example/timeshed/timeshed/network/gtfs/Timetable$TransferType;" en2) (ren2 : en2.isRef = true) (S_NOT_POSSIBLE : Sta Z Z.heap "com/example/timeshed/timeshed/network/gtfs/Timetable$TransferType" "NOT_POSSIBLE" "Lcom/example/timeshed/timeshed/network/gtfs/Timetable$TransferType;" en3) (ren3 : en3.isRef = true) :
    MetW l Z x code maxLocals ret room_1 ws #[(.int p0), (.int p1), (.int p2), (.int p3), (.int p4), (.int p5)] h0 (Q0 Z p0 p1 p2 p3 p4 p5 cs en0 en1 en2 en3 h0 n0) := by
  refine metW_of (L0 := #[.val (.int p0), .val (.int p1), .val (.int p2), .val (.int p3), .val (.int p4), .val (.int p5), .unset, .unset, .unset, .unset, .unset, .unset, .unset]) (plainFor_of_name pn0) (fun m => by first | (simp [entryFrame, mkF, argsToLocals, Value.category, maxLocals]; done) | rfl) ?_
  intro p e s m below meth c T0 hx hby hml hown hnm hret hlk hZ X0 e0
  have N0 := Fr.nil n0
  have B0 := Base.start s h0
  have KK0 : Keep h0 h0 [] := Keep.refl _ _
  refine o_iloadN X0 hx (hb hby at_0) rfl rfl ?_
  refine o_iconst X0 hx (hb hby at_1) (v := (1 : Int32)) rfl rfl ?_
  refine o_iand X0 hx (hb hby at_2) rfl ?_
  suffices J11 : ∀ (z11 : Int32) (hz11 : z11 = 0 ∨ z11 = 1), Goes p.tables e below (EndsW s (Q0 Z p0 p1 p2 p3 p4 p5 cs en0 en1 en2 en3 h0 n0) room_1.cells room_1.slots) (T0.setTop (mkF m 11 #[.val (.int p0), .val (.int p1), .val (.int p2), .val (.int p3), .val (.int p4), .val (.int p5), .unset, .unset, .unset, .unset, .unset, .unset, .unset] [(.int z11)])) by
    by_cases hc3 : (p2 &&& (1 : Int32)) = (0 : Int32)
    ·
      refine o_ifYes X0 hx (hb hby at_3) ((if0 _ _).trans (teq hc3).1) (by decide) (pc' := 10) (by decide) ?_
      refine o_iconst X0 hx (hb hby at_10) (v := (0 : Int32)) rfl rfl ?_
      exact J11 (0 : Int32) (Or.inl rfl)
    ·
      refine o_ifNo X0 hx (hb hby at_3) ((if0 _ _).trans (feq hc3).1) rfl ?_
      refine o_iconst X0 hx (hb hby at_6) (v := (1 : Int32)) rfl rfl ?_
      refine o_goto X0 hx (hb hby at_7) (by decide) (pc' := 11) (by decide) ?_
      exact J11 (1 : Int32) (Or.inr rfl)
  intro z11 hz11
  refine o_istore X0 hx (hb hby at_11) (L' := #[.val (.int p0), .val (.int p1), .val (.int p2), .val (.int p3), .val (.int p4), .val (.int p5), .val (.int z11), .unset, .unset, .unset, .unset, .unset, .unset]) rfl rfl ?_
  refine o_iloadN X0 hx (hb hby at_13) rfl rfl ?_
  refine o_iconst X0 hx (hb hby at_14) (v := (2 : Int32)) rfl rfl ?_
  refine o_iand X0 hx (hb hby at_15) rfl ?_
  suffices J24 : ∀ (z24 : Int32) (hz24 : z24 = 0 ∨ z24 = 1), Goes p.tables e below (EndsW s (Q0 Z p0 p1 p2 p3 p4 p5 cs en0 en1 en2 en3 h0 n0) room_1.cells room_1.slots) (T0.setTop (mkF m 24 #[.val (.int p0), .val (.int p1), .val (.int p2), .val (.int p3), .val (.int p4), .val (.int p5), .val (.int z11), .unset, .unset, .unset, .unset, .unset, .unset] [(.int z24)])) by
    by_cases hc16 : (p2 &&& (2 : Int32)) = (0 : Int32)
    ·
      refine o_ifYes X0 hx (hb hby at_16) ((if0 _ _).trans (teq hc16).1) (by decide) (pc' := 23) (by decide) ?_
      refine o_iconst X0 hx (hb hby at_23) (v := (0 : Int32)) rfl rfl ?_
      exact J24 (0 : Int32) (Or.inl rfl)
    ·
      refine o_ifNo X0 hx (hb hby at_16) ((if0 _ _).trans (feq hc16).1) rfl ?_
      refine o_iconst X0 hx (hb hby at_19) (v := (1 : Int32)) rfl rfl ?_
      refine o_goto X0 hx (hb hby at_20) (by decide) (pc' := 24) (by decide) ?_
      exact J24 (1 : Int32) (Or.inr rfl)
  intro z24 hz24
  refine o_istore X0 hx (hb hby at_24) (L' := #[.val (.int p0), .val (.int p1), .val (.int p2), .val (.int p3), .val (.int p4), .val (.int p5), .val (.int z11), .val (.int z24), .unset, .unset, .unset, .unset, .unset]) rfl rfl ?_
  refine o_iload X0 hx (hb hby at_26) rfl rfl ?_
  suffices J53 : ∀ (T53 : State) (l53 : List Loc) (s53 : State) (h53 : Heap) (z53 : Value) (X53 : Stand p l e room_1 s53 m #[(.int p0), (.int p1), (.int p2), (.int p3), (.int p4), (.int p5)] below meth c T53 l53 2 5) (e53 : T53.heap = h53) (N53 : Fr n0 l53) (KJ53 : Keep h0 h53 []) (hZ53 : Z.Warmed39 s53.vm) (hown53 : s53.vm.findClass "com/example/timeshed/timeshed/network/gtfs/TimetableNamesTripsPinLaw" = some m.cls) (B53 : Base s s53 h53) (r_z53 : z53.isRef = true) (hz53 : z11 = 0 ∧ z53 = .null ∨ ¬ (z11 = 0) ∧ ¬ (z53 = .null)), Goes p.tables e below (EndsW s (Q0 Z p0 p1 p2 p3 p4 p5 cs en0 en1 en2 en3 h0 n0) room_1.cells room_1.slots) (T53.setTop (mkF m 53 #[.val (.int p0), .val (.int p1), .val (.int p2), .val (.int p3), .val (.int p4), .val (.int p5), .val (.int z11), .val (.int z24), .unset, .unset, .unset, .unset, .unset] [z53])) by
    by_cases hc28 : z11 = (0 : Int32)
    ·
      refine o_ifYes X0 hx (hb hby at_28) ((if0 _ _).trans (teq hc28).1) (by decide) (pc' := 52) (by decide) ?_
      refine o_aconstNull X0 hx (hb hby at_52) rfl ?_
      exact J53 T0 _ s h0 (.null) (X0.more (by decide) (by decide)) e0 N0 KK0 hZ hown B0 rfl (Or.inl ⟨hc28, rfl⟩)
    ·
      refine o_ifNo X0 hx (hb hby at_28) ((if0 _ _).trans (feq hc28).1) rfl ?_
      refine o_iloadN X0 hx (hb hby at_31) rfl rfl ?_
      refine o_bipush X0 hx (hb hby at_32) (v := (8 : Int32)) rfl rfl ?_
      refine o_iushr X0 hx (hb hby at_34) rfl ?_
      refine o_iloadN X0 hx (hb hby at_35) rfl rfl ?_
      refine o_iconst X0 hx (hb hby at_36) (v := (4 : Int32)) rfl rfl ?_
      refine o_iand X0 hx (hb hby at_37) rfl ?_
      suffices J46 : ∀ (z46 : Int32) (hz46 : z46 = 0 ∨ z46 = 1), Goes p.tables e below (EndsW s (Q0 Z p0 p1 p2 p3 p4 p5 cs en0 en1 en2 en3 h0 n0) room_1.cells room_1.slots) (T0.setTop (mkF m 46 #[.val (.int p0), .val (.int p1), .val (.int p2), .val (.int p3), .val (.int p4), .val (.int p5), .val (.int z11), .val (.int z24), .unset, .unset, .unset, .unset, .unset] [(.int z46), (.int ((p2.toUInt32 >>> ((8 : Int32) &&& 31).toUInt32).toInt32))])) by
        by_cases hc38 : (p2 &&& (4 : Int32)) = (0 : Int32)
        ·
          refine o_ifYes X0 hx (hb hby at_38) ((if0 _ _).trans (teq hc38).1) (by decide) (pc' := 45) (by decide) ?_
          refine o_iconst X0 hx (hb hby at_45) (v := (0 : Int32)) rfl rfl ?_
          exact J46 (0 : Int32) (Or.inl rfl)
        ·
          refine o_ifNo X0 hx (hb hby at_38) ((if0 _ _).trans (feq hc38).1) rfl ?_
          refine o_iconst X0 hx (hb hby at_41) (v := (1 : Int32)) rfl rfl ?_
          refine o_goto X0 hx (hb hby at_42) (by decide) (pc' := 46) (by decide) ?_
          exact J46 (1 : Int32) (Or.inr rfl)
      intro z46 hz46
      refine o_staticW X0 hx hZ hown (wd0 hw) (wd1 hw) (by decide) (rm1 l Z a0 hw (((p2.toUInt32 >>> ((8 : Int32) &&& 31).toUInt32).toInt32)) z46 cs h0 n0 O0 S_COMPACT_STRINGS hcs) (wd3 hw) (wd2 hw) e0 B0 (by rw [hml]; rfl) (argsL := [(.int ((p2.toUInt32 >>> ((8 : Int32) &&& 31).toUInt32).toInt32)), (.int z46)]) (rest := []) (W := 0) pd5 rfl rfl rfl rfl (hb hby at_46) (by decide) (by decide) (by decide) (by decide) (cells' := 2) (slots' := 5) rfl rfl rfl fun v46 s46 T46 h46 Lc46 X46 e46 gs46 B46 hZ46 hown46 hq46 => ?_
      obtain ⟨b_46, rfl, N46q, K46⟩ := hq46
      have N46 := Fr.app N0 N46q
      have KK46_h0 : Keep h0 h46 [] := KK0.trans K46 all0
      have OK46 : Old Z n0 h46 := O0.keep K46 all0
      show Goes p.tables e below (EndsW s (Q0 Z p0 p1 p2 p3 p4 p5 cs en0 en1 en2 en3 h0 n0) room_1.cells room_1.slots) (T46.setTop (mkF m 49 #[.val (.int p0), .val (.int p1), .val (.int p2), .val (.int p3), .val (.int p4), .val (.int p5), .val (.int z11), .val (.int z24), .unset, .unset, .unset, .unset, .unset] [(.ref b_46)]))
      refine o_goto X46 hx (hb hby at_49) (by decide) (pc' := 53) (by decide) ?_
      exact J53 T46 _ s46 h46 (.ref b_46) X46 e46 N46 KK46_h0 hZ46 hown46 B46 rfl (Or.inr ⟨hc28, nofun⟩)
  intro T53 l53 s53 h53 z53 X53 e53 N53 KJ53 hZ53 hown53 B53 r_z53 hz53
  have KKJ53_h0 : Keep h0 h53 [] := KK0.trans KJ53 all0
  have OKJ53 : Old Z n0 h53 := O0.keep KJ53 all0
  refine o_astore X53 hx (hb hby at_53) r_z53 (L' := #[.val (.int p0), .val (.int p1), .val (.int p2), .val (.int p3), .val (.int p4), .val (.int p5), .val (.int z11), .val (.int z24), .val z53, .unset, .unset, .unset, .unset]) (XS.store1 (o := .unset) rfl (Or.inl rfl) (o_cat r_z53)) rfl ?_
  refine o_iload X53 hx (hb hby at_55) rfl rfl ?_
  suffices J83 : ∀ (T83 : State) (l83 : List Loc) (s83 : State) (h83 : Heap) (z83 : Value) (X83 : Stand p l e room_1 s83 m #[(.int p0), (.int p1), (.int p2), (.int p3), (.int p4), (.int p5)] below meth c T83 l83 4 10) (e83 : T83.heap = h83) (N83 : Fr n0 l83) (KJ83 : Keep h53 h83 []) (hZ83 : Z.Warmed39 s83.vm) (hown83 : s83.vm.findClass "com/example/timeshed/timeshed/network/gtfs/TimetableNamesTripsPinLaw" = some m.cls) (B83 : Base s s83 h83) (r_z83 : z83.isRef = true) (hz83 : z24 = 0 ∧ z83 = .null ∨ ¬ (z24 = 0) ∧ ¬ (z83 = .null)), Goes p.tables e below (EndsW s (Q0 Z p0 p1 p2 p3 p4 p5 cs en0 en1 en2 en3 h0 n0) room_1.cells room_1.slots) (T83.setTop (mkF m 83 #[.val (.int p0), .val (.int p1), .val (.int p2), .val (.int p3), .val (.int p4), .val (.int p5), .val (.int z11), .val (.int z24), .val z53, .unset, .unset, .unset, .unset] [z83])) by
    have KR57 : Keep h53 h53 [] := Keep.refl _ _
    by_cases hc57 : z24 = (0 : Int32)
    ·
      refine o_ifYes X53 hx (hb hby at_57) ((if0 _ _).trans (teq hc57).1) (by decide) (pc' := 82) (by decide) ?_
      refine o_aconstNull X53 hx (hb hby at_82) rfl ?_
      exact J83 T53 _ s53 h53 (.null) (X53.more (by decide) (by decide)) e53 N53 KR57 hZ53 hown53 B53 rfl (Or.inl ⟨hc57, rfl⟩)
    ·
      refine o_ifNo X53 hx (hb hby at_57) ((if0 _ _).trans (feq hc57).1) rfl ?_
      refine o_iloadN X53 hx (hb hby at_60) rfl rfl ?_
      refine o_bipush X53 hx (hb hby at_61) (v := (16 : Int32)) rfl rfl ?_
      refine o_iushr X53 hx (hb hby at_63) rfl ?_
      refine o_iloadN X53 hx (hb hby at_64) rfl rfl ?_
      refine o_bipush X53 hx (hb hby at_65) (v := (8 : Int32)) rfl rfl ?_
      refine o_iand X53 hx (hb hby at_67) rfl ?_
      suffices J76 : ∀ (z76 : Int32) (hz76 : z76 = 0 ∨ z76 = 1), Goes p.tables e below (EndsW s (Q0 Z p0 p1 p2 p3 p4 p5 cs en0 en1 en2 en3 h0 n0) room_1.cells room_1.slots) (T53.setTop (mkF m 76 #[.val (.int p0), .val (.int p1), .val (.int p2), .val (.int p3), .val (.int p4), .val (.int p5), .val (.int z11), .val (.int z24), .val z53, .unset, .unset, .unset, .unset] [(.int z76), (.int ((p2.toUInt32 >>> ((16 : Int32) &&& 31).toUInt32).toInt32))])) by
        by_cases hc68 : (p2 &&& (8 : Int32)) = (0 : Int32)
        ·
          refine o_ifYes X53 hx (hb hby at_68) ((if0 _ _).trans (teq hc68).1) (by decide) (pc' := 75) (by decide) ?_
          refine o_iconst X53 hx (hb hby at_75) (v := (0 : Int32)) rfl rfl ?_
          exact J76 (0 : Int32) (Or.inl rfl)
        ·
          refine o_ifNo X53 hx (hb hby at_68) ((if0 _ _).trans (feq hc68).1) rfl ?_
          refine o_iconst X53 hx (hb hby at_71) (v := (1 : Int32)) rfl rfl ?_
          refine o_goto X53 hx (hb hby at_72) (by decide) (pc' := 76) (by decide) ?_
          exact J76 (1 : Int32) (Or.inr rfl)
      intro z76 hz76
      refine o_staticW X53 hx hZ53 hown53 (wd0 hw) (wd1 hw) (by decide) (rm1 l Z a0 hw (((p2.toUInt32 >>> ((16 : Int32) &&& 31).toUInt32).toInt32)) z76 cs h53 n0 OKJ53 S_COMPACT_STRINGS hcs) (wd3 hw) (wd2 hw) e53 B53 (by rw [hml]; rfl) (argsL := [(.int ((p2.toUInt32 >>> ((16 : Int32) &&& 31).toUInt32).toInt32)), (.int z76)]) (rest := []) (W := 0) pd5 rfl rfl rfl rfl (hb hby at_76) (by decide) (by decide) (by decide) (by decide) (cells' := 4) (slots' := 10) rfl rfl rfl fun v76 s76 T76 h76 Lc76 X76 e76 gs76 B76 hZ76 hown76 hq76 => ?_
      obtain ⟨b_76, rfl, N76q, K76⟩ := hq76
      have N76 := Fr.app N53 N76q
      have KK76_h0 : Keep h0 h76 [] := KKJ53_h0.trans K76 all0
      have KK76_h53 : Keep h53 h76 [] := KR57.trans K76 all0
      have OK76 : Old Z n0 h76 := OKJ53.keep K76 all0
      show Goes p.tables e below (EndsW s (Q0 Z p0 p1 p2 p3 p4 p5 cs en0 en1 en2 en3 h0 n0) room_1.cells room_1.slots) (T76.setTop (mkF m 79 #[.val (.int p0), .val (.int p1), .val (.int p2), .val (.int p3), .val (.int p4), .val (.int p5), .val (.int z11), .val (.int z24), .val z53, .unset, .unset, .unset, .unset] [(.ref b_76)]))
      refine o_goto X76 hx (hb hby at_79) (by decide) (pc' := 83) (by decide) ?_
      exact J83 T76 _ s76 h76 (.ref b_76) X76 e76 N76 KK76_h53 hZ76 hown76 B76 rfl (Or.inr ⟨hc57, nofun⟩)
  intro T83 l83 s83 h83 z83 X83 e83 N83 KJ83 hZ83 hown83 B83 r_z83 hz83
  have KKJ83_h0 : Keep h0 h83 [] := KKJ53_h0.trans KJ83 all0
  have OKJ83 : Old Z n0 h83 := OKJ53.keep KJ83 all0
  refine o_astore X83 hx (hb hby at_83) r_z83 (L' := #[.val (.int p0), .val (.int p1), .val (.int p2), .val (.int p3), .val (.int p4), .val (.int p5), .val (.int z11), .val (.int z24), .val z53, .val z83, .unset, .unset, .unset]) (XS.store1 (o := .unset) rfl (Or.inl rfl) (o_cat r_z83)) rfl ?_
  refine o_iloadN X83 hx (hb hby at_85) rfl rfl ?_
  refine o_bipush X83 hx (hb hby at_86) (v := (24 : Int32)) rfl rfl ?_
  refine o_iushr X83 hx (hb hby at_88) rfl ?_
  refine o_iconst X83 hx (hb hby at_89) (v := (3 : Int32)) rfl rfl ?_
  refine o_iand X83 hx (hb hby at_90) rfl ?_
  refine o_static X83 hx hZ83 hown83 (wd30 hw) (wd31 hw) (by decide) (rm7 l Z a0 hw ((((p2.toUInt32 >>> ((24 : Int32) &&& 31).toUInt32).toInt32) &&& (3 : Int32))) en0 en1 en2 en3 h83 n0 OKJ83 S_RECOMMENDED (ren0) S_TIMED (ren1) S_MINIMUM_TIME (ren2) S_NOT_POSSIBLE (ren3)) (wd32 hw) (wd2 hw) e83 (by rw [hml]; rfl) (argsL := [(.int (((p2.toUInt32 >>> ((24 : Int32) &&& 31).toUInt32).toInt32) &&& (3 : Int32)))]) (rest := []) (W := 0) pd6 rfl rfl rfl rfl (hb hby at_91) (by decide) (by decide) (by decide) (by decide) (cells' := 4) (slots' := 10) rfl rfl rfl fun v91 T91 h91 Lc91 X91 e91 hq91 => ?_
  obtain ⟨u_91, rfl, N91q, K91, ru_91⟩ := hq91
  have N91 := Fr.app N83 N91q
  have e91_2 : T91.heap = h83 := e91.trans K91
  show Goes p.tables e below (EndsW s (Q0 Z p0 p1 p2 p3 p4 p5 cs en0 en1 en2 en3 h0 n0) room_1.cells room_1.slots) (T91.setTop (mkF m 94 #[.val (.int p0), .val (.int p1), .val (.int p2), .val (.int p3), .val (.int p4), .val (.int p5), .val (.int z11), .val (.int z24), .val z53, .val z83, .unset, .unset, .unset] [u_91]))
  refine o_astore X91 hx (hb hby at_94) ru_91 (L' := #[.val (.int p0), .val (.int p1), .val (.int p2), .val (.int p3), .val (.int p4), .val (.int p5), .val (.int z11), .val (.int z24), .val z53, .val z83, .val u_91, .unset, .unset]) (XS.store1 (o := .unset) rfl (Or.inl rfl) (o_cat ru_91)) rfl ?_
  refine o_new X91 hx hZ83 hown83 (wd36 hw) (wd37 hw) (wd38 hw) e91_2 (hb hby at_96) (by decide) (by decide) (cells' := 5) (slots' := 18) rfl rfl rfl fun T96 h96 b96 g96 X96 e96 E96 A96 D96 => ?_
  have s_b96_h0 : h0.size ≤ b96 := Nat.le_trans KKJ83_h0.1 (Nat.le_of_eq g96.symm)
  have n_b96 : n0 ≤ b96 := Nat.le_trans (OKJ83.1 ▸ OKJ83.2.1) (Nat.le_of_eq g96.symm)
  have KE96_h0 : Keep h0 h96 [] := KKJ83_h0.ext E96
  have OE96 : Old Z n0 h96 := OKJ83.ext E96
  have Fb96_fromStop : Fld Z h96 b96 "com/example/timeshed/timeshed/network/gtfs/Timetable$Transfer" "fromStop" "I" (.int (0 : Int32)) := D96 (Or.inr (wd49 hw)) (ty := .int) (by decide)
  have Fb96_toStop : Fld Z h96 b96 "com/example/timeshed/timeshed/network/gtfs/Timetable$Transfer" "toStop" "I" (.int (0 : Int32)) := D96 (Or.inr (wd51 hw)) (ty := .int) (by decide)
  have Fb96_fromTrip : Fld Z h96 b96 "com/example/timeshed/timeshed/network/gtfs/Timetable$Transfer" "fromTrip" "I" (.int (0 : Int32)) := D96 (Or.inr (wd53 hw)) (ty := .int) (by decide)
  have Fb96_fromRoute : Fld Z h96 b96 "com/example/timeshed/timeshed/network/gtfs/Timetable$Transfer" "fromRoute" "Ljava/lang/String;" .null := D96 (Or.inr (wd55 hw)) (ty := (.object "java/lang/String")) (by decide)
  have Fb96_toTrip : Fld Z h96 b96 "com/example/timeshed/timeshed/network/gtfs/Timetable$Transfer" "toTrip" "I" (.int (0 : Int32)) := D96 (Or.inr (wd57 hw)) (ty := .int) (by decide)
  have Fb96_toRoute : Fld Z h96 b96 "com/example/timeshed/timeshed/network/gtfs/Timetable$Transfer" "toRoute" "Ljava/lang/String;" .null := D96 (Or.inr (wd59 hw)) (ty := (.object "java/lang/String")) (by decide)
  have Fb96_type : Fld Z h96 b96 "com/example/timeshed/timeshed/network/gtfs/Timetable$Transfer" "type" "Lcom/example/timeshed/timeshed/network/gtfs/Timetable$TransferType;" .null := D96 (Or.inr (wd61 hw)) (ty := (.object "com/example/timeshed/timeshed/network/gtfs/Timetable$TransferType")) (by decide)
  have Fb96_minimumTime : Fld Z h96 b96 "com/example/timeshed/timeshed/network/gtfs/Timetable$Transfer" "minimumTime" "I" (.int (0 : Int32)) := D96 (Or.inr (wd63 hw)) (ty := .int) (by decide)
  refine o_dup X96 hx (hb hby at_99) rfl rfl ?_
  refine o_iloadN X96 hx (hb hby at_100) rfl rfl ?_
  refine o_iload X96 hx (hb hby at_101) rfl rfl ?_
  refine o_iloadN X96 hx (hb hby at_103) rfl rfl ?_
  refine o_aload X96 hx (hb hby at_104) rfl r_z53 rfl ?_
  refine o_iloadN X96 hx (hb hby at_106) rfl rfl ?_
  refine o_aload X96 hx (hb hby at_107) rfl r_z83 rfl ?_
  refine o_aload X96 hx (hb hby at_109) rfl ru_91 rfl ?_
  refine o_iload X96 hx (hb hby at_111) rfl rfl ?_
  refine o_special X96 hx hZ83 rfl rfl hown83 (wd39 hw) (wd40 hw) (by decide) (a := b96) (rm8 l Z a0 hw b96 p3 p4 p0 z53 p1 z83 u_91 p5 h96 n0 OE96 A96 Fb96_fromStop Fb96_toStop Fb96_fromTrip Fb96_fromRoute Fb96_toTrip Fb96_toRoute Fb96_type Fb96_minimumTime n_b96 (r_z53) (r_z83) (ru_91)) (wd41 hw) (wd38 hw) e96 (by rw [hml]; rfl) (argsL := [(.int p3), (.int p4), (.int p0), z53, (.int p1), z83, u_91, (.int p5)]) (rest := [(.ref b96)]) (W := 1) pd7 rfl rfl rfl rfl (hb hby at_113) (by decide) (by decide) (by decide) (by decide) (cells' := 5) (slots' := 18) rfl rfl rfl fun v113 T113 h113 Lc113 X113 e113 hq113 => ?_
  obtain ⟨rfl, N113q, K113, qE_113, qF_113, qF_113_2, qF_113_3, qF_113_4⟩ := hq113
  have N113 := Fr.app N91 N113q
  have KK113_h0 : Keep h0 h113 [] := KE96_h0.trans K113 (allS (Or.inr s_b96_h0) all0)
  have OK113 : Old Z n0 h113 := OE96.keep K113 (allS n_b96 all0)
  show Goes p.tables e below (EndsW s (Q0 Z p0 p1 p2 p3 p4 p5 cs en0 en1 en2 en3 h0 n0) room_1.cells room_1.slots) (T113.setTop (mkF m 116 #[.val (.int p0), .val (.int p1), .val (.int p2), .val (.int p3), .val (.int p4), .val (.int p5), .val (.int z11), .val (.int z24), .val z53, .val z83, .val u_91, .unset, .unset] [(.ref b96)]))
  refine o_astore X113 hx (hb hby at_116) rfl (L' := #[.val (.int p0), .val (.int p1), .val (.int p2), .val (.int p3), .val (.int p4), .val (.int p5), .val (.int z11), .val (.int z24), .val z53, .val z83, .val u_91, .val (.ref b96), .unset]) rfl rfl ?_
  refine o_iloadN X113 hx (hb hby at_118) rfl rfl ?_
  suffices J153 : ∀ (z153 : Int32) (hz153 : z153 = 1 ∧ (¬ (p0 < (0 : Int32)) ∨ ¬ (p1 < (0 : Int32)) ∨ ¬ (z11 = 0) ∨ ¬ (z24 = 0)) ∨ z153 = 0 ∧ ¬ (¬ (p0 < (0 : Int32)) ∨ ¬ (p1 < (0 : Int32)) ∨ ¬ (z11 = 0) ∨ ¬ (z24 = 0))), Goes p.tables e below (EndsW s (Q0 Z p0 p1 p2 p3 p4 p5 cs en0 en1 en2 en3 h0 n0) room_1.cells room_1.slots) (T113.setTop (mkF m 153 #[.val (.int p0), .val (.int p1), .val (.int p2), .val (.int p3), .val (.int p4), .val (.int p5), .val (.int z11), .val (.int z24), .val z53, .val z83, .val u_91, .val (.ref b96), .val (.int z153)] [])) by
    have KR119 : Keep h113 h113 [] := Keep.refl _ _
    by_cases hc119 : p0 < (0 : Int32)
    ·
      refine o_ifYes X113 hx (hb hby at_119) ((if0 _ _).trans (tlt hc119).1) (by decide) (pc' := 128) (by decide) ?_
      refine o_iloadN X113 hx (hb hby at_128) rfl rfl ?_
      by_cases hc129 : p1 < (0 : Int32)
      ·
        refine o_ifYes X113 hx (hb hby at_129) ((if0 _ _).trans (tlt hc129).1) (by decide) (pc' := 138) (by decide) ?_
        refine o_iload X113 hx (hb hby at_138) rfl rfl ?_
        by_cases hc140 : z11 = (0 : Int32)
        ·
          refine o_ifYes X113 hx (hb hby at_140) ((if0 _ _).trans (teq hc140).1) (by decide) (pc' := 149) (by decide) ?_
          refine o_iload X113 hx (hb hby at_149) rfl rfl ?_
          refine o_istore X113 hx (hb hby at_151) (L' := #[.val (.int p0), .val (.int p1), .val (.int p2), .val (.int p3), .val (.int p4), .val (.int p5), .val (.int z11), .val (.int z24), .val z53, .val z83, .val u_91, .val (.ref b96), .val (.int z24)]) rfl rfl ?_
          exact J153 z24 (hz24.elim (fun h => Or.inr ⟨h, fun q => q.elim (fun k => k hc119) (fun q => q.elim (fun k => k hc129) (fun q => q.elim (fun k => k hc140) (fun k => k h)))⟩) (fun h => Or.inl ⟨h, Or.inr (Or.inr (Or.inr (by rw [h]; decide)))⟩))
        ·
          refine o_ifNo X113 hx (hb hby at_140) ((if0 _ _).trans (feq hc140).1) rfl ?_
          refine o_iconst X113 hx (hb hby at_143) (v := (1 : Int32)) rfl rfl ?_
          refine o_istore X113 hx (hb hby at_144) (L' := #[.val (.int p0), .val (.int p1), .val (.int p2), .val (.int p3), .val (.int p4), .val (.int p5), .val (.int z11), .val (.int z24), .val z53, .val z83, .val u_91, .val (.ref b96), .val (.int (1 : Int32))]) rfl rfl ?_
          refine o_goto X113 hx (hb hby at_146) (by decide) (pc' := 153) (by decide) ?_
          exact J153 (1 : Int32) (Or.inl ⟨rfl, Or.inr (Or.inr (Or.inl hc140))⟩)
      ·
        refine o_ifNo X113 hx (hb hby at_129) ((if0 _ _).trans (flt hc129).1) rfl ?_
        refine o_iconst X113 hx (hb hby at_132) (v := (1 : Int32)) rfl rfl ?_
        refine o_istore X113 hx (hb hby at_133) (L' := #[.val (.int p0), .val (.int p1), .val (.int p2), .val (.int p3), .val (.int p4), .val (.int p5), .val (.int z11), .val (.int z24), .val z53, .val z83, .val u_91, .val (.ref b96), .val (.int (1 : Int32))]) rfl rfl ?_
        refine o_goto X113 hx (hb hby at_135) (by decide) (pc' := 153) (by decide) ?_
        exact J153 (1 : Int32) (Or.inl ⟨rfl, Or.inr (Or.inl hc129)⟩)
    ·
      refine o_ifNo X113 hx (hb hby at_119) ((if0 _ _).trans (flt hc119).1) rfl ?_
      refine o_iconst X113 hx (hb hby at_122) (v := (1 : Int32)) rfl rfl ?_
      refine o_istore X113 hx (hb hby at_123) (L' := #[.val (.int p0), .val (.int p1), .val (.int p2), .val (.int p3), .val (.int p4), .val (.int p5), .val (.int z11), .val (.int z24), .val z53, .val z83, .val u_91, .val (.ref b96), .val (.int (1 : Int32))]) rfl rfl ?_
      refine o_goto X113 hx (hb hby at_125) (by decide) (pc' := 153) (by decide) ?_
      exact J153 (1 : Int32) (Or.inl ⟨rfl, Or.inl hc119⟩)
  intro z153 hz153
  refine o_aload X113 hx (hb hby at_153) rfl rfl rfl ?_
  refine o_virtual X113 hx hZ83 (C := "com/example/timeshed/timeshed/network/gtfs/Timetable$Transfer") hown83 (wd64 hw) (wd65 hw) (notFace_of_selects (args := #[]) (mvT hZ83 (wd67 hw))) (wd67 hw) (wd66 hw) (by decide) qE_113 (rm10 l Z a0 hw b96 p0 z53 p1 z83 h113 n0 OK113 qF_113 qF_113_2 qF_113_3 qF_113_4 (r_z53) (r_z83)) (wd68 hw) (wd38 hw) e113 (by rw [hml]; rfl) (argsL := []) (rest := []) (W := 0) pd8 rfl rfl rfl rfl (hb hby at_155) (by decide) (by decide) (by decide) (by decide) (cells' := 5) (slots' := 18) rfl rfl rfl fun v155 T155 h155 Lc155 X155 e155 hq155 => ?_
  obtain ⟨z_155, rfl, N155q, K155, hz_155⟩ := hq155
  have N155 := Fr.app N113 N155q
  have e155_2 : T155.heap = h113 := e155.trans K155
  show Goes p.tables e below (EndsW s (Q0 Z p0 p1 p2 p3 p4 p5 cs en0 en1 en2 en3 h0 n0) room_1.cells room_1.slots) (T155.setTop (mkF m 158 #[.val (.int p0), .val (.int p1), .val (.int p2), .val (.int p3), .val (.int p4), .val (.int p5), .val (.int z11), .val (.int z24), .val z53, .val z83, .val u_91, .val (.ref b96), .val (.int z153)] [(.int z_155)]))
  refine o_iload X155 hx (hb hby at_158) rfl rfl ?_
  have hc160 : z_155 = z153 := own_names hz53 hz83 hz153 hz_155
  refine o_icmpNo X155 hx (hb hby at_160) (teq hc160).2 rfl ?_
  refine o_iconst X155 hx (hb hby at_163) (v := (1 : Int32)) rfl rfl ?_
  refine o_goto X155 hx (hb hby at_164) (by decide) (pc' := 168) (by decide) ?_
  have B168 : Base s s83 h113 := ((B83.up E96.1).up K113.1)
  exact o_retW X155 hx hlk (t := .boolean) hret rfl (Or.inl ⟨rfl, by decide, _, rfl⟩) (hb hby at_168) (by decide) (by decide) e155_2 B168 ⟨rfl, N155, KK113_h0⟩
set_option maxRecDepth 65536 in
set_option maxHeartbeats 40000000 in
theorem comes_1 {Post : Tables → Env → Array Value → State → Outcome → State → Prop} (hpost : ∀ tb e args s v u, (limb_1_1.after args s (.returned v) u = true ∧ limb_1_2.after args s (.returned v) u = true ∧ True) → ReturnedEndW s (.returned v) u (Jvm.fieldLocs frame_1_writes args s ++ Jvm.arrayLocs frame_1_arrays args s ++ Jvm.staticLocs frame_1_statics s) 24 1152 → Post tb e args s (.returned v) u) :
    ArmFor flags0 classFile x code maxLocals ret World_1 tables_1 room_1 Calls_1 rest_1 Pre_1 Post := by
  intro l hfl _ _ p e ha hc hk s m args below hf hA hF happ hP
  obtain ⟨hcalls, hrest, hpre⟩ := hP
  obtain ⟨-, -, -, hnamed, -, -, -, hat⟩ := (Spec.applies_iff hf).mp happ
  obtain ⟨hg, hn⟩ := and_e (Cond.before_iff.mp (show (Jvm.Cond.and given_1 narrow_1).before args s = true from hpre))
  obtain ⟨u1a, u1b⟩ := and_e hg
  obtain ⟨u2a, u2b⟩ := and_e u1b
  obtain ⟨u3a, u3b⟩ := and_e u2b
  obtain ⟨u4a, u4b⟩ := and_e u3b
  obtain ⟨u5a, u5b⟩ := and_e u4b
  obtain ⟨u6a, u6b⟩ := and_e u5b
  obtain ⟨u7a, u7b⟩ := and_e hn
  obtain ⟨u8a, u8b⟩ := and_e u7b
  obtain ⟨u9a, u9b⟩ := and_e u8b
  obtain ⟨w0, w1, w2, w3, w4, w5, rfl⟩ : ∃ w0 w1 w2 w3 w4 w5 : Value, args = #[w0, w1, w2, w3, w4, w5] := by
    have hs : args.size = 6 := by simpa [Cond.value, given_1] using u1a
    obtain ⟨L⟩ := args
    match L, hs with
    | [w0, w1, w2, w3, w4, w5], _ => exact ⟨w0, w1, w2, w3, w4, w5, rfl⟩
  have hw := fun d (hd : d ∈ tables_1) => atoms_spec (ws := Jvm.Cond.code x code maxLocals ret :: tables_1) hat d (List.mem_cons_of_mem _ hd)
  have hfit : Fit s := fun {y c} hc i hi => by
    obtain ⟨ha, rfl⟩ := Array.getElem?_eq_some_iff.mp hc
    have q := List.all_eq_true.mp ((Array.all_eq_true_iff_forall_mem.mp hF) _ (Array.getElem_mem ha)) i (List.mem_range.mpr hi)
    simpa [Array.getElem?_eq_getElem hi] using q
  obtain ⟨hsets, hown0⟩ := atoms_of _ (rest_1_c_eq ▸ (show rest_1_c.before _ s = true from hrest))
  obtain ⟨i0, ei0⟩ := is_v u2a
  obtain rfl : w0 = (.int i0) := Option.some.inj ei0
  obtain ⟨i1, ei1⟩ := is_v u3a
  obtain rfl : w1 = (.int i1) := Option.some.inj ei1
  obtain ⟨i2, ei2⟩ := is_v u4a
  obtain rfl : w2 = (.int i2) := Option.some.inj ei2
  obtain ⟨i3, ei3⟩ := is_v u5a
  obtain rfl : w3 = (.int i3) := Option.some.inj ei3
  obtain ⟨i4, ei4⟩ := is_v u6a
  obtain rfl : w4 = (.int i4) := Option.some.inj ei4
  obtain ⟨i5, ei5⟩ := is_v u6b
  obtain rfl : w5 = (.int i5) := Option.some.inj ei5
  obtain ⟨cs0, ecs⟩ := is_v (Cond.before_iff.mp (hsets _ (List.mem_of_getElem? (i := 1) rfl)))
  have Scs : Sta s s.heap "java/lang/String" "COMPACT_STRINGS" "Z" (.int cs0) := Sta.start ecs (Or.inl (hsets _ (List.mem_of_getElem? (i := 0) rfl)))
  have hcs0 : ¬ (cs0 = (0 : Int32)) := gotF (Cond.eq_ints ecs (Term.int_eval (0))) (not_v (Cond.before_iff.mp (hsets _ (List.mem_of_getElem? (i := 2) rfl))))
  obtain ⟨v0, ev_v0, ft_v0⟩ := static_fit (ty := .object "com/example/timeshed/timeshed/network/gtfs/Timetable$TransferType") hfit (wd35 hw) (by decide)
  have S_v0 : Sta s s.heap "com/example/timeshed/timeshed/network/gtfs/Timetable$TransferType" "RECOMMENDED" "Lcom/example/timeshed/timeshed/network/gtfs/Timetable$TransferType;" v0 := Sta.start ev_v0 (Or.inr ⟨(wd34 hw), (wd35 hw)⟩)
  have r_v0 : v0.isRef = true := fit_R ft_v0 rfl
  obtain ⟨v1, ev_v1, ft_v1⟩ := static_fit (ty := .object "com/example/timeshed/timeshed/network/gtfs/Timetable$TransferType") hfit (wd77 hw) (by decide)
  have S_v1 : Sta s s.heap "com/example/timeshed/timeshed/network/gtfs/Timetable$TransferType" "TIMED" "Lcom/example/timeshed/timeshed/network/gtfs/Timetable$TransferType;" v1 := Sta.start ev_v1 (Or.inr ⟨(wd34 hw), (wd77 hw)⟩)
  have r_v1 : v1.isRef = true := fit_R ft_v1 rfl
  obtain ⟨v2, ev_v2, ft_v2⟩ := static_fit (ty := .object "com/example/timeshed/timeshed/network/gtfs/Timetable$TransferType") hfit (wd75 hw) (by decide)
  have S_v2 : Sta s s.heap "com/example/timeshed/timeshed/network/gtfs/Timetable$TransferType" "MINIMUM_TIME" "Lcom/example/timeshed/timeshed/network/gtfs/Timetable$TransferType;" v2 := Sta.start ev_v2 (Or.inr ⟨(wd34 hw), (wd75 hw)⟩)
  have r_v2 : v2.isRef = true := fit_R ft_v2 rfl
  obtain ⟨v3, ev_v3, ft_v3⟩ := static_fit (ty := .object "com/example/timeshed/timeshed/network/gtfs/Timetable$TransferType") hfit (wd73 hw) (by decide)
  have S_v3 : Sta s s.heap "com/example/timeshed/timeshed/network/gtfs/Timetable$TransferType" "NOT_POSSIBLE" "Lcom/example/timeshed/timeshed/network/gtfs/Timetable$TransferType;" v3 := Sta.start ev_v3 (Or.inr ⟨(wd34 hw), (wd73 hw)⟩)
  have r_v3 : v3.isRef = true := fit_R ft_v3 rfl
  obtain ⟨n, o, h1, h2, h3, _, L, rfl, ⟨rfl, N, -⟩, hq⟩ := rm0 l s _ hw tables_1 i0 i1 i2 i3 i4 i5 cs0 v0 v1 v2 v3 s.heap s.heap.size (Old.start s) Scs hcs0 S_v0 r_v0 S_v1 r_v1 S_v2 r_v2 S_v3 r_v3 p e ha hc hk s m _ below hf ((Spec.applies_iff_loose hf).mp happ).1 ⟨rfl, State.Warmed39.refl s, rfl⟩ trivial
  refine ⟨n, _, h1, h2, h3, hpost _ _ _ _ _ _ ⟨Cond.after_iff.mpr rfl, Cond.after_iff.mpr (eq_i res_at (Term.int_eval (1)) rfl), trivial⟩ ⟨hq.1, hq.2.1, hq.2.2.1, (hq.2.2.2.sift fun y hy => Or.inr (N y hy)).mono (by decide) (by decide)⟩⟩
theorem main_1_1 : Claimed_1_1 := comes_1 fun _ _ _ _ _ _ h hF => ⟨h.1, hF⟩
theorem main_1_2 : Claimed_1_2 := comes_1 fun _ _ _ _ _ _ h hF => ⟨h.2.1, hF⟩
end Jvm.Pilot.@@N@@
namespace Jvm.Pilot.@@N@@
open Jvm Jvm.ClassFile Sem Op Lib Jvm.Free Jvm.Stand Jvm.Pilot.@@N@@.Jvm.D
/-! MADE BY PROGRAM (witnessworld.py) out of the Statement's table words and the real class files: 20 classes; the members and pool entries that the words name. The judged class is class 1, her method 1. -/
namespace start1
open Jvm.ClassFile
def u (s : String) : CpInfo := .utf8 (stringToUtf16 s)
/-- a pool by its gaps: so many unusable entries, then the entry; so many at the end -/
def gap : Nat → List CpInfo → List CpInfo
  | 0, r => r
  | n + 1, r => .unusable :: gap n r
def poolList (es : List (Nat × CpInfo)) (last : Nat) : List CpInfo := es.foldr (fun e r => gap e.1 (e.2 :: r)) (gap last [])
def pool (es : List (Nat × CpInfo)) (last : Nat) : Array CpInfo := ⟨poolList es last⟩
def fileOf (pool : Array CpInfo) (this : Nat) (attrs : Array Attribute := #[]) (ms : Array MethodInfo := #[]) (fl : Nat := 33) (sup : Nat := 0) (ifs : Array Nat := #[]) (fds : Array FieldInfo := #[]) : ClassFile where
  minorVersion := 0
  majorVersion := 65
  constantPool := pool
  accessFlags := fl
  thisClass := this
  superClass := sup
  interfaces := ifs
  fields := fds
  methods := ms
  attributes := attrs
def plain (name : String) (sup : Option ClassId) : Class where
  name := name
  kind := .ordinary
  loader := none
  accessFlags := 33
  super := sup
  interfaces := #[]
  cf := none
  fields := #[]
  methods := #[]
  instanceTypes := #[]
  staticTypes := #[]
  resolved := #[]
  callSites := []
  init := .initialized
  statics := none
  mirror := none

def pool0 : Array CpInfo := pool [(5, u "<init>"), (0, u "()V"), (1, .class_ 10), (1, u "java/lang/Object")] 113

def k0c0 : Code := { maxStack := 0, maxLocals := 1, code := object_method_1_code, exceptionTable := #[], attributes := #[] }
def k0m0 : Method := { name := "<init>", desc := "()V", sig := { parameters := [], returnType := none }, accessFlags := 1, code := some k0c0 }
/-- java/lang/Object -/
def k0 : Class := { plain "java/lang/Object" none with
  accessFlags := 33
  interfaces := #[]
  cf := some (fileOf pool0 8 #[] #[{ accessFlags := 1, nameIndex := 5, descriptorIndex := 6, attributes := #[] }] 33 0 #[] #[])
  fields := #[]
  methods := #[k0m0]
  instanceTypes := #[]
  staticTypes := #[]
  resolved := Array.replicate 124 none
  statics := none }

def pool1 : Array CpInfo := pool [(2, .class_ 4), (1, u "java/lang/Object"), (0, u "<init>"), (0, u "()V"), (0, .methodref 8 9), (0, .class_ 10), (0, .nameAndType 11 12), (0, u "com/example/timeshed/timeshed/network/gtfs/TimetableNamesTripsPinLaw"), (0, u "route"), (0, u "(IZ)Ljava/lang/String;"), (0, .methodref 8 14), (0, .nameAndType 15 16), (0, u "type"), (0, u "(I)Lcom/example/timeshed/timeshed/network/gtfs/Timetable$TransferType;"), (0, .class_ 18), (0, u "com/example/timeshed/timeshed/network/gtfs/Timetable$Transfer"), (0, .methodref 17 20), (0, .nameAndType 5 21), (0, u "(IIILjava/lang/String;ILjava/lang/String;Lcom/example/timeshed/timeshed/network/gtfs/Timetable$TransferType;I)V"), (0, .methodref 17 23), (0, .nameAndType 24 25), (0, u "namesTrips"), (0, u "()Z"), (0, .string 27), (0, u ""), (0, .methodref 29 30), (0, .class_ 31), (0, .nameAndType 32 33), (0, u "java/lang/String"), (0, u "valueOf"), (0, u "(C)Ljava/lang/String;"), (0, .fieldref 35 36), (0, .class_ 37), (0, .nameAndType 38 39), (0, u "com/example/timeshed/timeshed/network/gtfs/Timetable$TransferType"), (0, u "RECOMMENDED"), (0, u "Lcom/example/timeshed/timeshed/network/gtfs/Timetable$TransferType;"), (0, .fieldref 35 41), (0, .nameAndType 42 39), (0, u "TIMED"), (0, .fieldref 35 44), (0, .nameAndType 45 39), (0, u "MINIMUM_TIME"), (0, .fieldref 35 47), (0, .nameAndType 48 39), (0, u "NOT_POSSIBLE"), (2, u "law"), (0, u "(IIIIII)Z")] 8

def k1m0 : Method := { name := "<init>", desc := "()V", sig := { parameters := [], returnType := none }, accessFlags := 1, code := none }
def k1c1 : Code := { maxStack := 10, maxLocals := 13, code := code, exceptionTable := #[], attributes := #[] }
def k1m1 : Method := { name := "law", desc := "(IIIIII)Z", sig := { parameters := [.int, .int, .int, .int, .int, .int], returnType := some .boolean }, accessFlags := 9, code := some k1c1 }
def k1c2 : Code := { maxStack := 2, maxLocals := 2, code := method_3_code, exceptionTable := #[], attributes := #[] }
def k1m2 : Method := { name := "route", desc := "(IZ)Ljava/lang/String;", sig := { parameters := [.int, .boolean], returnType := some (.object "java/lang/String") }, accessFlags := 10, code := some k1c2 }
def k1c3 : Code := { maxStack := 2, maxLocals := 1, code := method_4_code, exceptionTable := #[], attributes := #[] }
def k1m3 : Method := { name := "type", desc := "(I)Lcom/example/timeshed/timeshed/network/gtfs/Timetable$TransferType;", sig := { parameters := [.int], returnType := some (.object "com/example/timeshed/timeshed/network/gtfs/Timetable$TransferType") }, accessFlags := 10, code := some k1c3 }
/-- com/example/timeshed/timeshed/network/gtfs/TimetableNamesTripsPinLaw -/
def k1 : Class := { plain "com/example/timeshed/timeshed/network/gtfs/TimetableNamesTripsPinLaw" (some 0) with
  accessFlags := 49
  interfaces := #[]
  cf := some (fileOf pool1 8 #[] #[{ accessFlags := 1, nameIndex := 5, descriptorIndex := 6, attributes := #[] }, { accessFlags := 9, nameIndex := 51, descriptorIndex := 52, attributes := #[] }, { accessFlags := 10, nameIndex := 11, descriptorIndex := 12, attributes := #[] }, { accessFlags := 10, nameIndex := 15, descriptorIndex := 16, attributes := #[] }] 49 2 #[] #[])
  fields := #[]
  methods := #[k1m0, k1m1, k1m2, k1m3]
  instanceTypes := #[]
  staticTypes := #[]
  resolved := Array.replicate 61 none
  statics := none }

def pool2 : Array CpInfo := pool [(1, .class_ 2), (0, u "java/io/Serializable"), (0, .class_ 4), (0, u "java/lang/Object")] 2

/-- java/io/Serializable -/
def k2 : Class := { plain "java/io/Serializable" (some 0) with
  accessFlags := 1537
  interfaces := #[]
  cf := some (fileOf pool2 1 #[] #[] 1537 3 #[] #[])
  fields := #[]
  methods := #[]
  instanceTypes := #[]
  staticTypes := #[]
  resolved := Array.replicate 7 none
  statics := none }

def pool3 : Array CpInfo := pool [(1, .class_ 2), (0, u "java/lang/Comparable"), (0, .class_ 4), (0, u "java/lang/Object")] 7

/-- java/lang/Comparable -/
def k3 : Class := { plain "java/lang/Comparable" (some 0) with
  accessFlags := 1537
  interfaces := #[]
  cf := some (fileOf pool3 1 #[] #[] 1537 3 #[] #[])
  fields := #[]
  methods := #[]
  instanceTypes := #[]
  staticTypes := #[]
  resolved := Array.replicate 12 none
  statics := none }

def pool4 : Array CpInfo := pool [(2, .class_ 4), (1, u "java/lang/CharSequence"), (42, .class_ 48), (0, u "java/lang/CharSequence$1CodePointIterator"), (10, .class_ 60), (0, u "java/lang/CharSequence$1CharIterator"), (5, .class_ 67), (0, u "java/lang/Object")] 63

/-- java/lang/CharSequence -/
def k4 : Class := { plain "java/lang/CharSequence" (some 0) with
  accessFlags := 1537
  interfaces := #[]
  cf := some (fileOf pool4 2 #[.nestMembers #[47, 59]] #[] 1537 66 #[] #[])
  fields := #[]
  methods := #[]
  instanceTypes := #[]
  staticTypes := #[]
  resolved := Array.replicate 131 none
  statics := none }

def pool5 : Array CpInfo := pool [(1, .class_ 2), (0, u "java/lang/constant/Constable"), (0, .class_ 4), (0, u "java/lang/Object")] 6

/-- java/lang/constant/Constable -/
def k5 : Class := { plain "java/lang/constant/Constable" (some 0) with
  accessFlags := 1537
  interfaces := #[]
  cf := some (fileOf pool5 1 #[] #[] 1537 3 #[] #[])
  fields := #[]
  methods := #[]
  instanceTypes := #[]
  staticTypes := #[]
  resolved := Array.replicate 11 none
  statics := none }

def pool6 : Array CpInfo := pool [(1, .class_ 2), (0, u "java/lang/constant/ConstantDesc"), (0, .class_ 4), (0, u "java/lang/Object")] 32

/-- java/lang/constant/ConstantDesc -/
def k6 : Class := { plain "java/lang/constant/ConstantDesc" (some 0) with
  accessFlags := 1537
  interfaces := #[]
  cf := some (fileOf pool6 1 #[] #[] 1537 3 #[] #[])
  fields := #[]
  methods := #[]
  instanceTypes := #[]
  staticTypes := #[]
  resolved := Array.replicate 37 none
  statics := none }

def pool7 : Array CpInfo := pool [(1, .methodref 2 3), (0, .class_ 4), (0, .nameAndType 5 6), (0, u "java/lang/Object"), (0, u "<init>"), (0, u "()V"), (2, .fieldref 10 11), (0, .class_ 12), (0, .nameAndType 13 14), (0, u "java/lang/String"), (0, u "value"), (0, u "[B"), (0, .fieldref 10 16), (0, .nameAndType 17 18), (0, u "coder"), (0, u "B"), (2, u "hash"), (0, u "I"), (2, u "hashIsZero"), (0, u "Z"), (11, .fieldref 10 39), (0, .nameAndType 40 26), (0, u "COMPACT_STRINGS"), (12, u "toBytes"), (53, .class_ 109), (1, u "java/lang/StringLatin1"), (99, .methodref 10 210), (0, .nameAndType 5 211), (0, u "([BB)V"), (157, u "(C)Z"), (205, .class_ 576), (0, u "java/lang/CharSequence"), (22, u "CASE_INSENSITIVE_ORDER"), (0, u "Ljava/util/Comparator;"), (181, u "valueOf"), (0, u "(C)Ljava/lang/String;"), (231, .methodref 107 1016), (0, .nameAndType 1017 369), (0, u "canEncode"), (0, .methodref 107 1019), (0, .nameAndType 53 1020), (0, u "(C)[B"), (80, u "serialPersistentFields"), (0, u "[Ljava/io/ObjectStreamField;"), (0, .class_ 1104), (0, u "java/lang/String$CaseInsensitiveComparator"), (1, .class_ 1107), (0, u "java/io/Serializable"), (0, .class_ 1109), (0, u "java/lang/Comparable"), (0, .class_ 1111), (0, u "java/lang/constant/Constable"), (0, .class_ 1113), (0, u "java/lang/constant/ConstantDesc"), (2, u "serialVersionUID"), (0, u "J"), (3, u "REPL"), (0, u "C"), (2, u "LATIN1"), (1, u "UTF16")] 323

def k7m0 : Method := { name := "<init>", desc := "()V", sig := { parameters := [], returnType := none }, accessFlags := 1, code := none }
def k7c1 : Code := { maxStack := 4, maxLocals := 1, code := jdk_42_method_139_code, exceptionTable := #[], attributes := #[] }
def k7m1 : Method := { name := "valueOf", desc := "(C)Ljava/lang/String;", sig := { parameters := [.char], returnType := some (.object "java/lang/String") }, accessFlags := 9, code := some k7c1 }
def k7c2 : Code := { maxStack := 2, maxLocals := 3, code := jdk_42_method_151_code, exceptionTable := #[], attributes := #[] }
def k7m2 : Method := { name := "<init>", desc := "([BB)V", sig := { parameters := [(.array .byte), .byte], returnType := none }, accessFlags := 0, code := some k7c2 }
/-- java/lang/String -/
def k7 : Class := { plain "java/lang/String" (some 0) with
  accessFlags := 49
  interfaces := #[2, 3, 4, 5, 6]
  cf := some (fileOf pool7 10 #[.nestMembers #[1103]] #[{ accessFlags := 1, nameIndex := 5, descriptorIndex := 6, attributes := #[] }, { accessFlags := 9, nameIndex := 782, descriptorIndex := 783, attributes := #[] }, { accessFlags := 0, nameIndex := 5, descriptorIndex := 211, attributes := #[] }] 49 2 #[1106, 1108, 575, 1110, 1112] #[{ accessFlags := 18, nameIndex := 13, descriptorIndex := 14, attributes := #[] }, { accessFlags := 18, nameIndex := 17, descriptorIndex := 18, attributes := #[] }, { accessFlags := 2, nameIndex := 21, descriptorIndex := 22, attributes := #[] }, { accessFlags := 2, nameIndex := 25, descriptorIndex := 26, attributes := #[] }, { accessFlags := 26, nameIndex := 1116, descriptorIndex := 1117, attributes := #[] }, { accessFlags := 24, nameIndex := 40, descriptorIndex := 26, attributes := #[] }, { accessFlags := 26, nameIndex := 1101, descriptorIndex := 1102, attributes := #[] }, { accessFlags := 26, nameIndex := 1121, descriptorIndex := 1122, attributes := #[] }, { accessFlags := 25, nameIndex := 599, descriptorIndex := 600, attributes := #[] }, { accessFlags := 24, nameIndex := 1125, descriptorIndex := 18, attributes := #[] }, { accessFlags := 24, nameIndex := 1127, descriptorIndex := 18, attributes := #[] }])
  fields := #[{ name := "value", type := (.array .byte), accessFlags := 18, slot := 0, constantValue := 0 }, { name := "coder", type := .byte, accessFlags := 18, slot := 1, constantValue := 0 }, { name := "hash", type := .int, accessFlags := 2, slot := 2, constantValue := 0 }, { name := "hashIsZero", type := .boolean, accessFlags := 2, slot := 3, constantValue := 0 }, { name := "serialVersionUID", type := .long, accessFlags := 26, slot := 0, constantValue := 0 }, { name := "COMPACT_STRINGS", type := .boolean, accessFlags := 24, slot := 1, constantValue := 0 }, { name := "serialPersistentFields", type := (.array (.object "java/io/ObjectStreamField")), accessFlags := 26, slot := 2, constantValue := 0 }, { name := "REPL", type := .char, accessFlags := 26, slot := 3, constantValue := 0 }, { name := "CASE_INSENSITIVE_ORDER", type := (.object "java/util/Comparator"), accessFlags := 25, slot := 4, constantValue := 0 }, { name := "LATIN1", type := .byte, accessFlags := 24, slot := 5, constantValue := 0 }, { name := "UTF16", type := .byte, accessFlags := 24, slot := 6, constantValue := 0 }]
  methods := #[k7m0, k7m1, k7m2]
  instanceTypes := #[(.array .byte), .byte, .int, .boolean]
  staticTypes := #[.long, .boolean, (.array (.object "java/io/ObjectStreamField")), .char, (.object "java/util/Comparator"), .byte, .byte]
  resolved := Array.replicate 1451 none
  statics := some 0 }

def pool8 : Array CpInfo := pool [(4, .class_ 6), (1, u "java/lang/Object"), (0, u "<init>"), (0, u "()V"), (5, .class_ 16), (1, u "java/lang/StringLatin1"), (73, u "canEncode"), (14, u "(C)Z"), (15, u "$assertionsDisabled"), (0, u "Z"), (98, .class_ 223), (1, u "java/lang/StringLatin1$LinesSpliterator"), (156, u "toBytes"), (1, u "(C)[B"), (7, .class_ 391), (0, u "java/lang/StringLatin1$CharsSpliterator")] 3

def k8m0 : Method := { name := "<init>", desc := "()V", sig := { parameters := [], returnType := none }, accessFlags := 0, code := none }
def k8c1 : Code := { maxStack := 2, maxLocals := 1, code := jdk_43_method_3_code, exceptionTable := #[], attributes := #[] }
def k8m1 : Method := { name := "canEncode", desc := "(C)Z", sig := { parameters := [.char], returnType := some .boolean }, accessFlags := 9, code := some k8c1 }
def k8c2 : Code := { maxStack := 4, maxLocals := 1, code := jdk_43_method_46_code, exceptionTable := #[], attributes := #[] }
def k8m2 : Method := { name := "toBytes", desc := "(C)[B", sig := { parameters := [.char], returnType := some (.array .byte) }, accessFlags := 9, code := some k8c2 }
/-- java/lang/StringLatin1 -/
def k8 : Class := { plain "java/lang/StringLatin1" (some 0) with
  accessFlags := 48
  interfaces := #[]
  cf := some (fileOf pool8 14 #[.nestMembers #[390, 221]] #[{ accessFlags := 0, nameIndex := 7, descriptorIndex := 8, attributes := #[] }, { accessFlags := 9, nameIndex := 90, descriptorIndex := 105, attributes := #[] }, { accessFlags := 9, nameIndex := 380, descriptorIndex := 382, attributes := #[] }] 48 4 #[] #[{ accessFlags := 4120, nameIndex := 121, descriptorIndex := 122, attributes := #[] }])
  fields := #[{ name := "$assertionsDisabled", type := .boolean, accessFlags := 4120, slot := 0, constantValue := 0 }]
  methods := #[k8m0, k8m1, k8m2]
  instanceTypes := #[]
  staticTypes := #[.boolean]
  resolved := Array.replicate 395 none
  statics := none }

def pool9 : Array CpInfo := pool [(2, .class_ 4), (1, u "java/lang/Enum"), (0, u "name"), (0, u "Ljava/lang/String;"), (2, u "ordinal"), (0, u "I"), (1, .class_ 14), (1, u "java/lang/Object"), (4, u "hash"), (86, .class_ 108), (1, u "java/lang/Enum$EnumDesc"), (2, .class_ 112), (0, u "java/lang/constant/Constable"), (0, .class_ 114), (0, u "java/lang/Comparable"), (0, .class_ 116), (0, u "java/io/Serializable")] 87

/-- java/lang/Enum -/
def k9 : Class := { plain "java/lang/Enum" (some 0) with
  accessFlags := 1057
  interfaces := #[5, 3, 2]
  cf := some (fileOf pool9 2 #[.nestMembers #[106]] #[] 1057 12 #[111, 113, 115] #[{ accessFlags := 18, nameIndex := 5, descriptorIndex := 6, attributes := #[] }, { accessFlags := 18, nameIndex := 9, descriptorIndex := 10, attributes := #[] }, { accessFlags := 2, nameIndex := 19, descriptorIndex := 10, attributes := #[] }])
  fields := #[{ name := "name", type := (.object "java/lang/String"), accessFlags := 18, slot := 0, constantValue := 0 }, { name := "ordinal", type := .int, accessFlags := 18, slot := 1, constantValue := 0 }, { name := "hash", type := .int, accessFlags := 2, slot := 2, constantValue := 0 }]
  methods := #[]
  instanceTypes := #[(.object "java/lang/String"), .int, .int]
  staticTypes := #[]
  resolved := Array.replicate 204 none
  statics := none }

def pool10 : Array CpInfo := pool [(1, .class_ 2), (0, u "com/example/timeshed/timeshed/network/gtfs/Timetable$TransferType"), (2, u "RECOMMENDED"), (0, u "Lcom/example/timeshed/timeshed/network/gtfs/Timetable$TransferType;"), (2, u "TIMED"), (2, u "MINIMUM_TIME"), (2, u "NOT_POSSIBLE"), (2, u "IN_SEAT"), (2, u "NOT_IN_SEAT"), (2, u "$VALUES"), (0, u "[Lcom/example/timeshed/timeshed/network/gtfs/Timetable$TransferType;"), (6, .class_ 34), (1, u "java/lang/Enum"), (32, .class_ 68), (0, u "com/example/timeshed/timeshed/network/gtfs/Timetable")] 2

/-- com/example/timeshed/timeshed/network/gtfs/Timetable$TransferType -/
def k10 : Class := { plain "com/example/timeshed/timeshed/network/gtfs/Timetable$TransferType" (some 9) with
  accessFlags := 16433
  interfaces := #[]
  cf := some (fileOf pool10 1 #[.nestHost 67] #[] 16433 32 #[] #[{ accessFlags := 16409, nameIndex := 5, descriptorIndex := 6, attributes := #[] }, { accessFlags := 16409, nameIndex := 9, descriptorIndex := 6, attributes := #[] }, { accessFlags := 16409, nameIndex := 12, descriptorIndex := 6, attributes := #[] }, { accessFlags := 16409, nameIndex := 15, descriptorIndex := 6, attributes := #[] }, { accessFlags := 16409, nameIndex := 18, descriptorIndex := 6, attributes := #[] }, { accessFlags := 16409, nameIndex := 21, descriptorIndex := 6, attributes := #[] }, { accessFlags := 4122, nameIndex := 24, descriptorIndex := 25, attributes := #[] }])
  fields := #[{ name := "RECOMMENDED", type := (.object "com/example/timeshed/timeshed/network/gtfs/Timetable$TransferType"), accessFlags := 16409, slot := 0, constantValue := 0 }, { name := "TIMED", type := (.object "com/example/timeshed/timeshed/network/gtfs/Timetable$TransferType"), accessFlags := 16409, slot := 1, constantValue := 0 }, { name := "MINIMUM_TIME", type := (.object "com/example/timeshed/timeshed/network/gtfs/Timetable$TransferType"), accessFlags := 16409, slot := 2, constantValue := 0 }, { name := "NOT_POSSIBLE", type := (.object "com/example/timeshed/timeshed/network/gtfs/Timetable$TransferType"), accessFlags := 16409, slot := 3, constantValue := 0 }, { name := "IN_SEAT", type := (.object "com/example/timeshed/timeshed/network/gtfs/Timetable$TransferType"), accessFlags := 16409, slot := 4, constantValue := 0 }, { name := "NOT_IN_SEAT", type := (.object "com/example/timeshed/timeshed/network/gtfs/Timetable$TransferType"), accessFlags := 16409, slot := 5, constantValue := 0 }, { name := "$VALUES", type := (.array (.object "com/example/timeshed/timeshed/network/gtfs/Timetable$TransferType")), accessFlags := 4122, slot := 6, constantValue := 0 }]
  methods := #[]
  instanceTypes := #[(.object "java/lang/String"), .int, .int]
  staticTypes := #[(.object "com/example/timeshed/timeshed/network/gtfs/Timetable$TransferType"), (.object "com/example/timeshed/timeshed/network/gtfs/Timetable$TransferType"), (.object "com/example/timeshed/timeshed/network/gtfs/Timetable$TransferType"), (.object "com/example/timeshed/timeshed/network/gtfs/Timetable$TransferType"), (.object "com/example/timeshed/timeshed/network/gtfs/Timetable$TransferType"), (.object "com/example/timeshed/timeshed/network/gtfs/Timetable$TransferType"), (.array (.object "com/example/timeshed/timeshed/network/gtfs/Timetable$TransferType"))]
  resolved := Array.replicate 71 none
  statics := some 1 }

def pool11 : Array CpInfo := pool [(1, .methodref 2 3), (0, .class_ 4), (0, .nameAndType 5 6), (0, u "java/lang/Object"), (0, u "<init>"), (0, u "()V"), (0, .class_ 8), (0, u "java/lang/Record")] 13

def k11c0 : Code := { maxStack := 1, maxLocals := 1, code := jdk_30_method_1_code, exceptionTable := #[], attributes := #[] }
def k11m0 : Method := { name := "<init>", desc := "()V", sig := { parameters := [], returnType := none }, accessFlags := 4, code := some k11c0 }
/-- java/lang/Record -/
def k11 : Class := { plain "java/lang/Record" (some 0) with
  accessFlags := 1057
  interfaces := #[]
  cf := some (fileOf pool11 7 #[] #[{ accessFlags := 4, nameIndex := 5, descriptorIndex := 6, attributes := #[] }] 1057 2 #[] #[])
  fields := #[]
  methods := #[k11m0]
  instanceTypes := #[]
  staticTypes := #[]
  resolved := Array.replicate 22 none
  statics := none }

def pool12 : Array CpInfo := pool [(1, .methodref 2 3), (0, .class_ 4), (0, .nameAndType 5 6), (0, u "java/lang/Record"), (0, u "<init>"), (0, u "()V"), (0, .fieldref 8 9), (0, .class_ 10), (0, .nameAndType 11 12), (0, u "com/example/timeshed/timeshed/network/gtfs/Timetable$Transfer"), (0, u "fromStop"), (0, u "I"), (0, .fieldref 8 14), (0, .nameAndType 15 12), (0, u "toStop"), (0, .fieldref 8 17), (0, .nameAndType 18 12), (0, u "fromTrip"), (0, .fieldref 8 20), (0, .nameAndType 21 22), (0, u "fromRoute"), (0, u "Ljava/lang/String;"), (0, .fieldref 8 24), (0, .nameAndType 25 12), (0, u "toTrip"), (0, .fieldref 8 27), (0, .nameAndType 28 22), (0, u "toRoute"), (0, .fieldref 8 30), (0, .nameAndType 31 32), (0, u "type"), (0, u "Lcom/example/timeshed/timeshed/network/gtfs/Timetable$TransferType;"), (0, .fieldref 8 34), (0, .nameAndType 35 12), (0, u "minimumTime"), (12, u "(IIILjava/lang/String;ILjava/lang/String;Lcom/example/timeshed/timeshed/network/gtfs/Timetable$TransferType;I)V"), (3, u "namesTrips"), (0, u "()Z"), (8, .class_ 63), (0, u "com/example/timeshed/timeshed/network/gtfs/Timetable")] 29

def k12c0 : Code := { maxStack := 2, maxLocals := 9, code := prog_109_method_1_code, exceptionTable := #[], attributes := #[] }
def k12m0 : Method := { name := "<init>", desc := "(IIILjava/lang/String;ILjava/lang/String;Lcom/example/timeshed/timeshed/network/gtfs/Timetable$TransferType;I)V", sig := { parameters := [.int, .int, .int, (.object "java/lang/String"), .int, (.object "java/lang/String"), (.object "com/example/timeshed/timeshed/network/gtfs/Timetable$TransferType"), .int], returnType := none }, accessFlags := 1, code := some k12c0 }
def k12c1 : Code := { maxStack := 1, maxLocals := 1, code := prog_109_method_2_code, exceptionTable := #[], attributes := #[] }
def k12m1 : Method := { name := "namesTrips", desc := "()Z", sig := { parameters := [], returnType := some .boolean }, accessFlags := 1, code := some k12c1 }
/-- com/example/timeshed/timeshed/network/gtfs/Timetable$Transfer -/
def k12 : Class := { plain "com/example/timeshed/timeshed/network/gtfs/Timetable$Transfer" (some 11) with
  accessFlags := 49
  interfaces := #[]
  cf := some (fileOf pool12 8 #[.nestHost 62] #[{ accessFlags := 1, nameIndex := 5, descriptorIndex := 48, attributes := #[] }, { accessFlags := 1, nameIndex := 52, descriptorIndex := 53, attributes := #[] }] 49 2 #[] #[{ accessFlags := 18, nameIndex := 11, descriptorIndex := 12, attributes := #[] }, { accessFlags := 18, nameIndex := 15, descriptorIndex := 12, attributes := #[] }, { accessFlags := 18, nameIndex := 18, descriptorIndex := 12, attributes := #[] }, { accessFlags := 18, nameIndex := 21, descriptorIndex := 22, attributes := #[] }, { accessFlags := 18, nameIndex := 25, descriptorIndex := 12, attributes := #[] }, { accessFlags := 18, nameIndex := 28, descriptorIndex := 22, attributes := #[] }, { accessFlags := 18, nameIndex := 31, descriptorIndex := 32, attributes := #[] }, { accessFlags := 18, nameIndex := 35, descriptorIndex := 12, attributes := #[] }])
  fields := #[{ name := "fromStop", type := .int, accessFlags := 18, slot := 0, constantValue := 0 }, { name := "toStop", type := .int, accessFlags := 18, slot := 1, constantValue := 0 }, { name := "fromTrip", type := .int, accessFlags := 18, slot := 2, constantValue := 0 }, { name := "fromRoute", type := (.object "java/lang/String"), accessFlags := 18, slot := 3, constantValue := 0 }, { name := "toTrip", type := .int, accessFlags := 18, slot := 4, constantValue := 0 }, { name := "toRoute", type := (.object "java/lang/String"), accessFlags := 18, slot := 5, constantValue := 0 }, { name := "type", type := (.object "com/example/timeshed/timeshed/network/gtfs/Timetable$TransferType"), accessFlags := 18, slot := 6, constantValue := 0 }, { name := "minimumTime", type := .int, accessFlags := 18, slot := 7, constantValue := 0 }]
  methods := #[k12m0, k12m1]
  instanceTypes := #[.int, .int, .int, (.object "java/lang/String"), .int, (.object "java/lang/String"), (.object "com/example/timeshed/timeshed/network/gtfs/Timetable$TransferType"), .int]
  staticTypes := #[]
  resolved := Array.replicate 93 none
  statics := none }

def pool13 : Array CpInfo := pool [(2, .class_ 4), (1, u "java/lang/Object"), (0, u "<init>"), (0, u "()V"), (17, .class_ 26), (1, u "jdk/internal/util/Preconditions"), (28, .class_ 56), (0, u "jdk/internal/util/Preconditions$4"), (57, .class_ 115), (0, u "jdk/internal/util/Preconditions$1"), (7, u "SIOOBE_FORMATTER"), (0, u "Ljava/util/function/BiFunction;"), (0, .class_ 126), (0, u "jdk/internal/util/Preconditions$2"), (3, u "AIOOBE_FORMATTER"), (0, .class_ 132), (0, u "jdk/internal/util/Preconditions$3"), (3, u "IOOBE_FORMATTER")] 57

def k13m0 : Method := { name := "<init>", desc := "()V", sig := { parameters := [], returnType := none }, accessFlags := 1, code := none }
/-- jdk/internal/util/Preconditions -/
def k13 : Class := { plain "jdk/internal/util/Preconditions" (some 0) with
  accessFlags := 33
  interfaces := #[]
  cf := some (fileOf pool13 24 #[.nestMembers #[55, 131, 125, 114]] #[{ accessFlags := 1, nameIndex := 5, descriptorIndex := 6, attributes := #[] }] 33 2 #[] #[{ accessFlags := 25, nameIndex := 123, descriptorIndex := 124, attributes := #[] }, { accessFlags := 25, nameIndex := 130, descriptorIndex := 124, attributes := #[] }, { accessFlags := 25, nameIndex := 136, descriptorIndex := 124, attributes := #[] }])
  fields := #[{ name := "SIOOBE_FORMATTER", type := (.object "java/util/function/BiFunction"), accessFlags := 25, slot := 0, constantValue := 0 }, { name := "AIOOBE_FORMATTER", type := (.object "java/util/function/BiFunction"), accessFlags := 25, slot := 1, constantValue := 0 }, { name := "IOOBE_FORMATTER", type := (.object "java/util/function/BiFunction"), accessFlags := 25, slot := 2, constantValue := 0 }]
  methods := #[k13m0]
  instanceTypes := #[]
  staticTypes := #[(.object "java/util/function/BiFunction"), (.object "java/util/function/BiFunction"), (.object "java/util/function/BiFunction")]
  resolved := Array.replicate 194 none
  statics := some 2 }

def pool14 : Array CpInfo := pool [(9, u "<init>"), (6, .class_ 18), (1, u "java/lang/Object"), (0, u "()V"), (1, .class_ 23), (1, u "jdk/internal/util/ArraysSupport"), (0, u "LOG2_ARRAY_LONG_INDEX_SCALE"), (0, u "I"), (2, u "U"), (0, u "Ljdk/internal/misc/Unsafe;"), (8, u "BIG_ENDIAN"), (0, u "Z"), (8, u "LOG2_BYTE_BIT_SIZE"), (4, u "LOG2_ARRAY_INT_INDEX_SCALE"), (54, u "JLA"), (0, u "Ljdk/internal/access/JavaLangAccess;"), (11, u "LOG2_ARRAY_BOOLEAN_INDEX_SCALE"), (9, u "LOG2_ARRAY_BYTE_INDEX_SCALE"), (5, u "LOG2_ARRAY_CHAR_INDEX_SCALE"), (5, u "LOG2_ARRAY_SHORT_INDEX_SCALE"), (18, u "LOG2_ARRAY_FLOAT_INDEX_SCALE"), (24, u "LOG2_ARRAY_DOUBLE_INDEX_SCALE"), (89, u "T_BOOLEAN"), (2, u "T_CHAR"), (1, u "T_FLOAT"), (1, u "T_DOUBLE"), (1, u "T_BYTE"), (1, u "T_SHORT"), (1, u "T_INT"), (1, u "T_LONG"), (1, u "SOFT_MAX_ARRAY_LENGTH")] 83

def k14m0 : Method := { name := "<init>", desc := "()V", sig := { parameters := [], returnType := none }, accessFlags := 2, code := none }
/-- jdk/internal/util/ArraysSupport -/
def k14 : Class := { plain "jdk/internal/util/ArraysSupport" (some 0) with
  accessFlags := 33
  interfaces := #[]
  cf := some (fileOf pool14 21 #[] #[{ accessFlags := 2, nameIndex := 9, descriptorIndex := 19, attributes := #[] }] 33 16 #[] #[{ accessFlags := 24, nameIndex := 28, descriptorIndex := 29, attributes := #[] }, { accessFlags := 26, nameIndex := 38, descriptorIndex := 39, attributes := #[] }, { accessFlags := 25, nameIndex := 121, descriptorIndex := 25, attributes := #[] }, { accessFlags := 25, nameIndex := 131, descriptorIndex := 25, attributes := #[] }, { accessFlags := 25, nameIndex := 137, descriptorIndex := 25, attributes := #[] }, { accessFlags := 25, nameIndex := 143, descriptorIndex := 25, attributes := #[] }, { accessFlags := 25, nameIndex := 53, descriptorIndex := 25, attributes := #[] }, { accessFlags := 25, nameIndex := 24, descriptorIndex := 25, attributes := #[] }, { accessFlags := 25, nameIndex := 162, descriptorIndex := 25, attributes := #[] }, { accessFlags := 25, nameIndex := 187, descriptorIndex := 25, attributes := #[] }, { accessFlags := 26, nameIndex := 48, descriptorIndex := 25, attributes := #[] }, { accessFlags := 25, nameIndex := 277, descriptorIndex := 25, attributes := #[] }, { accessFlags := 25, nameIndex := 280, descriptorIndex := 25, attributes := #[] }, { accessFlags := 25, nameIndex := 282, descriptorIndex := 25, attributes := #[] }, { accessFlags := 25, nameIndex := 284, descriptorIndex := 25, attributes := #[] }, { accessFlags := 25, nameIndex := 286, descriptorIndex := 25, attributes := #[] }, { accessFlags := 25, nameIndex := 288, descriptorIndex := 25, attributes := #[] }, { accessFlags := 25, nameIndex := 290, descriptorIndex := 25, attributes := #[] }, { accessFlags := 25, nameIndex := 292, descriptorIndex := 25, attributes := #[] }, { accessFlags := 26, nameIndex := 108, descriptorIndex := 109, attributes := #[] }, { accessFlags := 25, nameIndex := 294, descriptorIndex := 25, attributes := #[] }])
  fields := #[{ name := "U", type := (.object "jdk/internal/misc/Unsafe"), accessFlags := 24, slot := 0, constantValue := 0 }, { name := "BIG_ENDIAN", type := .boolean, accessFlags := 26, slot := 1, constantValue := 0 }, { name := "LOG2_ARRAY_BOOLEAN_INDEX_SCALE", type := .int, accessFlags := 25, slot := 2, constantValue := 0 }, { name := "LOG2_ARRAY_BYTE_INDEX_SCALE", type := .int, accessFlags := 25, slot := 3, constantValue := 0 }, { name := "LOG2_ARRAY_CHAR_INDEX_SCALE", type := .int, accessFlags := 25, slot := 4, constantValue := 0 }, { name := "LOG2_ARRAY_SHORT_INDEX_SCALE", type := .int, accessFlags := 25, slot := 5, constantValue := 0 }, { name := "LOG2_ARRAY_INT_INDEX_SCALE", type := .int, accessFlags := 25, slot := 6, constantValue := 0 }, { name := "LOG2_ARRAY_LONG_INDEX_SCALE", type := .int, accessFlags := 25, slot := 7, constantValue := 0 }, { name := "LOG2_ARRAY_FLOAT_INDEX_SCALE", type := .int, accessFlags := 25, slot := 8, constantValue := 0 }, { name := "LOG2_ARRAY_DOUBLE_INDEX_SCALE", type := .int, accessFlags := 25, slot := 9, constantValue := 0 }, { name := "LOG2_BYTE_BIT_SIZE", type := .int, accessFlags := 26, slot := 10, constantValue := 0 }, { name := "T_BOOLEAN", type := .int, accessFlags := 25, slot := 11, constantValue := 0 }, { name := "T_CHAR", type := .int, accessFlags := 25, slot := 12, constantValue := 0 }, { name := "T_FLOAT", type := .int, accessFlags := 25, slot := 13, constantValue := 0 }, { name := "T_DOUBLE", type := .int, accessFlags := 25, slot := 14, constantValue := 0 }, { name := "T_BYTE", type := .int, accessFlags := 25, slot := 15, constantValue := 0 }, { name := "T_SHORT", type := .int, accessFlags := 25, slot := 16, constantValue := 0 }, { name := "T_INT", type := .int, accessFlags := 25, slot := 17, constantValue := 0 }, { name := "T_LONG", type := .int, accessFlags := 25, slot := 18, constantValue := 0 }, { name := "JLA", type := (.object "jdk/internal/access/JavaLangAccess"), accessFlags := 26, slot := 19, constantValue := 0 }, { name := "SOFT_MAX_ARRAY_LENGTH", type := .int, accessFlags := 25, slot := 20, constantValue := 0 }]
  methods := #[k14m0]
  instanceTypes := #[]
  staticTypes := #[(.object "jdk/internal/misc/Unsafe"), .boolean, .int, .int, .int, .int, .int, .int, .int, .int, .int, .int, .int, .int, .int, .int, .int, .int, .int, (.object "jdk/internal/access/JavaLangAccess"), .int]
  resolved := Array.replicate 378 none
  statics := none }

def pool15 : Array CpInfo := pool [(1, u "java/lang/Cloneable"), (0, .class_ 1), (0, u "java/lang/Object"), (0, .class_ 3)] 3

/-- java/lang/Cloneable -/
def k15 : Class := { plain "java/lang/Cloneable" (some 0) with
  accessFlags := 1537
  interfaces := #[]
  cf := some (fileOf pool15 2 #[] #[] 1537 4 #[] #[])
  fields := #[]
  methods := #[]
  instanceTypes := #[]
  staticTypes := #[]
  resolved := Array.replicate 8 none
  statics := none }

/-- the primitive byte -/
def k16 : Class := { plain "byte" none with kind := .primitive 'B', accessFlags := 0x411 }
/-- [B -/
def k17 : Class := { plain "[B" (some 0) with kind := .array 16 .byte, interfaces := #[15, 2], accessFlags := 1041 }

/-- the primitive int -/
def k18 : Class := { plain "int" none with kind := .primitive 'I', accessFlags := 0x411 }
/-- [I -/
def k19 : Class := { plain "[I" (some 0) with kind := .array 18 .int, interfaces := #[15, 2], accessFlags := 1041 }

def heap : Heap := #[{ cls := 7, slots := #[.long 0, .int 1, .null, .int 0, .null, .int 0, .int 0], vm := .statics 7 },
  { cls := 10, slots := #[.ref 3, .ref 4, .ref 5, .ref 6, .null, .null, .null], vm := .statics 10 },
  { cls := 13, slots := #[.null, .null, .null], vm := .statics 13 },
  { cls := 10, slots := #[.null, .int 0, .int 0], vm := .none },
  { cls := 10, slots := #[.null, .int 1, .int 0], vm := .none },
  { cls := 10, slots := #[.null, .int 2, .int 0], vm := .none },
  { cls := 10, slots := #[.null, .int 3, .int 0], vm := .none }]
def classes : Array Class := #[k0, k1, k2, k3, k4, k5, k6, k7, k8, k9, k10, k11, k12, k13, k14, k15, k16, k17, k18, k19]
def interned : List (Array UInt16 × Addr) := []
def slotsUsed : Nat := 29
def theMethod : MethodId := ⟨1, 1⟩
def args0 : Array Value := #[.int 1, .int 2, .int 3, .int 4, .int 5, .int 6]
def aboutOver (below : List Frame) : State where
  vm := { classes := classes, interned := interned.toArray }
  heap := heap
  slotsUsed := slotsUsed
  threads := #[{ frames := .invoking theMethod args0 :: below }]
def below0 : List Frame := [.native { method := ⟨0, 0⟩, args := #[] }]
def about1 : State := aboutOver below0
def p0 : Program := .bare "" "" ""
def e0 : Env := launch0.env 0 0 0
theorem w_frames : about1.frames = Frame.invoking theMethod args0 :: below0 := rfl
set_option maxRecDepth 65536 in
theorem w_args : argsFit about1.vm theMethod args0 = true := by decide +kernel
set_option maxRecDepth 65536 in
theorem w_heap : heapFits about1 = true := by decide +kernel
set_option maxRecDepth 65536 in
theorem w_runnable : about1.curStatus? = some .runnable := by decide +kernel
set_option maxRecDepth 65536 in
theorem w_alone : about1.alone = true := by decide +kernel
set_option maxRecDepth 65536 in
theorem w_named : about1.methodNamed? x = some theMethod := by decide +kernel
set_option maxRecDepth 65536 in
theorem w_hears : about1.hears theMethod below0 = true := by decide +kernel
set_option maxRecDepth 65536 in
theorem w_ripe : about1.ripe theMethod args0 below0 = true := by decide +kernel
theorem w_running : about1.status = .running := rfl
set_option maxRecDepth 65536 in
theorem w_room : about1.hasRoom e0.platform room_1 = true :=
  launch0.hasRoom_least _ room_1 (by decide +kernel) (by decide +kernel) (by decide +kernel) (by decide +kernel) (by decide +kernel) (by decide +kernel)
theorem allAtoms_all (ts : List Jvm.Cond) (a : Array Jvm.Value) (st : Jvm.State) : (allAtoms ts).before a st = ts.all (fun c => c.before a st) := by
  induction ts with
  | nil => rfl
  | cons c t ih =>
    show (Jvm.Cond.and c (allAtoms t)).before a st = _
    rw [Jvm.Cond.before_and, ih, List.all_cons]
def words1 : List Jvm.Cond := Jvm.Cond.code x code maxLocals ret :: tables_1
/-- a 'code' word, met by the world's own term for the bytes: nothing is compared byte by byte -/
theorem code_word {y : MethodName} {bytes : ByteArray} {mx : Nat} {rt : Option FieldType} {a : Array Value} {s : State} {m : MethodId} {meth : Method} {c : Code} (h1 : s.methodNamed? y = some m) (h2 : s.vm.method? m = some meth) (h3 : meth.code = some c) (h4 : c.code = bytes)
    (h5 : (c.maxLocals == mx && c.exceptionTable.isEmpty && decide (c.maxStack ≤ mostOperands) && decide (meth.sig.returnType = rt) && !meth.locks && decide (parseMethodDescriptor y.desc = some meth.sig)) = true) : (Jvm.Cond.code y bytes mx rt).before a s = true := by
  simp only [Bool.and_eq_true, beq_iff_eq, Bool.not_eq_true', decide_eq_true_eq] at h5
  obtain ⟨⟨⟨⟨⟨g1, g2⟩, g3⟩, g4⟩, g5⟩, g6⟩ := h5
  simp [Cond.before, Cond.holds, Cond.value, h1, h2, h3, h4, g1, g2, g3, g4, g5, g6]
def isCode : Jvm.Cond → Bool
  | .code _ _ _ _ => true
  | _ => false
theorem all_split {L : List Jvm.Cond} {P : Jvm.Cond → Bool} (h1 : L.all (fun c => isCode c || P c) = true) (h2 : ∀ c ∈ L.filter isCode, P c = true) : L.all P = true := by
  refine List.all_eq_true.mpr fun c hc => ?_
  have h := List.all_eq_true.mp h1 c hc
  rcases Bool.eq_false_or_eq_true (isCode c) with hi | hi
  · exact h2 c (List.mem_filter.mpr ⟨hc, hi⟩)
  · simpa [hi] using h
set_option maxRecDepth 65536 in
theorem w_c0 : (Jvm.Cond.code x code maxLocals ret).before args0 about1 = true := code_word (m := ⟨1, 1⟩) (meth := k1m1) (c := k1c1) (by decide +kernel) rfl rfl rfl (by decide +kernel)
set_option maxRecDepth 65536 in
theorem w_c1 : (Jvm.Cond.code ({ cls := "com/example/timeshed/timeshed/network/gtfs/TimetableNamesTripsPinLaw", name := "route", desc := "(IZ)Ljava/lang/String;" } : Jvm.MethodName) method_3_code (2 : Nat) (Option.some (Jvm.ClassFile.FieldType.object "java/lang/String"))).before args0 about1 = true := code_word (m := ⟨1, 2⟩) (meth := k1m2) (c := k1c2) (by decide +kernel) rfl rfl rfl (by decide +kernel)
set_option maxRecDepth 65536 in
theorem w_c2 : (Jvm.Cond.code ({ cls := "java/lang/String", name := "valueOf", desc := "(C)Ljava/lang/String;" } : Jvm.MethodName) jdk_42_method_139_code (1 : Nat) (Option.some (Jvm.ClassFile.FieldType.object "java/lang/String"))).before args0 about1 = true := code_word (m := ⟨7, 1⟩) (meth := k7m1) (c := k7c1) (by decide +kernel) rfl rfl rfl (by decide +kernel)
set_option maxRecDepth 65536 in
theorem w_c3 : (Jvm.Cond.code ({ cls := "java/lang/StringLatin1", name := "canEncode", desc := "(C)Z" } : Jvm.MethodName) jdk_43_method_3_code (1 : Nat) (Option.some Jvm.ClassFile.FieldType.boolean)).before args0 about1 = true := code_word (m := ⟨8, 1⟩) (meth := k8m1) (c := k8c1) (by decide +kernel) rfl rfl rfl (by decide +kernel)
set_option maxRecDepth 65536 in
theorem w_c4 : (Jvm.Cond.code ({ cls := "java/lang/StringLatin1", name := "toBytes", desc := "(C)[B" } : Jvm.MethodName) jdk_43_method_46_code (1 : Nat) (Option.some (Jvm.ClassFile.FieldType.array Jvm.ClassFile.FieldType.byte))).before args0 about1 = true := code_word (m := ⟨8, 2⟩) (meth := k8m2) (c := k8c2) (by decide +kernel) rfl rfl rfl (by decide +kernel)
set_option maxRecDepth 65536 in
theorem w_c5 : (Jvm.Cond.code ({ cls := "java/lang/String", name := "<init>", desc := "([BB)V" } : Jvm.MethodName) jdk_42_method_151_code (3 : Nat) (Option.none : Option Jvm.ClassFile.FieldType)).before args0 about1 = true := code_word (m := ⟨7, 2⟩) (meth := k7m2) (c := k7c2) (by decide +kernel) rfl rfl rfl (by decide +kernel)
set_option maxRecDepth 65536 in
theorem w_c6 : (Jvm.Cond.code ({ cls := "java/lang/Object", name := "<init>", desc := "()V" } : Jvm.MethodName) object_method_1_code (1 : Nat) (Option.none : Option Jvm.ClassFile.FieldType)).before args0 about1 = true := code_word (m := ⟨0, 0⟩) (meth := k0m0) (c := k0c0) (by decide +kernel) rfl rfl rfl (by decide +kernel)
set_option maxRecDepth 65536 in
theorem w_c7 : (Jvm.Cond.code ({ cls := "com/example/timeshed/timeshed/network/gtfs/TimetableNamesTripsPinLaw", name := "type", desc := "(I)Lcom/example/timeshed/timeshed/network/gtfs/Timetable$TransferType;" } : Jvm.MethodName) method_4_code (1 : Nat) (Option.some (Jvm.ClassFile.FieldType.object "com/example/timeshed/timeshed/network/gtfs/Timetable$TransferType"))).before args0 about1 = true := code_word (m := ⟨1, 3⟩) (meth := k1m3) (c := k1c3) (by decide +kernel) rfl rfl rfl (by decide +kernel)
set_option maxRecDepth 65536 in
theorem w_c8 : (Jvm.Cond.code ({ cls := "com/example/timeshed/timeshed/network/gtfs/Timetable$Transfer", name := "<init>", desc := "(IIILjava/lang/String;ILjava/lang/String;Lcom/example/timeshed/timeshed/network/gtfs/Timetable$TransferType;I)V" } : Jvm.MethodName) prog_109_method_1_code (9 : Nat) (Option.none : Option Jvm.ClassFile.FieldType)).before args0 about1 = true := code_word (m := ⟨12, 0⟩) (meth := k12m0) (c := k12c0) (by decide +kernel) rfl rfl rfl (by decide +kernel)
set_option maxRecDepth 65536 in
theorem w_c9 : (Jvm.Cond.code ({ cls := "java/lang/Record", name := "<init>", desc := "()V" } : Jvm.MethodName) jdk_30_method_1_code (1 : Nat) (Option.none : Option Jvm.ClassFile.FieldType)).before args0 about1 = true := code_word (m := ⟨11, 0⟩) (meth := k11m0) (c := k11c0) (by decide +kernel) rfl rfl rfl (by decide +kernel)
set_option maxRecDepth 65536 in
theorem w_c10 : (Jvm.Cond.code ({ cls := "com/example/timeshed/timeshed/network/gtfs/Timetable$Transfer", name := "namesTrips", desc := "()Z" } : Jvm.MethodName) prog_109_method_2_code (1 : Nat) (Option.some Jvm.ClassFile.FieldType.boolean)).before args0 about1 = true := code_word (m := ⟨12, 1⟩) (meth := k12m1) (c := k12c1) (by decide +kernel) rfl rfl rfl (by decide +kernel)
def codes1 : List Jvm.Cond := [Jvm.Cond.code x code maxLocals ret, Jvm.Cond.code ({ cls := "com/example/timeshed/timeshed/network/gtfs/TimetableNamesTripsPinLaw", name := "route", desc := "(IZ)Ljava/lang/String;" } : Jvm.MethodName) method_3_code (2 : Nat) (Option.some (Jvm.ClassFile.FieldType.object "java/lang/String")), Jvm.Cond.code ({ cls := "java/lang/String", name := "valueOf", desc := "(C)Ljava/lang/String;" } : Jvm.MethodName) jdk_42_method_139_code (1 : Nat) (Option.some (Jvm.ClassFile.FieldType.object "java/lang/String")), Jvm.Cond.code ({ cls := "java/lang/StringLatin1", name := "canEncode", desc := "(C)Z" } : Jvm.MethodName) jdk_43_method_3_code (1 : Nat) (Option.some Jvm.ClassFile.FieldType.boolean), Jvm.Cond.code ({ cls := "java/lang/StringLatin1", name := "toBytes", desc := "(C)[B" } : Jvm.MethodName) jdk_43_method_46_code (1 : Nat) (Option.some (Jvm.ClassFile.FieldType.array Jvm.ClassFile.FieldType.byte)), Jvm.Cond.code ({ cls := "java/lang/String", name := "<init>", desc := "([BB)V" } : Jvm.MethodName) jdk_42_method_151_code (3 : Nat) (Option.none : Option Jvm.ClassFile.FieldType), Jvm.Cond.code ({ cls := "java/lang/Object", name := "<init>", desc := "()V" } : Jvm.MethodName) object_method_1_code (1 : Nat) (Option.none : Option Jvm.ClassFile.FieldType), Jvm.Cond.code ({ cls := "com/example/timeshed/timeshed/network/gtfs/TimetableNamesTripsPinLaw", name := "type", desc := "(I)Lcom/example/timeshed/timeshed/network/gtfs/Timetable$TransferType;" } : Jvm.MethodName) method_4_code (1 : Nat) (Option.some (Jvm.ClassFile.FieldType.object "com/example/timeshed/timeshed/network/gtfs/Timetable$TransferType")), Jvm.Cond.code ({ cls := "com/example/timeshed/timeshed/network/gtfs/Timetable$Transfer", name := "<init>", desc := "(IIILjava/lang/String;ILjava/lang/String;Lcom/example/timeshed/timeshed/network/gtfs/Timetable$TransferType;I)V" } : Jvm.MethodName) prog_109_method_1_code (9 : Nat) (Option.none : Option Jvm.ClassFile.FieldType), Jvm.Cond.code ({ cls := "java/lang/Record", name := "<init>", desc := "()V" } : Jvm.MethodName) jdk_30_method_1_code (1 : Nat) (Option.none : Option Jvm.ClassFile.FieldType), Jvm.Cond.code ({ cls := "com/example/timeshed/timeshed/network/gtfs/Timetable$Transfer", name := "namesTrips", desc := "()Z" } : Jvm.MethodName) prog_109_method_2_code (1 : Nat) (Option.some Jvm.ClassFile.FieldType.boolean)]
set_option maxRecDepth 65536 in
theorem codes_eq : words1.filter isCode = codes1 := rfl
theorem w_codes : ∀ c ∈ words1.filter isCode, c.before args0 about1 = true := by
  rw [codes_eq]
  intro c hc
  simp only [codes1, List.mem_cons, List.not_mem_nil, or_false] at hc
  rcases hc with rfl | rfl | rfl | rfl | rfl | rfl | rfl | rfl | rfl | rfl | rfl
  · exact w_c0
  · exact w_c1
  · exact w_c2
  · exact w_c3
  · exact w_c4
  · exact w_c5
  · exact w_c6
  · exact w_c7
  · exact w_c8
  · exact w_c9
  · exact w_c10
set_option maxRecDepth 65536 in
theorem w_t1 : (words1.take 24).all (fun c => isCode c || c.before args0 about1) = true := by decide +kernel
set_option maxRecDepth 65536 in
theorem w_t2 : ((words1.drop 24).take 24).all (fun c => isCode c || c.before args0 about1) = true := by decide +kernel
set_option maxRecDepth 65536 in
theorem w_t3 : (((words1.drop 24).drop 24).take 24).all (fun c => isCode c || c.before args0 about1) = true := by decide +kernel
set_option maxRecDepth 65536 in
theorem w_t4 : (((words1.drop 24).drop 24).drop 24).all (fun c => isCode c || c.before args0 about1) = true := by decide +kernel
theorem w_tables : (allAtoms (Jvm.Cond.code x code maxLocals ret :: tables_1)).before args0 about1 = true := by
  rw [allAtoms_all]
  show words1.all (fun c => c.before args0 about1) = true
  refine all_split ?_ w_codes
  rw [← List.take_append_drop 24 words1, List.all_append, w_t1, ← List.take_append_drop 24 (words1.drop 24), List.all_append, w_t2, ← List.take_append_drop 24 ((words1.drop 24).drop 24), List.all_append, w_t3, w_t4]
  rfl
set_option maxRecDepth 65536 in
theorem w_rest : rest_1_c.before args0 about1 = true := by decide +kernel
set_option maxRecDepth 65536 in
theorem w_case : (Jvm.Cond.and given_1 narrow_1).before args0 about1 = true := by decide +kernel
theorem w_applies : (headSpec (Jvm.Cond.code x code maxLocals ret :: tables_1) room_1).applies x e0.platform about1 = true :=
  (Spec.applies_iff w_frames).mpr ⟨w_running, w_runnable, w_alone, w_named, w_hears, w_ripe, w_room, w_tables⟩
theorem atStart : AtStart classFile x code maxLocals ret World_1 tables_1 room_1 Calls_1 rest_1 Pre_1 launch0 p0 e0 about1 theMethod args0 below0 :=
  ⟨lists_1, trivial, launch0.admits_env _ _ _, launch0.least_env, fairChoices_fair.cas, fairChoices_fair.clock, w_frames, w_args, w_heap, w_applies, trivial, w_rest, w_case⟩
end start1
theorem witness_1 : WitnessClaimed_1 := ⟨start1.p0, start1.e0, start1.about1, start1.theMethod, start1.args0, start1.below0, start1.atStart⟩
end Jvm.Pilot.@@N@@
