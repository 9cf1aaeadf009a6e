import JvmDerived
import JvmDerived.Pilot.@@N@@Statement
import JvmDerived.Pilot.@@N@@Code
set_option linter.unusedVariables false
set_option linter.unusedSimpArgs false
set_option maxHeartbeats 4000000
namespace Jvm.Pilot.@@N@@
open Jvm Jvm.ClassFile Sem Op Lib Jvm.Free Jvm.Stand Jvm.LawKit Jvm.RoadKit Bundle Jvm.Pilot.@@N@@.Jvm.D

def own_Go (tb : Tables) (e : Env) (below : List Frame) (U : State) (Q : Outcome → State → Prop) : Prop :=
  ∃ s₂ o, Steps tb e below U s₂ ∧ s₂.status = .running ∧ Ended s₂ below o ∧ Q o s₂
def own_QR (s : State) (n0 kc ks : Nat) (P : Option Value → Heap → Prop) (o : Outcome) (u : State) : Prop :=
  ∃ v L, o = .returned v ∧ (P v u.heap ∧ Fr n0 L) ∧ FrameEnd s o u L kc ks
def own_RI (h : Heap) (r : Int32) (v : Option Value) (h' : Heap) : Prop := v = some (.int r) ∧ h = h'
def own_RV (r : Int32) (v : Option Value) (h' : Heap) : Prop := v = some (.int r)
def own_R0 (h : Heap) (r : Unit) (v : Option Value) (h' : Heap) : Prop := v = none ∧ h = h'
def own_RJ (h : Heap) (r : Int64) (v : Option Value) (h' : Heap) : Prop := v = some (.long r) ∧ h = h'
def own_Cx (Z : State) (a0 : Array Value) (p : Program) (l : Launch) (e : Env) (R : Room) (s : State) (m : MethodId) (args : Array Value) (below : List Frame) (meth : Method) (c : Code) (own nm : String) (bytes : ByteArray) (mx : Nat) (ret : Option FieldType) : Prop :=
  p.tables.exec = Jvm.exec ∧ c.code = bytes ∧ c.maxLocals = mx ∧ s.vm.findClass own = some m.cls ∧ Z.Warmed39 s.vm ∧ meth.name = nm ∧ meth.sig.returnType = ret ∧ meth.locks = false ∧ ∀ d ∈ tables_1, d.before a0 Z = true
def own_At (p : Program) (l : Launch) (e : Env) (R : Room) (s : State) (m : MethodId) (args : Array Value) (below : List Frame) (meth : Method) (c : Code) (T : State) (h : Heap) (n0 kc ks : Nat) : Prop :=
  ∃ locs cells slots, Stand p l e R s m args below meth c T locs cells slots ∧ T.heap = h ∧ Fr n0 locs ∧ cells ≤ kc ∧ slots ≤ ks ∧ n0 ≤ h.size
theorem own_go {tb : Tables} {e : Env} {below : List Frame} {U U' : State} {Q : Outcome → State → Prop} (h : ∀ t, Steps tb e below U' t → Steps tb e below U t) (k : own_Go tb e below U' Q) : own_Go tb e below U Q := by
  obtain ⟨s2, o, h1, h2⟩ := k
  exact ⟨s2, o, h _ h1, h2⟩
theorem own_ite {tb : Tables} {e : Env} {below : List Frame} {U s : State} {n0 kc ks : Nat} {β : Type} {P : β → Option Value → Heap → Prop} {cnd : Prop} [Decidable cnd] {A B : β} (h1 : cnd → own_Go tb e below U (own_QR s n0 kc ks (P A))) (h2 : ¬ cnd → own_Go tb e below U (own_QR s n0 kc ks (P B))) :
    own_Go tb e below U (own_QR s n0 kc ks (P (if cnd then A else B))) := by
  by_cases hc : cnd
  · rw [if_pos hc]; exact h1 hc
  · rw [if_neg hc]; exact h2 hc

section OwnKit
variable {Z : State} {a0 : Array Value} {p : Program} {l : Launch} {e : Env} {R : Room} {s : State} {m : MethodId} {args : Array Value} {below : List Frame} {meth : Method} {c : Code} {own nm : String} {bytes : ByteArray} {mx : Nat} {ret : Option FieldType} {T : State} {h : Heap} {n0 kc ks : Nat} {Q : Outcome → State → Prop} {pc q : Nat} {Ls : Array Slot} {st : List Value}
theorem own_here (A : own_At p l e R s m args below meth c T h n0 kc ks) : At T m c below := by obtain ⟨_, _, _, X, _⟩ := A; exact X.here
theorem own_w (C : own_Cx Z a0 p l e R s m args below meth c own nm bytes mx ret) (i : Nat) {d : Jvm.Cond} (hi : tables_1[i]? = some d) : d.before a0 Z = true := C.2.2.2.2.2.2.2.2 d (List.mem_of_getElem? hi)
theorem own_size (A : own_At p l e R s m args below meth c T h n0 kc ks) : n0 ≤ h.size := by obtain ⟨_, _, _, _, _, _, _, _, hn⟩ := A; exact hn
theorem own_more {kc' ks' : Nat} (A : own_At p l e R s m args below meth c T h n0 kc ks) (h1 : kc ≤ kc') (h2 : ks ≤ ks') : own_At p l e R s m args below meth c T h n0 kc' ks' := by obtain ⟨locs, cells, slots, X, eT, N, hc, hs, hn⟩ := A; exact ⟨locs, cells, slots, X, eT, N, Nat.le_trans hc h1, Nat.le_trans hs h2, hn⟩
theorem own_iloadN (C : own_Cx Z a0 p l e R s m args below meth c own nm bytes mx ret) (A : own_At p l e R s m args below meth c T h n0 kc ks) {k : Fin 4} {v : Int32} (hd : decode bytes pc = .ok (.iload_n k, 1)) (hl : Ls[k.val]? = some (.val (.int v))) (hq : pc + 1 = q) (k : own_Go p.tables e below (T.setTop (mkF m q Ls (.int v :: st))) Q) :
    own_Go p.tables e below (T.setTop (mkF m pc Ls st)) Q := by
  subst hq
  exact own_go (fun t => XS.iloadN (own_here A) C.1 rfl (hb C.2.1 hd) hl) k
theorem own_lloadN (C : own_Cx Z a0 p l e R s m args below meth c own nm bytes mx ret) (A : own_At p l e R s m args below meth c T h n0 kc ks) {k : Fin 4} {v : Int64} (hd : decode bytes pc = .ok (.lload_n k, 1)) (hl : Ls[k.val]? = some (.val (.long v))) (hq : pc + 1 = q) (k : own_Go p.tables e below (T.setTop (mkF m q Ls (.long v :: st))) Q) :
    own_Go p.tables e below (T.setTop (mkF m pc Ls st)) Q := by
  subst hq
  exact own_go (fun t => XS.lloadN (own_here A) C.1 rfl (hb C.2.1 hd) hl) k
theorem own_aloadN (C : own_Cx Z a0 p l e R s m args below meth c own nm bytes mx ret) (A : own_At p l e R s m args below meth c T h n0 kc ks) {k : Fin 4} {v : Value} (hd : decode bytes pc = .ok (.aload_n k, 1)) (hl : Ls[k.val]? = some (.val v)) (hv : v.isRef = true) (hq : pc + 1 = q) (k : own_Go p.tables e below (T.setTop (mkF m q Ls (v :: st))) Q) :
    own_Go p.tables e below (T.setTop (mkF m pc Ls st)) Q := by
  subst hq
  exact own_go (fun t => XS.aloadN (own_here A) C.1 rfl (hb C.2.1 hd) hl hv) k
theorem own_istoreN (C : own_Cx Z a0 p l e R s m args below meth c own nm bytes mx ret) (A : own_At p l e R s m args below meth c T h n0 kc ks) {k : Fin 4} {x : Int32} {l' : Array Slot} (hd : decode bytes pc = .ok (.istore_n k, 1)) (hl : storeLocals Ls k.val (.int x) = some l') (hq : pc + 1 = q) (k : own_Go p.tables e below (T.setTop (mkF m q l' st)) Q) :
    own_Go p.tables e below (T.setTop (mkF m pc Ls (.int x :: st))) Q := by
  subst hq
  exact own_go (fun t => XS.istoreN (own_here A) C.1 rfl (hb C.2.1 hd) rfl hl) k
theorem own_lstoreN (C : own_Cx Z a0 p l e R s m args below meth c own nm bytes mx ret) (A : own_At p l e R s m args below meth c T h n0 kc ks) {k : Fin 4} {x : Int64} {l' : Array Slot} (hd : decode bytes pc = .ok (.lstore_n k, 1)) (hl : storeLocals Ls k.val (.long x) = some l') (hq : pc + 1 = q) (k : own_Go p.tables e below (T.setTop (mkF m q l' st)) Q) :
    own_Go p.tables e below (T.setTop (mkF m pc Ls (.long x :: st))) Q := by
  subst hq
  exact own_go (fun t => XS.lstoreN (own_here A) C.1 rfl (hb C.2.1 hd) rfl hl) k
theorem own_astoreN (C : own_Cx Z a0 p l e R s m args below meth c own nm bytes mx ret) (A : own_At p l e R s m args below meth c T h n0 kc ks) {k : Fin 4} {x : Value} {l' : Array Slot} (hd : decode bytes pc = .ok (.astore_n k, 1)) (hv : x.isRef = true) (hl : storeLocals Ls k.val x = some l') (hq : pc + 1 = q) (k : own_Go p.tables e below (T.setTop (mkF m q l' st)) Q) :
    own_Go p.tables e below (T.setTop (mkF m pc Ls (x :: st))) Q := by
  subst hq
  exact own_go (fun t => XS.astoreN (own_here A) C.1 rfl (hb C.2.1 hd) rfl hv hl) k
theorem own_iload (C : own_Cx Z a0 p l e R s m args below meth c own nm bytes mx ret) (A : own_At p l e R s m args below meth c T h n0 kc ks) {k : Nat} {v : Int32} (hd : decode bytes pc = .ok (.iload k, 2)) (hl : Ls[k]? = some (.val (.int v))) (hq : pc + 2 = q) (k : own_Go p.tables e below (T.setTop (mkF m q Ls (.int v :: st))) Q) :
    own_Go p.tables e below (T.setTop (mkF m pc Ls st)) Q := by
  subst hq
  exact own_go (fun t => XS.iload (own_here A) C.1 rfl (hb C.2.1 hd) hl) k
theorem own_lload (C : own_Cx Z a0 p l e R s m args below meth c own nm bytes mx ret) (A : own_At p l e R s m args below meth c T h n0 kc ks) {k : Nat} {v : Int64} (hd : decode bytes pc = .ok (.lload k, 2)) (hl : Ls[k]? = some (.val (.long v))) (hq : pc + 2 = q) (k : own_Go p.tables e below (T.setTop (mkF m q Ls (.long v :: st))) Q) :
    own_Go p.tables e below (T.setTop (mkF m pc Ls st)) Q := by
  subst hq
  exact own_go (fun t => XS.lload (own_here A) C.1 rfl (hb C.2.1 hd) hl) k
theorem own_aload (C : own_Cx Z a0 p l e R s m args below meth c own nm bytes mx ret) (A : own_At p l e R s m args below meth c T h n0 kc ks) {k : Nat} {v : Value} (hd : decode bytes pc = .ok (.aload k, 2)) (hl : Ls[k]? = some (.val v)) (hv : v.isRef = true) (hq : pc + 2 = q) (k : own_Go p.tables e below (T.setTop (mkF m q Ls (v :: st))) Q) :
    own_Go p.tables e below (T.setTop (mkF m pc Ls st)) Q := by
  subst hq
  exact own_go (fun t => XS.aload (own_here A) C.1 rfl (hb C.2.1 hd) hl hv) k
theorem own_istore (C : own_Cx Z a0 p l e R s m args below meth c own nm bytes mx ret) (A : own_At p l e R s m args below meth c T h n0 kc ks) {k : Nat} {x : Int32} {l' : Array Slot} (hd : decode bytes pc = .ok (.istore k, 2)) (hl : storeLocals Ls k (.int x) = some l') (hq : pc + 2 = q) (k : own_Go p.tables e below (T.setTop (mkF m q l' st)) Q) :
    own_Go p.tables e below (T.setTop (mkF m pc Ls (.int x :: st))) Q := by
  subst hq
  exact own_go (fun t => XS.istore (own_here A) C.1 rfl (hb C.2.1 hd) rfl hl) k
theorem own_lstore (C : own_Cx Z a0 p l e R s m args below meth c own nm bytes mx ret) (A : own_At p l e R s m args below meth c T h n0 kc ks) {k : Nat} {x : Int64} {l' : Array Slot} (hd : decode bytes pc = .ok (.lstore k, 2)) (hl : storeLocals Ls k (.long x) = some l') (hq : pc + 2 = q) (k : own_Go p.tables e below (T.setTop (mkF m q l' st)) Q) :
    own_Go p.tables e below (T.setTop (mkF m pc Ls (.long x :: st))) Q := by
  subst hq
  exact own_go (fun t => XS.lstore (own_here A) C.1 rfl (hb C.2.1 hd) rfl hl) k
theorem own_astore (C : own_Cx Z a0 p l e R s m args below meth c own nm bytes mx ret) (A : own_At p l e R s m args below meth c T h n0 kc ks) {k : Nat} {x : Value} {l' : Array Slot} (hd : decode bytes pc = .ok (.astore k, 2)) (hv : x.isRef = true) (hl : storeLocals Ls k x = some l') (hq : pc + 2 = q) (k : own_Go p.tables e below (T.setTop (mkF m q l' st)) Q) :
    own_Go p.tables e below (T.setTop (mkF m pc Ls (x :: st))) Q := by
  subst hq
  exact own_go (fun t => XS.astore (own_here A) C.1 rfl (hb C.2.1 hd) rfl hv hl) k
theorem own_iconst (C : own_Cx Z a0 p l e R s m args below meth c own nm bytes mx ret) (A : own_At p l e R s m args below meth c T h n0 kc ks) {i : Int} {v : Int32} (hd : decode bytes pc = .ok (.iconst i, 1)) (hv : Int32.ofInt i = v) (hq : pc + 1 = q) (k : own_Go p.tables e below (T.setTop (mkF m q Ls (.int v :: st))) Q) :
    own_Go p.tables e below (T.setTop (mkF m pc Ls st)) Q := by
  subst hq hv
  exact own_go (fun t => XS.iconst (own_here A) C.1 rfl (hb C.2.1 hd)) k
theorem own_bipush (C : own_Cx Z a0 p l e R s m args below meth c own nm bytes mx ret) (A : own_At p l e R s m args below meth c T h n0 kc ks) {i : Int} {v : Int32} (hd : decode bytes pc = .ok (.bipush i, 2)) (hv : (Int8.ofInt i).toInt32 = v) (hq : pc + 2 = q) (k : own_Go p.tables e below (T.setTop (mkF m q Ls (.int v :: st))) Q) :
    own_Go p.tables e below (T.setTop (mkF m pc Ls st)) Q := by
  subst hq hv
  exact own_go (fun t => XS.bipush (own_here A) C.1 rfl (hb C.2.1 hd)) k
theorem own_sipush (C : own_Cx Z a0 p l e R s m args below meth c own nm bytes mx ret) (A : own_At p l e R s m args below meth c T h n0 kc ks) {i : Int} {v : Int32} (hd : decode bytes pc = .ok (.sipush i, 3)) (hv : (Int16.ofInt i).toInt32 = v) (hq : pc + 3 = q) (k : own_Go p.tables e below (T.setTop (mkF m q Ls (.int v :: st))) Q) :
    own_Go p.tables e below (T.setTop (mkF m pc Ls st)) Q := by
  subst hq hv
  exact own_go (fun t => XS.sipush (own_here A) C.1 rfl (hb C.2.1 hd)) k
theorem own_lconst (C : own_Cx Z a0 p l e R s m args below meth c own nm bytes mx ret) (A : own_At p l e R s m args below meth c T h n0 kc ks) {k' : Fin 2} {v : Int64} (hd : decode bytes pc = .ok (.lconst k', 1)) (hv : Int64.ofNat k' = v) (hq : pc + 1 = q) (k : own_Go p.tables e below (T.setTop (mkF m q Ls (.long v :: st))) Q) :
    own_Go p.tables e below (T.setTop (mkF m pc Ls st)) Q := by
  subst hq hv
  exact own_go (fun t => XS.lconst (own_here A) C.1 rfl (hb C.2.1 hd)) k
theorem own_aconstNull (C : own_Cx Z a0 p l e R s m args below meth c own nm bytes mx ret) (A : own_At p l e R s m args below meth c T h n0 kc ks)  (hd : decode bytes pc = .ok (.aconst_null, 1))  (hq : pc + 1 = q) (k : own_Go p.tables e below (T.setTop (mkF m q Ls (.null :: st))) Q) :
    own_Go p.tables e below (T.setTop (mkF m pc Ls st)) Q := by
  subst hq
  exact own_go (fun t => XS.aconstNull (own_here A) C.1 rfl (hb C.2.1 hd) ) k
theorem own_iadd (C : own_Cx Z a0 p l e R s m args below meth c own nm bytes mx ret) (A : own_At p l e R s m args below meth c T h n0 kc ks) {x y : Int32} (hd : decode bytes pc = .ok (.iadd, 1))  (hq : pc + 1 = q) (k : own_Go p.tables e below (T.setTop (mkF m q Ls (.int (x + y) :: st))) Q) :
    own_Go p.tables e below (T.setTop (mkF m pc Ls (.int y :: .int x :: st))) Q := by
  subst hq
  exact own_go (fun t => XS.iadd (own_here A) C.1 rfl (hb C.2.1 hd) rfl) k
theorem own_isub (C : own_Cx Z a0 p l e R s m args below meth c own nm bytes mx ret) (A : own_At p l e R s m args below meth c T h n0 kc ks) {x y : Int32} (hd : decode bytes pc = .ok (.isub, 1))  (hq : pc + 1 = q) (k : own_Go p.tables e below (T.setTop (mkF m q Ls (.int (x - y) :: st))) Q) :
    own_Go p.tables e below (T.setTop (mkF m pc Ls (.int y :: .int x :: st))) Q := by
  subst hq
  exact own_go (fun t => XS.isub (own_here A) C.1 rfl (hb C.2.1 hd) rfl) k
theorem own_imul (C : own_Cx Z a0 p l e R s m args below meth c own nm bytes mx ret) (A : own_At p l e R s m args below meth c T h n0 kc ks) {x y : Int32} (hd : decode bytes pc = .ok (.imul, 1))  (hq : pc + 1 = q) (k : own_Go p.tables e below (T.setTop (mkF m q Ls (.int (x * y) :: st))) Q) :
    own_Go p.tables e below (T.setTop (mkF m pc Ls (.int y :: .int x :: st))) Q := by
  subst hq
  exact own_go (fun t => XS.imul (own_here A) C.1 rfl (hb C.2.1 hd) rfl) k
theorem own_iand (C : own_Cx Z a0 p l e R s m args below meth c own nm bytes mx ret) (A : own_At p l e R s m args below meth c T h n0 kc ks) {x y : Int32} (hd : decode bytes pc = .ok (.iand, 1))  (hq : pc + 1 = q) (k : own_Go p.tables e below (T.setTop (mkF m q Ls (.int (x &&& y) :: st))) Q) :
    own_Go p.tables e below (T.setTop (mkF m pc Ls (.int y :: .int x :: st))) Q := by
  subst hq
  exact own_go (fun t => XS.iand (own_here A) C.1 rfl (hb C.2.1 hd) rfl) k
theorem own_ior (C : own_Cx Z a0 p l e R s m args below meth c own nm bytes mx ret) (A : own_At p l e R s m args below meth c T h n0 kc ks) {x y : Int32} (hd : decode bytes pc = .ok (.ior, 1))  (hq : pc + 1 = q) (k : own_Go p.tables e below (T.setTop (mkF m q Ls (.int (x ||| y) :: st))) Q) :
    own_Go p.tables e below (T.setTop (mkF m pc Ls (.int y :: .int x :: st))) Q := by
  subst hq
  exact own_go (fun t => XS.ior (own_here A) C.1 rfl (hb C.2.1 hd) rfl) k
theorem own_ixor (C : own_Cx Z a0 p l e R s m args below meth c own nm bytes mx ret) (A : own_At p l e R s m args below meth c T h n0 kc ks) {x y : Int32} (hd : decode bytes pc = .ok (.ixor, 1))  (hq : pc + 1 = q) (k : own_Go p.tables e below (T.setTop (mkF m q Ls (.int (x ^^^ y) :: st))) Q) :
    own_Go p.tables e below (T.setTop (mkF m pc Ls (.int y :: .int x :: st))) Q := by
  subst hq
  exact own_go (fun t => XS.ixor (own_here A) C.1 rfl (hb C.2.1 hd) rfl) k
theorem own_ishl (C : own_Cx Z a0 p l e R s m args below meth c own nm bytes mx ret) (A : own_At p l e R s m args below meth c T h n0 kc ks) {x y : Int32} (hd : decode bytes pc = .ok (.ishl, 1))  (hq : pc + 1 = q) (k : own_Go p.tables e below (T.setTop (mkF m q Ls (.int (x <<< (y &&& 31)) :: st))) Q) :
    own_Go p.tables e below (T.setTop (mkF m pc Ls (.int y :: .int x :: st))) Q := by
  subst hq
  exact own_go (fun t => XS.ishl (own_here A) C.1 rfl (hb C.2.1 hd) rfl) k
theorem own_ishr (C : own_Cx Z a0 p l e R s m args below meth c own nm bytes mx ret) (A : own_At p l e R s m args below meth c T h n0 kc ks) {x y : Int32} (hd : decode bytes pc = .ok (.ishr, 1))  (hq : pc + 1 = q) (k : own_Go p.tables e below (T.setTop (mkF m q Ls (.int (x >>> (y &&& 31)) :: st))) Q) :
    own_Go p.tables e below (T.setTop (mkF m pc Ls (.int y :: .int x :: st))) Q := by
  subst hq
  exact own_go (fun t => XS.ishr (own_here A) C.1 rfl (hb C.2.1 hd) rfl) k
theorem own_iushr (C : own_Cx Z a0 p l e R s m args below meth c own nm bytes mx ret) (A : own_At p l e R s m args below meth c T h n0 kc ks) {x y : Int32} (hd : decode bytes pc = .ok (.iushr, 1))  (hq : pc + 1 = q) (k : own_Go p.tables e below (T.setTop (mkF m q Ls (.int ((x.toUInt32 >>> (y &&& 31).toUInt32).toInt32) :: st))) Q) :
    own_Go p.tables e below (T.setTop (mkF m pc Ls (.int y :: .int x :: st))) Q := by
  subst hq
  exact own_go (fun t => XS.iushr (own_here A) C.1 rfl (hb C.2.1 hd) rfl) k
theorem own_ladd (C : own_Cx Z a0 p l e R s m args below meth c own nm bytes mx ret) (A : own_At p l e R s m args below meth c T h n0 kc ks) {x y : Int64} (hd : decode bytes pc = .ok (.ladd, 1))  (hq : pc + 1 = q) (k : own_Go p.tables e below (T.setTop (mkF m q Ls (.long (x + y) :: st))) Q) :
    own_Go p.tables e below (T.setTop (mkF m pc Ls (.long y :: .long x :: st))) Q := by
  subst hq
  exact own_go (fun t => XS.ladd (own_here A) C.1 rfl (hb C.2.1 hd) rfl) k
theorem own_lsub (C : own_Cx Z a0 p l e R s m args below meth c own nm bytes mx ret) (A : own_At p l e R s m args below meth c T h n0 kc ks) {x y : Int64} (hd : decode bytes pc = .ok (.lsub, 1))  (hq : pc + 1 = q) (k : own_Go p.tables e below (T.setTop (mkF m q Ls (.long (x - y) :: st))) Q) :
    own_Go p.tables e below (T.setTop (mkF m pc Ls (.long y :: .long x :: st))) Q := by
  subst hq
  exact own_go (fun t => XS.lsub (own_here A) C.1 rfl (hb C.2.1 hd) rfl) k
theorem own_lmul (C : own_Cx Z a0 p l e R s m args below meth c own nm bytes mx ret) (A : own_At p l e R s m args below meth c T h n0 kc ks) {x y : Int64} (hd : decode bytes pc = .ok (.lmul, 1))  (hq : pc + 1 = q) (k : own_Go p.tables e below (T.setTop (mkF m q Ls (.long (x * y) :: st))) Q) :
    own_Go p.tables e below (T.setTop (mkF m pc Ls (.long y :: .long x :: st))) Q := by
  subst hq
  exact own_go (fun t => XS.lmul (own_here A) C.1 rfl (hb C.2.1 hd) rfl) k
theorem own_land (C : own_Cx Z a0 p l e R s m args below meth c own nm bytes mx ret) (A : own_At p l e R s m args below meth c T h n0 kc ks) {x y : Int64} (hd : decode bytes pc = .ok (.land, 1))  (hq : pc + 1 = q) (k : own_Go p.tables e below (T.setTop (mkF m q Ls (.long (x &&& y) :: st))) Q) :
    own_Go p.tables e below (T.setTop (mkF m pc Ls (.long y :: .long x :: st))) Q := by
  subst hq
  exact own_go (fun t => XS.land (own_here A) C.1 rfl (hb C.2.1 hd) rfl) k
theorem own_lor (C : own_Cx Z a0 p l e R s m args below meth c own nm bytes mx ret) (A : own_At p l e R s m args below meth c T h n0 kc ks) {x y : Int64} (hd : decode bytes pc = .ok (.lor, 1))  (hq : pc + 1 = q) (k : own_Go p.tables e below (T.setTop (mkF m q Ls (.long (x ||| y) :: st))) Q) :
    own_Go p.tables e below (T.setTop (mkF m pc Ls (.long y :: .long x :: st))) Q := by
  subst hq
  exact own_go (fun t => XS.lor (own_here A) C.1 rfl (hb C.2.1 hd) rfl) k
theorem own_lxor (C : own_Cx Z a0 p l e R s m args below meth c own nm bytes mx ret) (A : own_At p l e R s m args below meth c T h n0 kc ks) {x y : Int64} (hd : decode bytes pc = .ok (.lxor, 1))  (hq : pc + 1 = q) (k : own_Go p.tables e below (T.setTop (mkF m q Ls (.long (x ^^^ y) :: st))) Q) :
    own_Go p.tables e below (T.setTop (mkF m pc Ls (.long y :: .long x :: st))) Q := by
  subst hq
  exact own_go (fun t => XS.lxor (own_here A) C.1 rfl (hb C.2.1 hd) rfl) k
theorem own_lshl (C : own_Cx Z a0 p l e R s m args below meth c own nm bytes mx ret) (A : own_At p l e R s m args below meth c T h n0 kc ks) {x : Int64} {y : Int32} (hd : decode bytes pc = .ok (.lshl, 1))  (hq : pc + 1 = q) (k : own_Go p.tables e below (T.setTop (mkF m q Ls (.long (x <<< (y &&& 0x3f).toInt64) :: st))) Q) :
    own_Go p.tables e below (T.setTop (mkF m pc Ls (.int y :: .long x :: st))) Q := by
  subst hq
  exact own_go (fun t => XS.lshl (own_here A) C.1 rfl (hb C.2.1 hd) rfl) k
theorem own_lshr (C : own_Cx Z a0 p l e R s m args below meth c own nm bytes mx ret) (A : own_At p l e R s m args below meth c T h n0 kc ks) {x : Int64} {y : Int32} (hd : decode bytes pc = .ok (.lshr, 1))  (hq : pc + 1 = q) (k : own_Go p.tables e below (T.setTop (mkF m q Ls (.long (x >>> (y &&& 0x3f).toInt64) :: st))) Q) :
    own_Go p.tables e below (T.setTop (mkF m pc Ls (.int y :: .long x :: st))) Q := by
  subst hq
  exact own_go (fun t => XS.lshr (own_here A) C.1 rfl (hb C.2.1 hd) rfl) k
theorem own_lushr (C : own_Cx Z a0 p l e R s m args below meth c own nm bytes mx ret) (A : own_At p l e R s m args below meth c T h n0 kc ks) {x : Int64} {y : Int32} (hd : decode bytes pc = .ok (.lushr, 1))  (hq : pc + 1 = q) (k : own_Go p.tables e below (T.setTop (mkF m q Ls (.long ((x.toUInt64 >>> (y &&& 0x3f).toInt64.toUInt64).toInt64) :: st))) Q) :
    own_Go p.tables e below (T.setTop (mkF m pc Ls (.int y :: .long x :: st))) Q := by
  subst hq
  exact own_go (fun t => XS.lushr (own_here A) C.1 rfl (hb C.2.1 hd) rfl) k
theorem own_irem (C : own_Cx Z a0 p l e R s m args below meth c own nm bytes mx ret) (A : own_At p l e R s m args below meth c T h n0 kc ks) {x y : Int32} (hd : decode bytes pc = .ok (.irem, 1)) (hy : y ≠ 0) (hq : pc + 1 = q) (k : own_Go p.tables e below (T.setTop (mkF m q Ls (.int (x % y) :: st))) Q) :
    own_Go p.tables e below (T.setTop (mkF m pc Ls (.int y :: .int x :: st))) Q := by
  obtain ⟨_, _, _, X, _⟩ := A
  subst hq
  exact own_go (fun t => iremM (g := mkF m pc Ls (.int y :: .int x :: st)) X C.1 rfl (hb C.2.1 hd) rfl hy) k
theorem own_lrem (C : own_Cx Z a0 p l e R s m args below meth c own nm bytes mx ret) (A : own_At p l e R s m args below meth c T h n0 kc ks) {x y : Int64} (hd : decode bytes pc = .ok (.lrem, 1)) (hy : y ≠ 0) (hq : pc + 1 = q) (k : own_Go p.tables e below (T.setTop (mkF m q Ls (.long (x % y) :: st))) Q) :
    own_Go p.tables e below (T.setTop (mkF m pc Ls (.long y :: .long x :: st))) Q := by
  subst hq
  rw [← lrem_mod x y] at k
  exact own_go (fun t => XS.lrem (own_here A) C.1 rfl (hb C.2.1 hd) rfl hy) k
theorem own_idiv (C : own_Cx Z a0 p l e R s m args below meth c own nm bytes mx ret) (A : own_At p l e R s m args below meth c T h n0 kc ks) {x y : Int32} (hd : decode bytes pc = .ok (.idiv, 1)) (hy : y ≠ 0) (hq : pc + 1 = q) (k : own_Go p.tables e below (T.setTop (mkF m q Ls (.int (x / y) :: st))) Q) :
    own_Go p.tables e below (T.setTop (mkF m pc Ls (.int y :: .int x :: st))) Q := by
  subst hq
  exact own_go (fun t => XS.idiv (own_here A) C.1 rfl (hb C.2.1 hd) rfl hy) k
theorem own_ldiv (C : own_Cx Z a0 p l e R s m args below meth c own nm bytes mx ret) (A : own_At p l e R s m args below meth c T h n0 kc ks) {x y : Int64} (hd : decode bytes pc = .ok (.ldiv, 1)) (hy : y ≠ 0) (hq : pc + 1 = q) (k : own_Go p.tables e below (T.setTop (mkF m q Ls (.long (x / y) :: st))) Q) :
    own_Go p.tables e below (T.setTop (mkF m pc Ls (.long y :: .long x :: st))) Q := by
  subst hq
  exact own_go (fun t => XS.ldiv (own_here A) C.1 rfl (hb C.2.1 hd) rfl hy) k
theorem own_ineg (C : own_Cx Z a0 p l e R s m args below meth c own nm bytes mx ret) (A : own_At p l e R s m args below meth c T h n0 kc ks) {x : Int32} (hd : decode bytes pc = .ok (.ineg, 1))  (hq : pc + 1 = q) (k : own_Go p.tables e below (T.setTop (mkF m q Ls (.int (-x) :: st))) Q) :
    own_Go p.tables e below (T.setTop (mkF m pc Ls (.int x :: st))) Q := by
  subst hq
  exact own_go (fun t => XS.ineg (own_here A) C.1 rfl (hb C.2.1 hd) rfl) k
theorem own_lneg (C : own_Cx Z a0 p l e R s m args below meth c own nm bytes mx ret) (A : own_At p l e R s m args below meth c T h n0 kc ks) {x : Int64} (hd : decode bytes pc = .ok (.lneg, 1))  (hq : pc + 1 = q) (k : own_Go p.tables e below (T.setTop (mkF m q Ls (.long (-x) :: st))) Q) :
    own_Go p.tables e below (T.setTop (mkF m pc Ls (.long x :: st))) Q := by
  subst hq
  exact own_go (fun t => XS.lneg (own_here A) C.1 rfl (hb C.2.1 hd) rfl) k
theorem own_i2b (C : own_Cx Z a0 p l e R s m args below meth c own nm bytes mx ret) (A : own_At p l e R s m args below meth c T h n0 kc ks) {x : Int32} (hd : decode bytes pc = .ok (.i2b, 1))  (hq : pc + 1 = q) (k : own_Go p.tables e below (T.setTop (mkF m q Ls (.int (x.toInt8.toInt32) :: st))) Q) :
    own_Go p.tables e below (T.setTop (mkF m pc Ls (.int x :: st))) Q := by
  subst hq
  exact own_go (fun t => XS.i2b (own_here A) C.1 rfl (hb C.2.1 hd) rfl) k
theorem own_i2c (C : own_Cx Z a0 p l e R s m args below meth c own nm bytes mx ret) (A : own_At p l e R s m args below meth c T h n0 kc ks) {x : Int32} (hd : decode bytes pc = .ok (.i2c, 1))  (hq : pc + 1 = q) (k : own_Go p.tables e below (T.setTop (mkF m q Ls (.int (x.toUInt32.toUInt16.toUInt32.toInt32) :: st))) Q) :
    own_Go p.tables e below (T.setTop (mkF m pc Ls (.int x :: st))) Q := by
  subst hq
  exact own_go (fun t => XS.i2c (own_here A) C.1 rfl (hb C.2.1 hd) rfl) k
theorem own_i2s (C : own_Cx Z a0 p l e R s m args below meth c own nm bytes mx ret) (A : own_At p l e R s m args below meth c T h n0 kc ks) {x : Int32} (hd : decode bytes pc = .ok (.i2s, 1))  (hq : pc + 1 = q) (k : own_Go p.tables e below (T.setTop (mkF m q Ls (.int (x.toInt16.toInt32) :: st))) Q) :
    own_Go p.tables e below (T.setTop (mkF m pc Ls (.int x :: st))) Q := by
  subst hq
  exact own_go (fun t => XS.i2s (own_here A) C.1 rfl (hb C.2.1 hd) rfl) k
theorem own_i2l (C : own_Cx Z a0 p l e R s m args below meth c own nm bytes mx ret) (A : own_At p l e R s m args below meth c T h n0 kc ks) {x : Int32} (hd : decode bytes pc = .ok (.i2l, 1))  (hq : pc + 1 = q) (k : own_Go p.tables e below (T.setTop (mkF m q Ls (.long x.toInt64 :: st))) Q) :
    own_Go p.tables e below (T.setTop (mkF m pc Ls (.int x :: st))) Q := by
  subst hq
  exact own_go (fun t => XS.i2l (own_here A) C.1 rfl (hb C.2.1 hd) rfl) k
theorem own_l2i (C : own_Cx Z a0 p l e R s m args below meth c own nm bytes mx ret) (A : own_At p l e R s m args below meth c T h n0 kc ks) {x : Int64} (hd : decode bytes pc = .ok (.l2i, 1))  (hq : pc + 1 = q) (k : own_Go p.tables e below (T.setTop (mkF m q Ls (.int x.toInt32 :: st))) Q) :
    own_Go p.tables e below (T.setTop (mkF m pc Ls (.long x :: st))) Q := by
  subst hq
  exact own_go (fun t => XS.l2i (own_here A) C.1 rfl (hb C.2.1 hd) rfl) k
theorem own_lcmp (C : own_Cx Z a0 p l e R s m args below meth c own nm bytes mx ret) (A : own_At p l e R s m args below meth c T h n0 kc ks) {x y : Int64} (hd : decode bytes pc = .ok (.lcmp, 1))  (hq : pc + 1 = q) (k : own_Go p.tables e below (T.setTop (mkF m q Ls (.int (Jvm.Free.XT.cmpL x y) :: st))) Q) :
    own_Go p.tables e below (T.setTop (mkF m pc Ls (.long y :: .long x :: st))) Q := by
  subst hq
  exact own_go (fun t => Jvm.Free.XT.lcmp (own_here A) C.1 rfl (hb C.2.1 hd) rfl) k
theorem own_iinc (C : own_Cx Z a0 p l e R s m args below meth c own nm bytes mx ret) (A : own_At p l e R s m args below meth c T h n0 kc ks) {k' : Nat} {i : Int} {x : Int32} {l' : Array Slot} (hd : decode bytes pc = .ok (.iinc k' i, 3)) (hl : Ls[k']? = some (.val (.int x))) (hl' : storeLocals Ls k' (.int (x + Int32.ofInt i)) = some l') (hq : pc + 3 = q) (k : own_Go p.tables e below (T.setTop (mkF m q l' st)) Q) :
    own_Go p.tables e below (T.setTop (mkF m pc Ls st)) Q := by
  subst hq
  exact own_go (fun t => XS.iinc (own_here A) C.1 rfl (hb C.2.1 hd) hl hl') k
theorem own_istoreX (C : own_Cx Z a0 p l e R s m args below meth c own nm bytes mx ret) (A : own_At p l e R s m args below meth c T h n0 kc ks) {k' : Nat} {x : Int32} {o : Slot} {l' : Array Slot} (hd : decode bytes pc = .ok (.istore k', 2)) (hold : Ls[k']? = some o) (ho : One o) (hl : Ls.setIfInBounds k' (.val (.int x)) = l') (hq : pc + 2 = q) (k : own_Go p.tables e below (T.setTop (mkF m q l' st)) Q) :
    own_Go p.tables e below (T.setTop (mkF m pc Ls (.int x :: st))) Q := by
  subst hq hl
  exact own_go (fun t => XS.istoreS (own_here A) C.1 rfl (hb C.2.1 hd) rfl hold ho) k
theorem own_pop (C : own_Cx Z a0 p l e R s m args below meth c own nm bytes mx ret) (A : own_At p l e R s m args below meth c T h n0 kc ks) {x : Value} (hd : decode bytes pc = .ok (.pop, 1)) (hc : x.category = 1) (hq : pc + 1 = q) (k : own_Go p.tables e below (T.setTop (mkF m q Ls st)) Q) :
    own_Go p.tables e below (T.setTop (mkF m pc Ls (x :: st))) Q := by
  subst hq
  exact own_go (fun t => XS.pop (own_here A) C.1 rfl (hb C.2.1 hd) rfl hc) k
theorem own_dup (C : own_Cx Z a0 p l e R s m args below meth c own nm bytes mx ret) (A : own_At p l e R s m args below meth c T h n0 kc ks) {x : Value} (hd : decode bytes pc = .ok (.dup, 1)) (hc : x.category = 1) (hq : pc + 1 = q) (k : own_Go p.tables e below (T.setTop (mkF m q Ls (x :: x :: st))) Q) :
    own_Go p.tables e below (T.setTop (mkF m pc Ls (x :: st))) Q := by
  subst hq
  exact own_go (fun t => XS.dup (own_here A) C.1 rfl (hb C.2.1 hd) rfl hc) k
theorem own_dupX1 (C : own_Cx Z a0 p l e R s m args below meth c own nm bytes mx ret) (A : own_At p l e R s m args below meth c T h n0 kc ks) {x y : Value} (hd : decode bytes pc = .ok (.dup_x1, 1)) (hc : x.category = 1) (hc' : y.category = 1) (hq : pc + 1 = q) (k : own_Go p.tables e below (T.setTop (mkF m q Ls (x :: y :: x :: st))) Q) :
    own_Go p.tables e below (T.setTop (mkF m pc Ls (x :: y :: st))) Q := by
  subst hq
  exact own_go (fun t => XS.dupX1 (own_here A) C.1 rfl (hb C.2.1 hd) rfl hc hc') k
theorem own_dup2L (C : own_Cx Z a0 p l e R s m args below meth c own nm bytes mx ret) (A : own_At p l e R s m args below meth c T h n0 kc ks) {x : Int64} (hd : decode bytes pc = .ok (.dup2, 1))  (hq : pc + 1 = q) (k : own_Go p.tables e below (T.setTop (mkF m q Ls (.long x :: .long x :: st))) Q) :
    own_Go p.tables e below (T.setTop (mkF m pc Ls (.long x :: st))) Q := by
  subst hq
  exact own_go (fun t => Jvm.Free.XT.dup2L (own_here A) C.1 rfl (hb C.2.1 hd) rfl) k
theorem own_dup2 (C : own_Cx Z a0 p l e R s m args below meth c own nm bytes mx ret) (A : own_At p l e R s m args below meth c T h n0 kc ks) {x y : Value} (hd : decode bytes pc = .ok (.dup2, 1)) (hc : x.category = 1) (hc' : y.category = 1) (hq : pc + 1 = q) (k : own_Go p.tables e below (T.setTop (mkF m q Ls (x :: y :: x :: y :: st))) Q) :
    own_Go p.tables e below (T.setTop (mkF m pc Ls (x :: y :: st))) Q := by
  subst hq
  exact own_go (fun t => Jvm.Free.XT.dup2 (own_here A) C.1 rfl (hb C.2.1 hd) rfl hc hc') k
theorem own_goto (C : own_Cx Z a0 p l e R s m args below meth c own nm bytes mx ret) (A : own_At p l e R s m args below meth c T h n0 kc ks) {i : Int} (hd : decode bytes pc = .ok (.goto i, 3)) (ho : 0 ≤ (pc : Int) + i) (hq : ((pc : Int) + i).toNat = q) (k : own_Go p.tables e below (T.setTop (mkF m q Ls st)) Q) :
    own_Go p.tables e below (T.setTop (mkF m pc Ls st)) Q := own_go (fun t => XS.goto (own_here A) C.1 rfl rfl (hb C.2.1 hd) ho hq) k
theorem own_icmpY (C : own_Cx Z a0 p l e R s m args below meth c own nm bytes mx ret) (A : own_At p l e R s m args below meth c T h n0 kc ks) {cd : ClassFile.Cond} {i : Int} {x y : Int32} (hd : decode bytes pc = .ok (.if_icmp cd i, 3)) (hc : if_icmp.holds cd x y = true) (ho : 0 ≤ (pc : Int) + i) (hq : ((pc : Int) + i).toNat = q) (k : own_Go p.tables e below (T.setTop (mkF m q Ls st)) Q) :
    own_Go p.tables e below (T.setTop (mkF m pc Ls (.int y :: .int x :: st))) Q := own_go (fun t => XS.icmpYes (own_here A) C.1 rfl rfl (hb C.2.1 hd) rfl hc ho hq) k
theorem own_icmpN (C : own_Cx Z a0 p l e R s m args below meth c own nm bytes mx ret) (A : own_At p l e R s m args below meth c T h n0 kc ks) {cd : ClassFile.Cond} {i : Int} {x y : Int32} (hd : decode bytes pc = .ok (.if_icmp cd i, 3)) (hc : if_icmp.holds cd x y = false) (hq : pc + 3 = q) (k : own_Go p.tables e below (T.setTop (mkF m q Ls st)) Q) :
    own_Go p.tables e below (T.setTop (mkF m pc Ls (.int y :: .int x :: st))) Q := by
  subst hq
  exact own_go (fun t => XS.icmpNo (own_here A) C.1 rfl (hb C.2.1 hd) rfl hc) k
theorem own_ifY (C : own_Cx Z a0 p l e R s m args below meth c own nm bytes mx ret) (A : own_At p l e R s m args below meth c T h n0 kc ks) {cd : ClassFile.Cond} {i : Int} {x : Int32} (hd : decode bytes pc = .ok (.ifCond cd i, 3)) (hc : ifCond.holds cd x = true) (ho : 0 ≤ (pc : Int) + i) (hq : ((pc : Int) + i).toNat = q) (k : own_Go p.tables e below (T.setTop (mkF m q Ls st)) Q) :
    own_Go p.tables e below (T.setTop (mkF m pc Ls (.int x :: st))) Q := own_go (fun t => XS.ifYes (own_here A) C.1 rfl rfl (hb C.2.1 hd) rfl hc ho hq) k
theorem own_ifN (C : own_Cx Z a0 p l e R s m args below meth c own nm bytes mx ret) (A : own_At p l e R s m args below meth c T h n0 kc ks) {cd : ClassFile.Cond} {i : Int} {x : Int32} (hd : decode bytes pc = .ok (.ifCond cd i, 3)) (hc : ifCond.holds cd x = false) (hq : pc + 3 = q) (k : own_Go p.tables e below (T.setTop (mkF m q Ls st)) Q) :
    own_Go p.tables e below (T.setTop (mkF m pc Ls (.int x :: st))) Q := by
  subst hq
  exact own_go (fun t => XS.ifNo (own_here A) C.1 rfl (hb C.2.1 hd) rfl hc) k
theorem own_ldcI (C : own_Cx Z a0 p l e R s m args below meth c own nm bytes mx ret) (A : own_At p l e R s m args below meth c T h n0 kc ks) {i : Nat} {v : Int32} (w : (Jvm.Cond.constant own i v).before a0 Z = true) (hd : decode bytes pc = .ok (.ldc i, 2)) (hq : pc + 2 = q) (k : own_Go p.tables e below (T.setTop (mkF m q Ls (.int v :: st))) Q) :
    own_Go p.tables e below (T.setTop (mkF m pc Ls st)) Q := by
  obtain ⟨_, _, _, X, _⟩ := A
  subst hq
  exact own_go (X.ldcInt C.1 C.2.2.2.1 (mvT C.2.2.2.2.1 w) (g := mkF m pc Ls st) rfl (hb C.2.1 hd)) k
theorem own_ldcJ (C : own_Cx Z a0 p l e R s m args below meth c own nm bytes mx ret) (A : own_At p l e R s m args below meth c T h n0 kc ks) {i : Nat} {v : Int64} (w : (Jvm.Cond.constantLong own i v).before a0 Z = true) (hd : decode bytes pc = .ok (.ldc2_w i, 3)) (hq : pc + 3 = q) (k : own_Go p.tables e below (T.setTop (mkF m q Ls (.long v :: st))) Q) :
    own_Go p.tables e below (T.setTop (mkF m pc Ls st)) Q := by
  obtain ⟨_, _, _, X, _⟩ := A
  subst hq
  exact own_go (X.ldc2Long C.1 C.2.2.2.1 (mvT C.2.2.2.2.1 w) (g := mkF m pc Ls st) rfl (hb C.2.1 hd)) k
theorem own_retI {z : Int32} (C : own_Cx Z a0 p l e R s m args below meth c own nm bytes mx (some .int)) (A : own_At p l e R s m args below meth c T h n0 kc ks) {P : Option Value → Heap → Prop}  (hd : decode bytes pc = .ok (.ireturn, 1)) (hP : P (some (.int z)) h) :
    own_Go p.tables e below (T.setTop (mkF m pc Ls [.int z])) (own_QR s n0 kc ks P) := by
  obtain ⟨locs, cells, slots, X, eT, N, hc, hs, hn⟩ := A
  have hr' := C.2.2.2.2.2.2.1
  obtain ⟨fs, hr, hrun, hended, hW, hsame⟩ := X.leave (v := (some (.int z))) (fun hh => by first | rfl | (rw [hr'] at hh; cases hh)) C.2.2.2.2.2.2.2.1
  have eF : (T.setFrames fs).heap = h := eT
  exact ⟨_, _, X.ireturnOut C.1 hr' rfl (Or.inl rfl) (hb C.2.1 hd) hr, hrun, hended, _, locs, rfl, ⟨by rw [eF]; exact hP, N⟩, ⟨_, rfl⟩, hW, hsame.mono hc hs⟩
theorem own_retJ {z : Int64} (C : own_Cx Z a0 p l e R s m args below meth c own nm bytes mx (some .long)) (A : own_At p l e R s m args below meth c T h n0 kc ks) {P : Option Value → Heap → Prop}  (hd : decode bytes pc = .ok (.lreturn, 1)) (hP : P (some (.long z)) h) :
    own_Go p.tables e below (T.setTop (mkF m pc Ls [.long z])) (own_QR s n0 kc ks P) := by
  obtain ⟨locs, cells, slots, X, eT, N, hc, hs, hn⟩ := A
  have hr' := C.2.2.2.2.2.2.1
  obtain ⟨fs, hr, hrun, hended, hW, hsame⟩ := X.leave (v := (some (.long z))) (fun hh => by first | rfl | (rw [hr'] at hh; cases hh)) C.2.2.2.2.2.2.2.1
  have eF : (T.setFrames fs).heap = h := eT
  exact ⟨_, _, X.lreturnOut C.1 hr' (hb C.2.1 hd) hr, hrun, hended, _, locs, rfl, ⟨by rw [eF]; exact hP, N⟩, ⟨_, rfl⟩, hW, hsame.mono hc hs⟩
theorem own_retA {a : Addr} {t : FieldType} (C : own_Cx Z a0 p l e R s m args below meth c own nm bytes mx (some t)) (A : own_At p l e R s m args below meth c T h n0 kc ks) {P : Option Value → Heap → Prop} (hta : t.isReference = true) (hna : narrow t (.ref a) = .ref a) (hd : decode bytes pc = .ok (.areturn, 1)) (hP : P (some (.ref a)) h) :
    own_Go p.tables e below (T.setTop (mkF m pc Ls (.ref a :: st))) (own_QR s n0 kc ks P) := by
  obtain ⟨locs, cells, slots, X, eT, N, hc, hs, hn⟩ := A
  have hr' := C.2.2.2.2.2.2.1
  obtain ⟨fs, hr, hrun, hended, hW, hsame⟩ := X.leave (v := (some (.ref a))) (fun hh => by first | rfl | (rw [hr'] at hh; cases hh)) C.2.2.2.2.2.2.2.1
  have eF : (T.setFrames fs).heap = h := eT
  exact ⟨_, _, retOut X C.1 hr' hna (Or.inr (Or.inr (Or.inr (Or.inr ⟨rfl, hta, rfl⟩)))) (hb C.2.1 hd) hr, hrun, hended, _, locs, rfl, ⟨by rw [eF]; exact hP, N⟩, ⟨_, rfl⟩, hW, hsame.mono hc hs⟩
theorem own_ret0  (C : own_Cx Z a0 p l e R s m args below meth c own nm bytes mx none) (A : own_At p l e R s m args below meth c T h n0 kc ks) {P : Option Value → Heap → Prop}  (hd : decode bytes pc = .ok (.return_, 1)) (hP : P none h) :
    own_Go p.tables e below (T.setTop (mkF m pc Ls [])) (own_QR s n0 kc ks P) := by
  obtain ⟨locs, cells, slots, X, eT, N, hc, hs, hn⟩ := A
  have hr' := C.2.2.2.2.2.2.1
  obtain ⟨fs, hr, hrun, hended, hW, hsame⟩ := X.leave (v := none) (fun hh => by first | rfl | (rw [hr'] at hh; cases hh)) C.2.2.2.2.2.2.2.1
  have eF : (T.setFrames fs).heap = h := eT
  exact ⟨_, _, X.returnOut C.1 hr' (hb C.2.1 hd) hr, hrun, hended, _, locs, rfl, ⟨by rw [eF]; exact hP, N⟩, ⟨_, rfl⟩, hW, hsame.mono hc hs⟩
theorem own_retN {z : Int32} {t : FieldType} (C : own_Cx Z a0 p l e R s m args below meth c own nm bytes mx (some t)) (A : own_At p l e R s m args below meth c T h n0 kc ks) {P : Option Value → Heap → Prop} (ht : t = .boolean ∨ t = .byte ∨ t = .char ∨ t = .short) (hd : decode bytes pc = .ok (.ireturn, 1)) (hP : P (some (.int (nar t z))) h) :
    own_Go p.tables e below (T.setTop (mkF m pc Ls (.int z :: st))) (own_QR s n0 kc ks P) := by
  obtain ⟨locs, cells, slots, X, eT, N, hc, hs, hn⟩ := A
  have hr' := C.2.2.2.2.2.2.1
  obtain ⟨fs, hr, hrun, hended, hW, hsame⟩ := X.leave (v := (some (.int (nar t z)))) (fun hh => by first | rfl | (rw [hr'] at hh; cases hh)) C.2.2.2.2.2.2.2.1
  have eF : (T.setFrames fs).heap = h := eT
  exact ⟨_, _, retN X C.1 hr' ht (hb C.2.1 hd) hr, hrun, hended, _, locs, rfl, ⟨by rw [eF]; exact hP, N⟩, ⟨_, rfl⟩, hW, hsame.mono hc hs⟩
theorem own_met {y : MethodName} {ws : List Jvm.Cond} {as' : Array Value} {P : Option Value → Heap → Prop} (hpl : plainFor y = true) (hw : ∀ d ∈ tables_1, d.before a0 Z = true) (hn : n0 ≤ h.size) (hef : ∀ m, entryFrame m as' mx = mkF m 0 Ls [])
    (body : ∀ p e s m below meth c T, own_Cx Z a0 p l e R s m as' below meth c y.cls y.name bytes mx ret → own_At p l e R s m as' below meth c T h n0 0 0 → own_Go p.tables e below (T.setTop (mkF m 0 Ls [])) (own_QR s n0 kc ks P)) :
    MetFree l y (head1 (Jvm.Cond.code y bytes mx ret :: ws) R) (fun a U => a = as' ∧ Z.Warmed39 U.vm ∧ U.heap = h) (fun _ _ _ _ _ => True) (fun _ U o U' => own_QR U n0 kc ks P o U') := by
  refine MetFree.of_bodySF hpl hisR ?_
  intro p e s m args below meth c s₁ Bd hml0 hP hK
  obtain ⟨rfl, hZ, hh⟩ := hP
  have C : own_Cx Z a0 p l e R s m args below meth c y.cls y.name bytes mx ret := ⟨Bd.exec, Bd.bytes, hml0, findClass_of_methodNamed Bd.named, hZ, (name_of_methodNamed Bd.named Bd.method).1, Bd.returns, Bd.notSynchronized, hw⟩
  have A : own_At p l e R s m args below meth c s₁ h n0 0 0 := ⟨[], 0, 0, Stand.of_body Bd, by rw [← hh, Bd.state]; rfl, Fr.nil n0, Nat.le_refl _, Nat.le_refl _, hn⟩
  have k := body p e s m below meth c s₁ C A
  rw [← hef m] at k
  exact k
theorem own_backQ {y : MethodName} {by' : ByteArray} {mx' : Nat} {rt : Option FieldType} {rm : Room} {as' : Array Value} {P : Option Value → Heap → Prop} (hM : MetFree l y (head1 [Jvm.Cond.code y by' mx' rt] rm) (fun a U => a = as' ∧ Z.Warmed39 U.vm ∧ U.heap = h) (fun _ _ _ _ _ => True) (fun _ U o U' => own_QR U n0 rm.cells rm.slots P o U')) :
    MetFree l y (head1 [Jvm.Cond.code y by' mx' rt] rm) (fun a U => a = as' ∧ Z.Warmed39 U.vm ∧ U.heap = h) (fun _ _ _ _ _ => True) (fun _ U o U' => ∃ v L, o = .returned v ∧ (P v U'.heap ∧ Fr n0 L ∧ h.size ≤ U'.heap.size) ∧ FrameEnd U o U' L rm.cells rm.slots) := by
  intro p e ha hc hk s m args below hf happ hP hK
  obtain ⟨n, o, h1, h2, h3, v, L, e1, ⟨hp, hl⟩, hF⟩ := hM p e ha hc hk s m args below hf happ hP hK
  refine ⟨n, o, h1, h2, h3, v, L, e1, ⟨hp, hl, ?_⟩, hF⟩
  have := hF.2.2.2.1
  rw [← hP.2.2]
  exact this
theorem own_callS (C : own_Cx Z a0 p l e R s m args below meth c own nm bytes mx ret) (A : own_At p l e R s m args below meth c T h n0 kc ks) {i : Nat} {y : MethodName} {by' : ByteArray} {mx' : Nat} {rt : Option FieldType} {rm : Room} (W : Nat) {as' : Array Value} (argsL rest : List Value) {P : Option Value → Heap → Prop} (w1 : (Jvm.Cond.methodLink own i y).before a0 Z = true) (w2 : (Jvm.Cond.static y).before a0 Z = true) (w3 : (Jvm.Cond.initialized y.cls).before a0 Z = true) (w4 : (Jvm.Cond.code y by' mx' rt).before a0 Z = true) (hy : y.cls ≠ "java/lang/invoke/MethodHandle" ∧ y.cls ≠ "java/lang/invoke/VarHandle")
    (hM : MetFree l y (head1 [Jvm.Cond.code y by' mx' rt] rm) (fun a U => a = as' ∧ Z.Warmed39 U.vm ∧ U.heap = h) (fun _ _ _ _ _ => True) (fun _ U o U' => own_QR U n0 rm.cells rm.slots P o U'))
    (hf : rm.frames + 1 ≤ R.frames) (hl : W + (mx' + 11) + rm.locals ≤ R.locals) (hc : kc + rm.cells ≤ R.cells) (hs : ks + rm.slots ≤ R.slots) {ps : List FieldType} (hpd : parseMethodDescriptor y.desc = some ⟨ps, rt⟩) (hlen : argsL.length = ps.length) (has : argsL.toArray = as') (hst : st = argsL.reverse ++ rest) (hW : (rest.map fun v => v.category).sum ≤ W) (hsz : Ls.size = mx) (hd : decode bytes pc = .ok (.invokestatic i, 3)) (hq : pc + 3 = q)
    (k : ∀ v T' h', P v h' → own_At p l e R s m args below meth c T' h' n0 (kc + rm.cells) (ks + rm.slots) → own_Go p.tables e below (T'.setTop (mkF m q Ls (v.toList ++ rest))) Q) :
    own_Go p.tables e below (T.setTop (mkF m pc Ls st)) Q := by
  obtain ⟨locs, cells, slots, X, eT, N, hc', hs', hn⟩ := A
  obtain ⟨v, _, ⟨T', L', k', n'⟩, -, X', ⟨Lc, hQ, hB1, hB2, hB3⟩, st'⟩ := Jvm.LawKit.callS X C.1 (y := y) C.2.2.2.1 (mvT C.2.2.2.2.1 w1) (mvT C.2.2.2.2.1 w2) (mvT C.2.2.2.2.1 w3) (mvT C.2.2.2.2.1 w4) hy (backOf (W := W) (Q := fun v h' L => P v h' ∧ Fr n0 L ∧ h.size ≤ h'.size) (own_backQ hM) C.2.2.2.2.1 w4 w3 hf hl) (g := mkF m pc Ls st) rfl (by rw [C.2.2.1]; exact hsz) (argsL := argsL) (rest := rest) (lenOf hpd hlen) hst (by show 2 * 0 + _ ≤ _; omega) (hb C.2.1 hd) (fun _ _ => ⟨has, eT, Nat.le_trans (Nat.add_le_add_right hc' _) hc, Nat.le_trans (Nat.add_le_add_right hs' _) hs⟩)
  dsimp only [Pt.U, Pt.locs, Pt.cells, Pt.slots] at X' hB1 hB2 hB3 st' hQ
  subst hq hB1 hB2 hB3
  exact own_go st' (k v T' T'.heap hQ.1 ⟨_, _, _, X', rfl, N.app hQ.2.1, by omega, by omega, Nat.le_trans hn hQ.2.2⟩)
theorem own_callC (C : own_Cx Z a0 p l e R s m args below meth c own nm bytes mx ret) (A : own_At p l e R s m args below meth c T h n0 kc ks) {i : Nat} {y : MethodName} {by' : ByteArray} {mx' : Nat} {rm : Room} (W : Nat) {as' : Array Value} (argsL rest : List Value) {P : Option Value → Heap → Prop} {a : Addr} (hy1 : y.name = "<init>") (w1 : (Jvm.Cond.methodLink own i y).before a0 Z = true) (w2 : (Jvm.Cond.instanceMethod y).before a0 Z = true) (w3 : (Jvm.Cond.initialized y.cls).before a0 Z = true) (w4 : (Jvm.Cond.code y by' mx' none).before a0 Z = true) (hy : y.cls ≠ "java/lang/invoke/MethodHandle" ∧ y.cls ≠ "java/lang/invoke/VarHandle")
    (hM : MetFree l y (head1 [Jvm.Cond.code y by' mx' none] rm) (fun a U => a = as' ∧ Z.Warmed39 U.vm ∧ U.heap = h) (fun _ _ _ _ _ => True) (fun _ U o U' => own_QR U n0 rm.cells rm.slots P o U'))
    (hf : rm.frames + 1 ≤ R.frames) (hl : W + (mx' + 11) + rm.locals ≤ R.locals) (hc : kc + rm.cells ≤ R.cells) (hs : ks + rm.slots ≤ R.slots) {ps : List FieldType} (hpd : parseMethodDescriptor y.desc = some ⟨ps, none⟩) (hlen : argsL.length = ps.length) (has : (Value.ref a :: argsL).toArray = as') (hst : st = argsL.reverse ++ .ref a :: rest) (hW : (rest.map fun v => v.category).sum ≤ W) (hsz : Ls.size = mx) (hd : decode bytes pc = .ok (.invokespecial i, 3)) (hq : pc + 3 = q)
    (k : ∀ v T' h', P v h' → own_At p l e R s m args below meth c T' h' n0 (kc + rm.cells) (ks + rm.slots) → own_Go p.tables e below (T'.setTop (mkF m q Ls (v.toList ++ rest))) Q) :
    own_Go p.tables e below (T.setTop (mkF m pc Ls st)) Q := by
  obtain ⟨locs, cells, slots, X, eT, N, hc', hs', hn⟩ := A
  obtain ⟨v, _, ⟨T', L', k', n'⟩, -, X', ⟨Lc, hQ, hB1, hB2, hB3⟩, st'⟩ := X.specialBack C.1 (y := y) hy1 C.2.2.2.1 (mvT C.2.2.2.2.1 w1) (mvT C.2.2.2.2.1 w2) (mvT C.2.2.2.2.1 w4) hy (backOf (W := W) (Q := fun v h' L => P v h' ∧ Fr n0 L ∧ h.size ≤ h'.size) (own_backQ hM) C.2.2.2.2.1 w4 w3 hf hl) (g := mkF m pc Ls st) rfl (by rw [C.2.2.1]; exact hsz) (Steps.refl _) (a := a) (argsL := argsL) (rest := rest) (lenOf hpd hlen) hst (by show 2 * 0 + _ ≤ _; omega) (hb C.2.1 hd) (fun _ _ => ⟨has, eT, Nat.le_trans (Nat.add_le_add_right hc' _) hc, Nat.le_trans (Nat.add_le_add_right hs' _) hs⟩)
  dsimp only [Pt.U, Pt.locs, Pt.cells, Pt.slots] at X' hB1 hB2 hB3 st' hQ
  subst hq hB1 hB2 hB3
  exact own_go (fun t ht => st'.trans ht) (k v T' T'.heap hQ.1 ⟨_, _, _, X', rfl, N.app hQ.2.1, by omega, by omega, Nat.le_trans hn hQ.2.2⟩)
theorem own_callV (C : own_Cx Z a0 p l e R s m args below meth c own nm bytes mx ret) (A : own_At p l e R s m args below meth c T h n0 kc ks) {i : Nat} {y : MethodName} {by' : ByteArray} {mx' : Nat} {rt : Option FieldType} {rm : Room} (W : Nat) {as' : Array Value} (argsL rest : List Value) {P : Option Value → Heap → Prop} {a : Addr} {B : String} (w1 : (Jvm.Cond.methodLink own i y).before a0 Z = true) (w2 : (Jvm.Cond.declares y).before a0 Z = true) (w5 : (Jvm.Cond.selects B y y).before a0 Z = true) (w6 : (Jvm.Cond.instanceMethod y).before a0 Z = true) (w3 : (Jvm.Cond.initialized y.cls).before a0 Z = true) (w4 : (Jvm.Cond.code y by' mx' rt).before a0 Z = true) (hy : y.cls ≠ "java/lang/invoke/MethodHandle" ∧ y.cls ≠ "java/lang/invoke/VarHandle") (hBy : y.cls = B) (E : Exa Z h a B)
    (hM : MetFree l y (head1 [Jvm.Cond.code y by' mx' rt] rm) (fun a U => a = as' ∧ Z.Warmed39 U.vm ∧ U.heap = h) (fun _ _ _ _ _ => True) (fun _ U o U' => own_QR U n0 rm.cells rm.slots P o U'))
    (hf : rm.frames + 1 ≤ R.frames) (hl : W + (mx' + 11) + rm.locals ≤ R.locals) (hc : kc + rm.cells ≤ R.cells) (hs : ks + rm.slots ≤ R.slots) {ps : List FieldType} (hpd : parseMethodDescriptor y.desc = some ⟨ps, rt⟩) (hlen : argsL.length = ps.length) (has : (Value.ref a :: argsL).toArray = as') (hst : st = argsL.reverse ++ .ref a :: rest) (hW : (rest.map fun v => v.category).sum ≤ W) (hsz : Ls.size = mx) (hd : decode bytes pc = .ok (.invokevirtual i, 3)) (hq : pc + 3 = q)
    (k : ∀ v T' h', P v h' → own_At p l e R s m args below meth c T' h' n0 (kc + rm.cells) (ks + rm.slots) → own_Go p.tables e below (T'.setTop (mkF m q Ls (v.toList ++ rest))) Q) :
    own_Go p.tables e below (T.setTop (mkF m pc Ls st)) Q := by
  obtain ⟨locs, cells, slots, X, eT, N, hc', hs', hn⟩ := A
  subst hBy
  obtain ⟨cB, kB, qa, qb, qc⟩ := isOf (T := T) C.2.2.2.2.1 eT E
  obtain ⟨v, _, ⟨T', L', k', n'⟩, -, X', ⟨Lc, hQ, hB1, hB2, hB3⟩, st'⟩ := X.virtualBack C.1 (y := y) (z := y) C.2.2.2.1 (mvT C.2.2.2.2.1 w1) (mvT C.2.2.2.2.1 w2) (notFace_of_selects (args := #[]) (mvT C.2.2.2.2.1 w5)) (mvT C.2.2.2.2.1 w5) (mvT C.2.2.2.2.1 w6) hy (backOf (W := W) (Q := fun v h' L => P v h' ∧ Fr n0 L ∧ h.size ≤ h'.size) (own_backQ hM) C.2.2.2.2.1 w4 w3 hf hl) qa qc (g := mkF m pc Ls st) rfl (by rw [C.2.2.1]; exact hsz) (Steps.refl _) (argsL := argsL) (rest := rest) (lenOf hpd hlen) hst (by show 2 * 0 + _ ≤ _; omega) (hb C.2.1 hd) (fun _ _ => ⟨has, eT, Nat.le_trans (Nat.add_le_add_right hc' _) hc, Nat.le_trans (Nat.add_le_add_right hs' _) hs⟩)
  dsimp only [Pt.U, Pt.locs, Pt.cells, Pt.slots] at X' hB1 hB2 hB3 st' hQ
  subst hq hB1 hB2 hB3
  exact own_go (fun t ht => st'.trans ht) (k v T' T'.heap hQ.1 ⟨_, _, _, X', rfl, N.app hQ.2.1, by omega, by omega, Nat.le_trans hn hQ.2.2⟩)
theorem own_callP (C : own_Cx Z a0 p l e R s m args below meth c own nm bytes mx ret) (A : own_At p l e R s m args below meth c T h n0 kc ks) {i : Nat} {y : MethodName} {by' : ByteArray} {mx' : Nat} {rt : Option FieldType} {rm : Room} (W : Nat) {as' : Array Value} (argsL rest : List Value) {P : Option Value → Heap → Prop} {a : Addr} {B : String} {kk : Nat} (w1 : (Jvm.Cond.methodLink own i y).before a0 Z = true) (w6 : (Jvm.Cond.instanceMethod y).before a0 Z = true) (wp : (Jvm.Cond.privateMethod y).before a0 Z = true) (wi : (Jvm.Cond.instantiable y.cls kk).before a0 Z = true) (w3 : (Jvm.Cond.initialized y.cls).before a0 Z = true) (w4 : (Jvm.Cond.code y by' mx' rt).before a0 Z = true) (hy : y.cls ≠ "java/lang/invoke/MethodHandle" ∧ y.cls ≠ "java/lang/invoke/VarHandle") (E : Exa Z h a B)
    (hM : MetFree l y (head1 [Jvm.Cond.code y by' mx' rt] rm) (fun a U => a = as' ∧ Z.Warmed39 U.vm ∧ U.heap = h) (fun _ _ _ _ _ => True) (fun _ U o U' => own_QR U n0 rm.cells rm.slots P o U'))
    (hf : rm.frames + 1 ≤ R.frames) (hl : W + (mx' + 11) + rm.locals ≤ R.locals) (hc : kc + rm.cells ≤ R.cells) (hs : ks + rm.slots ≤ R.slots) {ps : List FieldType} (hpd : parseMethodDescriptor y.desc = some ⟨ps, rt⟩) (hlen : argsL.length = ps.length) (has : (Value.ref a :: argsL).toArray = as') (hst : st = argsL.reverse ++ .ref a :: rest) (hW : (rest.map fun v => v.category).sum ≤ W) (hsz : Ls.size = mx) (hd : decode bytes pc = .ok (.invokevirtual i, 3)) (hq : pc + 3 = q)
    (k : ∀ v T' h', P v h' → own_At p l e R s m args below meth c T' h' n0 (kc + rm.cells) (ks + rm.slots) → own_Go p.tables e below (T'.setTop (mkF m q Ls (v.toList ++ rest))) Q) :
    own_Go p.tables e below (T.setTop (mkF m pc Ls st)) Q := by
  obtain ⟨locs, cells, slots, X, eT, N, hc', hs', hn⟩ := A
  obtain ⟨cl, hcell, hobj⟩ := Exa.cell E
  have hpr : s.PrivateAt y := Cond.privateMethod_at (mvP C.2.2.2.2.1 wp (args := #[]))
  have wi' : (Jvm.Cond.instantiable y.cls kk).before args s = true := mvT C.2.2.2.2.1 wi
  have w6' : (Jvm.Cond.instanceMethod y).before args s = true := mvT C.2.2.2.2.1 w6
  obtain ⟨cc, kc', q1, q2, -, q4, -⟩ := Cond.instantiable_spec wi'
  have hsel : (Jvm.Cond.selects y.cls y y).before args s = true := Jvm.Stand.selects_self_of_private q1 q2 (Bool.or_eq_false_iff.mp q4).1 hpr w6' hy
  obtain ⟨v, _, ⟨T', L', k', n'⟩, -, X', ⟨Lc, hQ, hB1, hB2, hB3⟩, st'⟩ := X.privateBack C.1 (y := y) C.2.2.2.1 (mvT C.2.2.2.2.1 w1) w6' hsel hpr (mvT C.2.2.2.2.1 w4) hy (backOf (W := W) (Q := fun v h' L => P v h' ∧ Fr n0 L ∧ h.size ≤ h'.size) (own_backQ hM) C.2.2.2.2.1 w4 w3 hf hl) (g := mkF m pc Ls st) rfl (by rw [C.2.2.1]; exact hsz) (Steps.refl _) (a := a) (by rw [eT]; exact hcell) hobj (argsL := argsL) (rest := rest) (lenOf hpd hlen) hst (by show 2 * 0 + _ ≤ _; omega) (hb C.2.1 hd) (fun _ _ => ⟨has, eT, Nat.le_trans (Nat.add_le_add_right hc' _) hc, Nat.le_trans (Nat.add_le_add_right hs' _) hs⟩)
  dsimp only [Pt.U, Pt.locs, Pt.cells, Pt.slots] at X' hB1 hB2 hB3 st' hQ
  subst hq hB1 hB2 hB3
  exact own_go (fun t ht => st'.trans ht) (k v T' T'.heap hQ.1 ⟨_, _, _, X', rfl, N.app hQ.2.1, by omega, by omega, Nat.le_trans hn hQ.2.2⟩)
theorem own_callSI (C : own_Cx Z a0 p l e R s m args below meth c own nm bytes mx ret) (A : own_At p l e R s m args below meth c T h n0 kc ks) {i : Nat} {y : MethodName} {by' : ByteArray} {mx' : Nat} {rt : Option FieldType} {rm : Room} (W : Nat) {as' : Array Value} (argsL rest : List Value) {r : Int32} (w1 : (Jvm.Cond.methodLink own i y).before a0 Z = true) (w2 : (Jvm.Cond.static y).before a0 Z = true) (w3 : (Jvm.Cond.initialized y.cls).before a0 Z = true) (w4 : (Jvm.Cond.code y by' mx' rt).before a0 Z = true) (hy : y.cls ≠ "java/lang/invoke/MethodHandle" ∧ y.cls ≠ "java/lang/invoke/VarHandle")
    (hM : MetFree l y (head1 [Jvm.Cond.code y by' mx' rt] rm) (fun a U => a = as' ∧ Z.Warmed39 U.vm ∧ U.heap = h) (fun _ _ _ _ _ => True) (fun _ U o U' => own_QR U n0 rm.cells rm.slots (own_RI h r) o U'))
    (h0c : rm.cells = 0) (h0s : rm.slots = 0) (hf : rm.frames + 1 ≤ R.frames) (hl : W + (mx' + 11) + rm.locals ≤ R.locals) (hc : kc + rm.cells ≤ R.cells) (hs : ks + rm.slots ≤ R.slots) {ps : List FieldType} (hpd : parseMethodDescriptor y.desc = some ⟨ps, rt⟩) (hlen : argsL.length = ps.length) (has : argsL.toArray = as') (hst : st = argsL.reverse ++ rest) (hW : (rest.map fun v => v.category).sum ≤ W) (hsz : Ls.size = mx) (hd : decode bytes pc = .ok (.invokestatic i, 3)) (hq : pc + 3 = q)
    (k : ∀ T', own_At p l e R s m args below meth c T' h n0 kc ks → own_Go p.tables e below (T'.setTop (mkF m q Ls (.int r :: rest))) Q) :
    own_Go p.tables e below (T.setTop (mkF m pc Ls st)) Q := by
  refine own_callS C A W argsL rest w1 w2 w3 w4 hy hM hf hl hc hs hpd hlen has hst hW hsz hd hq (fun v T' h' hP A' => ?_)
  obtain ⟨rfl, rfl⟩ := hP
  rw [h0c, h0s] at A'
  exact k T' A'
theorem own_callSJ (C : own_Cx Z a0 p l e R s m args below meth c own nm bytes mx ret) (A : own_At p l e R s m args below meth c T h n0 kc ks) {i : Nat} {y : MethodName} {by' : ByteArray} {mx' : Nat} {rt : Option FieldType} {rm : Room} (W : Nat) {as' : Array Value} (argsL rest : List Value) {r : Int64} (w1 : (Jvm.Cond.methodLink own i y).before a0 Z = true) (w2 : (Jvm.Cond.static y).before a0 Z = true) (w3 : (Jvm.Cond.initialized y.cls).before a0 Z = true) (w4 : (Jvm.Cond.code y by' mx' rt).before a0 Z = true) (hy : y.cls ≠ "java/lang/invoke/MethodHandle" ∧ y.cls ≠ "java/lang/invoke/VarHandle")
    (hM : MetFree l y (head1 [Jvm.Cond.code y by' mx' rt] rm) (fun a U => a = as' ∧ Z.Warmed39 U.vm ∧ U.heap = h) (fun _ _ _ _ _ => True) (fun _ U o U' => own_QR U n0 rm.cells rm.slots (own_RJ h r) o U'))
    (h0c : rm.cells = 0) (h0s : rm.slots = 0) (hf : rm.frames + 1 ≤ R.frames) (hl : W + (mx' + 11) + rm.locals ≤ R.locals) (hc : kc + rm.cells ≤ R.cells) (hs : ks + rm.slots ≤ R.slots) {ps : List FieldType} (hpd : parseMethodDescriptor y.desc = some ⟨ps, rt⟩) (hlen : argsL.length = ps.length) (has : argsL.toArray = as') (hst : st = argsL.reverse ++ rest) (hW : (rest.map fun v => v.category).sum ≤ W) (hsz : Ls.size = mx) (hd : decode bytes pc = .ok (.invokestatic i, 3)) (hq : pc + 3 = q)
    (k : ∀ T', own_At p l e R s m args below meth c T' h n0 kc ks → own_Go p.tables e below (T'.setTop (mkF m q Ls (.long r :: rest))) Q) :
    own_Go p.tables e below (T.setTop (mkF m pc Ls st)) Q := by
  refine own_callS C A W argsL rest w1 w2 w3 w4 hy hM hf hl hc hs hpd hlen has hst hW hsz hd hq (fun v T' h' hP A' => ?_)
  obtain ⟨rfl, rfl⟩ := hP
  rw [h0c, h0s] at A'
  exact k T' A'
theorem own_callVI (C : own_Cx Z a0 p l e R s m args below meth c own nm bytes mx ret) (A : own_At p l e R s m args below meth c T h n0 kc ks) {i : Nat} {y : MethodName} {by' : ByteArray} {mx' : Nat} {rt : Option FieldType} {rm : Room} (W : Nat) {as' : Array Value} (argsL rest : List Value) {r : Int32} {a : Addr} {B : String} (w1 : (Jvm.Cond.methodLink own i y).before a0 Z = true) (w2 : (Jvm.Cond.declares y).before a0 Z = true) (w5 : (Jvm.Cond.selects B y y).before a0 Z = true) (w6 : (Jvm.Cond.instanceMethod y).before a0 Z = true) (w3 : (Jvm.Cond.initialized y.cls).before a0 Z = true) (w4 : (Jvm.Cond.code y by' mx' rt).before a0 Z = true) (hy : y.cls ≠ "java/lang/invoke/MethodHandle" ∧ y.cls ≠ "java/lang/invoke/VarHandle") (hBy : y.cls = B) (E : Exa Z h a B)
    (hM : MetFree l y (head1 [Jvm.Cond.code y by' mx' rt] rm) (fun a U => a = as' ∧ Z.Warmed39 U.vm ∧ U.heap = h) (fun _ _ _ _ _ => True) (fun _ U o U' => own_QR U n0 rm.cells rm.slots (own_RI h r) o U'))
    (h0c : rm.cells = 0) (h0s : rm.slots = 0) (hf : rm.frames + 1 ≤ R.frames) (hl : W + (mx' + 11) + rm.locals ≤ R.locals) (hc : kc + rm.cells ≤ R.cells) (hs : ks + rm.slots ≤ R.slots) {ps : List FieldType} (hpd : parseMethodDescriptor y.desc = some ⟨ps, rt⟩) (hlen : argsL.length = ps.length) (has : (Value.ref a :: argsL).toArray = as') (hst : st = argsL.reverse ++ .ref a :: rest) (hW : (rest.map fun v => v.category).sum ≤ W) (hsz : Ls.size = mx) (hd : decode bytes pc = .ok (.invokevirtual i, 3)) (hq : pc + 3 = q)
    (k : ∀ T', own_At p l e R s m args below meth c T' h n0 kc ks → own_Go p.tables e below (T'.setTop (mkF m q Ls (.int r :: rest))) Q) :
    own_Go p.tables e below (T.setTop (mkF m pc Ls st)) Q := by
  refine own_callV C A W argsL rest w1 w2 w5 w6 w3 w4 hy hBy E hM hf hl hc hs hpd hlen has hst hW hsz hd hq (fun v T' h' hP A' => ?_)
  obtain ⟨rfl, rfl⟩ := hP
  rw [h0c, h0s] at A'
  exact k T' A'
theorem own_callVJ (C : own_Cx Z a0 p l e R s m args below meth c own nm bytes mx ret) (A : own_At p l e R s m args below meth c T h n0 kc ks) {i : Nat} {y : MethodName} {by' : ByteArray} {mx' : Nat} {rt : Option FieldType} {rm : Room} (W : Nat) {as' : Array Value} (argsL rest : List Value) {r : Int64} {a : Addr} {B : String} (w1 : (Jvm.Cond.methodLink own i y).before a0 Z = true) (w2 : (Jvm.Cond.declares y).before a0 Z = true) (w5 : (Jvm.Cond.selects B y y).before a0 Z = true) (w6 : (Jvm.Cond.instanceMethod y).before a0 Z = true) (w3 : (Jvm.Cond.initialized y.cls).before a0 Z = true) (w4 : (Jvm.Cond.code y by' mx' rt).before a0 Z = true) (hy : y.cls ≠ "java/lang/invoke/MethodHandle" ∧ y.cls ≠ "java/lang/invoke/VarHandle") (hBy : y.cls = B) (E : Exa Z h a B)
    (hM : MetFree l y (head1 [Jvm.Cond.code y by' mx' rt] rm) (fun a U => a = as' ∧ Z.Warmed39 U.vm ∧ U.heap = h) (fun _ _ _ _ _ => True) (fun _ U o U' => own_QR U n0 rm.cells rm.slots (own_RJ h r) o U'))
    (h0c : rm.cells = 0) (h0s : rm.slots = 0) (hf : rm.frames + 1 ≤ R.frames) (hl : W + (mx' + 11) + rm.locals ≤ R.locals) (hc : kc + rm.cells ≤ R.cells) (hs : ks + rm.slots ≤ R.slots) {ps : List FieldType} (hpd : parseMethodDescriptor y.desc = some ⟨ps, rt⟩) (hlen : argsL.length = ps.length) (has : (Value.ref a :: argsL).toArray = as') (hst : st = argsL.reverse ++ .ref a :: rest) (hW : (rest.map fun v => v.category).sum ≤ W) (hsz : Ls.size = mx) (hd : decode bytes pc = .ok (.invokevirtual i, 3)) (hq : pc + 3 = q)
    (k : ∀ T', own_At p l e R s m args below meth c T' h n0 kc ks → own_Go p.tables e below (T'.setTop (mkF m q Ls (.long r :: rest))) Q) :
    own_Go p.tables e below (T.setTop (mkF m pc Ls st)) Q := by
  refine own_callV C A W argsL rest w1 w2 w5 w6 w3 w4 hy hBy E hM hf hl hc hs hpd hlen has hst hW hsz hd hq (fun v T' h' hP A' => ?_)
  obtain ⟨rfl, rfl⟩ := hP
  rw [h0c, h0s] at A'
  exact k T' A'
theorem own_callPI (C : own_Cx Z a0 p l e R s m args below meth c own nm bytes mx ret) (A : own_At p l e R s m args below meth c T h n0 kc ks) {i : Nat} {y : MethodName} {by' : ByteArray} {mx' : Nat} {rt : Option FieldType} {rm : Room} (W : Nat) {as' : Array Value} (argsL rest : List Value) {r : Int32} {a : Addr} {B : String} {kk : Nat} (w1 : (Jvm.Cond.methodLink own i y).before a0 Z = true) (w6 : (Jvm.Cond.instanceMethod y).before a0 Z = true) (wp : (Jvm.Cond.privateMethod y).before a0 Z = true) (wi : (Jvm.Cond.instantiable y.cls kk).before a0 Z = true) (w3 : (Jvm.Cond.initialized y.cls).before a0 Z = true) (w4 : (Jvm.Cond.code y by' mx' rt).before a0 Z = true) (hy : y.cls ≠ "java/lang/invoke/MethodHandle" ∧ y.cls ≠ "java/lang/invoke/VarHandle") (E : Exa Z h a B)
    (hM : MetFree l y (head1 [Jvm.Cond.code y by' mx' rt] rm) (fun a U => a = as' ∧ Z.Warmed39 U.vm ∧ U.heap = h) (fun _ _ _ _ _ => True) (fun _ U o U' => own_QR U n0 rm.cells rm.slots (own_RI h r) o U'))
    (h0c : rm.cells = 0) (h0s : rm.slots = 0) (hf : rm.frames + 1 ≤ R.frames) (hl : W + (mx' + 11) + rm.locals ≤ R.locals) (hc : kc + rm.cells ≤ R.cells) (hs : ks + rm.slots ≤ R.slots) {ps : List FieldType} (hpd : parseMethodDescriptor y.desc = some ⟨ps, rt⟩) (hlen : argsL.length = ps.length) (has : (Value.ref a :: argsL).toArray = as') (hst : st = argsL.reverse ++ .ref a :: rest) (hW : (rest.map fun v => v.category).sum ≤ W) (hsz : Ls.size = mx) (hd : decode bytes pc = .ok (.invokevirtual i, 3)) (hq : pc + 3 = q)
    (k : ∀ T', own_At p l e R s m args below meth c T' h n0 kc ks → own_Go p.tables e below (T'.setTop (mkF m q Ls (.int r :: rest))) Q) :
    own_Go p.tables e below (T.setTop (mkF m pc Ls st)) Q := by
  refine own_callP C A W argsL rest w1 w6 wp wi w3 w4 hy E hM hf hl hc hs hpd hlen has hst hW hsz hd hq (fun v T' h' hP A' => ?_)
  obtain ⟨rfl, rfl⟩ := hP
  rw [h0c, h0s] at A'
  exact k T' A'
theorem own_callC0 (C : own_Cx Z a0 p l e R s m args below meth c own nm bytes mx ret) (A : own_At p l e R s m args below meth c T h n0 kc ks) {i : Nat} {y : MethodName} {by' : ByteArray} {mx' : Nat} {rm : Room} (W : Nat) {as' : Array Value} (argsL rest : List Value)  {a : Addr} (hy1 : y.name = "<init>") (w1 : (Jvm.Cond.methodLink own i y).before a0 Z = true) (w2 : (Jvm.Cond.instanceMethod y).before a0 Z = true) (w3 : (Jvm.Cond.initialized y.cls).before a0 Z = true) (w4 : (Jvm.Cond.code y by' mx' none).before a0 Z = true) (hy : y.cls ≠ "java/lang/invoke/MethodHandle" ∧ y.cls ≠ "java/lang/invoke/VarHandle")
    (hM : MetFree l y (head1 [Jvm.Cond.code y by' mx' none] rm) (fun a U => a = as' ∧ Z.Warmed39 U.vm ∧ U.heap = h) (fun _ _ _ _ _ => True) (fun _ U o U' => own_QR U n0 rm.cells rm.slots (own_R0 h ()) o U'))
    (h0c : rm.cells = 0) (h0s : rm.slots = 0) (hf : rm.frames + 1 ≤ R.frames) (hl : W + (mx' + 11) + rm.locals ≤ R.locals) (hc : kc + rm.cells ≤ R.cells) (hs : ks + rm.slots ≤ R.slots) {ps : List FieldType} (hpd : parseMethodDescriptor y.desc = some ⟨ps, none⟩) (hlen : argsL.length = ps.length) (has : (Value.ref a :: argsL).toArray = as') (hst : st = argsL.reverse ++ .ref a :: rest) (hW : (rest.map fun v => v.category).sum ≤ W) (hsz : Ls.size = mx) (hd : decode bytes pc = .ok (.invokespecial i, 3)) (hq : pc + 3 = q)
    (k : ∀ T', own_At p l e R s m args below meth c T' h n0 kc ks → own_Go p.tables e below (T'.setTop (mkF m q Ls rest)) Q) :
    own_Go p.tables e below (T.setTop (mkF m pc Ls st)) Q := by
  refine own_callC C A W argsL rest hy1 w1 w2 w3 w4 hy hM hf hl hc hs hpd hlen has hst hW hsz hd hq (fun v T' h' hP A' => ?_)
  obtain ⟨rfl, rfl⟩ := hP
  rw [h0c, h0s] at A'
  exact k T' A'
theorem own_initO (C : own_Cx Z a0 p l e R s m args below meth c own nm bytes mx ret) (A : own_At p l e R s m args below meth c T h n0 kc ks) {i : Nat} {a : Addr} (W : Nat) (w1 : (Jvm.Cond.methodLink own i Lib.objectInit).before a0 Z = true) (w2 : (Jvm.Cond.instanceMethod Lib.objectInit).before a0 Z = true) (w3 : (Jvm.Cond.code Lib.objectInit ⟨#[0xb1]⟩ 1 none).before a0 Z = true) (hsz : Ls.size = mx) (hd : decode bytes pc = .ok (.invokespecial i, 3)) (hq : pc + 3 = q) (hf : 1 ≤ R.frames) (hW : (st.map fun v => v.category).sum ≤ W) (hl : W + 12 ≤ R.locals)
    (k : ∀ T', own_At p l e R s m args below meth c T' h n0 kc ks → own_Go p.tables e below (T'.setTop (mkF m q Ls st)) Q) :
    own_Go p.tables e below (T.setTop (mkF m pc Ls (.ref a :: st))) Q := by
  obtain ⟨locs, cells, slots, X, eT, N, hc', hs', hn⟩ := A
  obtain ⟨T', X', e', st'⟩ := initO X C.1 C.2.2.2.2.1 C.2.2.2.1 w1 w2 w3 eT (g := mkF m pc Ls (.ref a :: st)) rfl (by rw [C.2.2.1]; exact hsz) rfl (hb C.2.1 hd) hf (W := W) (by show 2 * 0 + _ ≤ _; omega) hl
  subst hq
  exact own_go st' (k T' ⟨locs, cells, slots, X', e', N, hc', hs', hn⟩)
theorem own_getF (C : own_Cx Z a0 p l e R s m args below meth c own nm bytes mx ret) (A : own_At p l e R s m args below meth c T h n0 kc ks) {O n d : String} {i : Nat} {a : Addr} {v : Value} (w : (Jvm.Cond.fieldLink own i O n d).before a0 Z = true) (F : Fld Z h a O n d v) (hd : decode bytes pc = .ok (.getfield i, 3)) (hq : pc + 3 = q) (k : ∀ T', own_At p l e R s m args below meth c T' h n0 kc ks → own_Go p.tables e below (T'.setTop (mkF m q Ls (v :: st))) Q) :
    own_Go p.tables e below (T.setTop (mkF m pc Ls (.ref a :: st))) Q := by
  obtain ⟨locs, cells, slots, X, eT, N, hc', hs', hn⟩ := A
  obtain ⟨T', X', e', st'⟩ := getF X C.1 C.2.2.2.2.1 C.2.2.2.1 (host := "") (Or.inl w) Via.refl eT F (g := mkF m pc Ls (.ref a :: st)) rfl rfl (hb C.2.1 hd)
  subst hq
  exact own_go st' (k T' ⟨locs, cells, slots, X', e', N, hc', hs', hn⟩)
theorem own_putF (C : own_Cx Z a0 p l e R s m args below meth c own nm bytes mx ret) (A : own_At p l e R s m args below meth c T h n0 kc ks) {O n d B : String} {i kk : Nat} {a : Addr} {v old : Value} (ty : FieldType) (w : (Jvm.Cond.fieldLink own i O n d).before a0 Z = true) (F : Fld Z h a O n d old) (E : Exa Z h a B) (Ly : (Jvm.Cond.lays B O n d).before a0 Z = true ∨ ((Jvm.Cond.laysFinal B O n d).before a0 Z = true ∧ own = O ∧ nm = "<init>")) (wi : (Jvm.Cond.instantiable B kk).before a0 Z = true) (hty : parseFieldDescriptor d = some ty) (hnr : narrow ty v = v) (hft : fits ty v = true) (ga : n0 ≤ a) (hd : decode bytes pc = .ok (.putfield i, 3)) (hq : pc + 3 = q)
    (k : ∀ T' h', Wr h h' a (Jvm.RoadKit.slotOf Z O n d) v → own_At p l e R s m args below meth c T' h' n0 kc ks → own_Go p.tables e below (T'.setTop (mkF m q Ls st)) Q) :
    own_Go p.tables e below (T.setTop (mkF m pc Ls (v :: .ref a :: st))) Q := by
  obtain ⟨locs, cells, slots, X, eT, N, hc', hs', hn⟩ := A
  obtain ⟨T', h', X', e', W', st'⟩ := putF X C.1 C.2.2.2.2.1 C.2.2.2.1 (host := "") (Or.inl w) Via.refl eT F E (Ly.imp id fun z => ⟨z.1, z.2.1, by rw [C.2.2.2.2.2.1]; exact z.2.2⟩) wi hty hnr hft (g := mkF m pc Ls (v :: .ref a :: st)) rfl rfl (hb C.2.1 hd)
  subst hq
  exact own_go st' (k T' h' W' ⟨_, cells, slots, X', e', Fr.snoc X' N ga, hc', hs', by rw [W'.size]; exact hn⟩)
theorem own_newO (C : own_Cx Z a0 p l e R s m args below meth c own nm bytes mx ret) (A : own_At p l e R s m args below meth c T h n0 kc ks) {B : String} {i n : Nat} (w : (Jvm.Cond.classLink own i B).before a0 Z = true) (wi : (Jvm.Cond.instantiable B n).before a0 Z = true) (wz : (Jvm.Cond.initialized B).before a0 Z = true) (hd : decode bytes pc = .ok (.new i, 3)) (hq : pc + 3 = q) (hc : kc + 1 ≤ R.cells) (hs : ks + n ≤ R.slots)
    (k : ∀ T' h' a, a = h.size → Ext h h' → Exa Z h' a B → (∀ {O nm d : String} {ty : FieldType}, Laid Z a0 B O nm d → parseFieldDescriptor d = some ty → Fld Z h' a O nm d (defaultValue ty)) → n0 ≤ a → own_At p l e R s m args below meth c T' h' n0 (kc + 1) (ks + n) → own_Go p.tables e below (T'.setTop (mkF m q Ls (.ref a :: st))) Q) :
    own_Go p.tables e below (T.setTop (mkF m pc Ls st)) Q := by
  obtain ⟨locs, cells, slots, X, eT, N, hc', hs', hn⟩ := A
  obtain ⟨T', h', X', e', E', A', D', -, st'⟩ := newO X C.1 C.2.2.2.2.1 C.2.2.2.1 w wi wz eT (g := mkF m pc Ls st) rfl (hb C.2.1 hd) (by omega) (by omega)
  subst hq
  exact own_go st' (k T' h' h.size rfl E' A' D' hn ⟨locs, _, _, X', e', N, by omega, by omega, Nat.le_trans hn E'.1⟩)
theorem own_instY (C : own_Cx Z a0 p l e R s m args below meth c own nm bytes mx ret) (A : own_At p l e R s m args below meth c T h n0 kc ks) {B : String} {i : Nat} {a : Addr} (w : (Jvm.Cond.classLink own i B).before a0 Z = true) (F : Ins Z h a B true) (hd : decode bytes pc = .ok (.instanceof i, 3)) (hq : pc + 3 = q) (k : ∀ T', own_At p l e R s m args below meth c T' h n0 kc ks → own_Go p.tables e below (T'.setTop (mkF m q Ls (.int 1 :: st))) Q) :
    own_Go p.tables e below (T.setTop (mkF m pc Ls (.ref a :: st))) Q := by
  obtain ⟨locs, cells, slots, X, eT, N, hc', hs', hn⟩ := A
  obtain ⟨T', X', e', st'⟩ := instY X C.1 C.2.2.2.2.1 C.2.2.2.1 w eT F (g := mkF m pc Ls (.ref a :: st)) rfl rfl (hb C.2.1 hd)
  subst hq
  exact own_go st' (k T' ⟨locs, cells, slots, X', e', N, hc', hs', hn⟩)
theorem own_castY (C : own_Cx Z a0 p l e R s m args below meth c own nm bytes mx ret) (A : own_At p l e R s m args below meth c T h n0 kc ks) {B : String} {i : Nat} {a : Addr} (w : (Jvm.Cond.classLink own i B).before a0 Z = true) (F : Ins Z h a B true) (hd : decode bytes pc = .ok (.checkcast i, 3)) (hq : pc + 3 = q) (k : ∀ T', own_At p l e R s m args below meth c T' h n0 kc ks → own_Go p.tables e below (T'.setTop (mkF m q Ls (.ref a :: st))) Q) :
    own_Go p.tables e below (T.setTop (mkF m pc Ls (.ref a :: st))) Q := by
  obtain ⟨locs, cells, slots, X, eT, N, hc', hs', hn⟩ := A
  obtain ⟨T', X', e', st'⟩ := castY X C.1 C.2.2.2.2.1 C.2.2.2.1 w eT F (g := mkF m pc Ls (.ref a :: st)) rfl rfl (hb C.2.1 hd)
  subst hq
  exact own_go st' (k T' ⟨locs, cells, slots, X', e', N, hc', hs', hn⟩)
theorem own_instNo (C : own_Cx Z a0 p l e R s m args below meth c own nm bytes mx ret) (A : own_At p l e R s m args below meth c T h n0 kc ks) {B D : String} {i : Nat} {a : Addr} (w : (Jvm.Cond.classLink own i B).before a0 Z = true) (E : Exa Z h a D) (F : ∃ c t, Z.vm.findClass D = some c ∧ Z.vm.findClass B = some t ∧ Z.vm.assignable c t = false) (hd : decode bytes pc = .ok (.instanceof i, 3)) (hq : pc + 3 = q) (k : ∀ T', own_At p l e R s m args below meth c T' h n0 kc ks → own_Go p.tables e below (T'.setTop (mkF m q Ls (.int 0 :: st))) Q) :
    own_Go p.tables e below (T.setTop (mkF m pc Ls (.ref a :: st))) Q := by
  obtain ⟨locs, cells, slots, X, eT, N, hc', hs', hn⟩ := A
  obtain ⟨T', X', e', st'⟩ := instNo X C.1 C.2.2.2.2.1 C.2.2.2.1 w eT E F (g := mkF m pc Ls (.ref a :: st)) rfl rfl (hb C.2.1 hd)
  subst hq
  exact own_go st' (k T' ⟨locs, cells, slots, X', e', N, hc', hs', hn⟩)
theorem own_instNull (C : own_Cx Z a0 p l e R s m args below meth c own nm bytes mx ret) (A : own_At p l e R s m args below meth c T h n0 kc ks) {i : Nat} (hd : decode bytes pc = .ok (.instanceof i, 3)) (hq : pc + 3 = q) (k : own_Go p.tables e below (T.setTop (mkF m q Ls (.int 0 :: st))) Q) :
    own_Go p.tables e below (T.setTop (mkF m pc Ls (.null :: st))) Q := by
  obtain ⟨_, _, _, X, _⟩ := A
  subst hq
  exact own_go (X.instanceofNull C.1 (g := mkF m pc Ls (.null :: st)) rfl rfl (hb C.2.1 hd)) k
def own_Ia (Z : State) (h : Heap) (a : Addr) (ty : FieldType) (n : Int32) (xs : List Int32) : Prop := ∃ k, Arv Z h a k ty n (xs.map .int) (.int 0) ∧ xs.length = n.toNatClampNeg
theorem own_Ia.lt {a : Addr} {ty : FieldType} {n : Int32} {xs : List Int32} (F : own_Ia Z h a ty n xs) : a < h.size := by obtain ⟨k, V, -⟩ := F; exact V.lt
theorem own_Ia.ext {h' : Heap} {a : Addr} {ty : FieldType} {n : Int32} {xs : List Int32} (F : own_Ia Z h a ty n xs) (E : Ext h h') : own_Ia Z h' a ty n xs := by obtain ⟨k, V, hl⟩ := F; exact ⟨k, V.ext E, hl⟩
theorem own_Ia.keep {h' : Heap} {ws : List Addr} {a : Addr} {ty : FieldType} {n : Int32} {xs : List Int32} (F : own_Ia Z h a ty n xs) (K : Keep h h' ws) (q : a ∉ ws) : own_Ia Z h' a ty n xs := by obtain ⟨k, V, hl⟩ := F; exact ⟨k, V.keep K q, hl⟩
theorem own_Ia.other {h' : Heap} {a b : Addr} {sl : Nat} {v : Value} {ty : FieldType} {n : Int32} {xs : List Int32} (F : own_Ia Z h b ty n xs) (W : Wr h h' a sl v) (q : b ≠ a) : own_Ia Z h' b ty n xs := by obtain ⟨k, V, hl⟩ := F; exact ⟨k, V.other W q, hl⟩
theorem own_getD_map (xs : List Int32) (i : Nat) : (xs.map Value.int).getD i (.int 0) = .int (xs.getD i 0) := by
  induction xs generalizing i with
  | nil => rfl
  | cons x t ih => cases i with
    | zero => rfl
    | succ i => simpa using ih i
theorem own_newP (C : own_Cx Z a0 p l e R s m args below meth c own nm bytes mx ret) (A : own_At p l e R s m args below meth c T h n0 kc ks) {aty : ArrayType} {n : Int32} (cap : Nat) {xs : List Int32} (w : (Jvm.Cond.arrayClass (newarray.typeOf aty)).before a0 Z = true) (hn' : ¬ n < 0) (hxs : List.replicate n.toNatClampNeg 0 = xs) (hcap : n.toNatClampNeg ≤ cap) (hcb : cap * 8 ≤ 536870912) (hdv : defaultValue (newarray.typeOf aty) = .int 0) (hd : decode bytes pc = .ok (.newarray aty, 2)) (hq : pc + 2 = q) (hc : kc + 1 ≤ R.cells) (hs : ks + cap ≤ R.slots)
    (k : ∀ T' h' a, a = h.size → Ext h h' → own_Ia Z h' a (newarray.typeOf aty) n xs → n0 ≤ a → own_At p l e R s m args below meth c T' h' n0 (kc + 1) (ks + cap) → own_Go p.tables e below (T'.setTop (mkF m q Ls (.ref a :: st))) Q) :
    own_Go p.tables e below (T.setTop (mkF m pc Ls (.int n :: st))) Q := by
  obtain ⟨locs, cells, slots, X, eT, N, hc', hs', hn⟩ := A
  obtain ⟨T', h', cA, X', e', E', A', st'⟩ := newP X C.1 C.2.2.2.2.1 w eT (g := mkF m pc Ls (.int n :: st)) rfl (hb C.2.1 hd) rfl hn' (cap := cap) hcap hcb (by omega) (by omega)
  subst hq hxs
  have V := Arv.new A' hn'
  rw [hdv] at V
  have V' := V.pad (pad_rep [] (.int 0) n.toNatClampNeg)
  refine own_go st' (k T' h' h.size rfl E' ⟨cA, ?_, by simp⟩ hn ⟨locs, _, _, X', e', N, by omega, by omega, Nat.le_trans hn E'.1⟩)
  simpa using V'
theorem own_newX (C : own_Cx Z a0 p l e R s m args below meth c own nm bytes mx ret) (A : own_At p l e R s m args below meth c T h n0 kc ks) {aty : ArrayType} {n : Int32} (cap : Nat) (w : (Jvm.Cond.arrayClass (newarray.typeOf aty)).before a0 Z = true) (hn' : ¬ n < 0) (hcap : n.toNatClampNeg ≤ cap) (hcb : cap * 8 ≤ 536870912) (hd : decode bytes pc = .ok (.newarray aty, 2)) (hq : pc + 2 = q) (hc : kc + 1 ≤ R.cells) (hs : ks + cap ≤ R.slots)
    (k : ∀ T' h' a, a = h.size → Ext h h' → n0 ≤ a → own_At p l e R s m args below meth c T' h' n0 (kc + 1) (ks + cap) → own_Go p.tables e below (T'.setTop (mkF m q Ls (.ref a :: st))) Q) :
    own_Go p.tables e below (T.setTop (mkF m pc Ls (.int n :: st))) Q := by
  obtain ⟨locs, cells, slots, X, eT, N, hc', hs', hn⟩ := A
  obtain ⟨T', h', cA, X', e', E', A', st'⟩ := newP X C.1 C.2.2.2.2.1 w eT (g := mkF m pc Ls (.int n :: st)) rfl (hb C.2.1 hd) rfl hn' (cap := cap) hcap hcb (by omega) (by omega)
  subst hq
  exact own_go st' (k T' h' h.size rfl E' hn ⟨locs, _, _, X', e', N, by omega, by omega, Nat.le_trans hn E'.1⟩)
def own_PN (Z : State) (n0 : Nat) (ty : FieldType) (h : Heap) (r : Int32 × List Int32) (v : Option Value) (h' : Heap) : Prop := ∃ a, v = some (.ref a) ∧ n0 ≤ a ∧ h.size ≤ a ∧ Keep h h' [] ∧ own_Ia Z h' a ty r.1 r.2
theorem own_iastore (C : own_Cx Z a0 p l e R s m args below meth c own nm bytes mx ret) (A : own_At p l e R s m args below meth c T h n0 kc ks) {a : Addr} {j x n : Int32} {xs ys : List Int32} (V : own_Ia Z h a .int n xs) (hj : ¬ j < 0 ∧ j < n) (hys : xs.set j.toNatClampNeg (x) = ys) (ga : n0 ≤ a) (hd : decode bytes pc = .ok (.iastore, 1)) (hq : pc + 1 = q)
    (k : ∀ T' h', Keep h h' [a] → own_Ia Z h' a .int n ys → own_At p l e R s m args below meth c T' h' n0 kc ks → own_Go p.tables e below (T'.setTop (mkF m q Ls st)) Q) :
    own_Go p.tables e below (T.setTop (mkF m pc Ls (.int x :: .int j :: .ref a :: st))) Q := by
  obtain ⟨locs, cells, slots, X, eT, N, hc', hs', hn⟩ := A
  obtain ⟨kk, ⟨cl, Ar, q1, S, q3, H, G⟩, hlen⟩ := V
  have hin := inb_of S hj
  obtain ⟨T', h', X', e', W', st'⟩ := stI X C.1 C.2.2.2.2.1 eT Ar hin (g := mkF m pc Ls (.int x :: .int j :: .ref a :: st)) rfl rfl (hb C.2.1 hd)
  subst hq hys
  have hlt : j.toNatClampNeg < (xs.map Value.int).length := by
    have := Nat.lt_of_not_le fun z => hin (Or.inr z)
    rw [S] at this; simpa [hlen] using this
  have V' := Arv.set Ar q1 S q3 H G rfl W' j.toNatClampNeg rfl hlt
  refine own_go st' (k T' h' (Keep.of_wr W') ⟨kk, ?_, by simpa using hlen⟩ ⟨_, cells, slots, X', e', Fr.snoc X' N ga, hc', hs', by rw [W'.size]; exact hn⟩)
  rw [List.map_set]
  exact V'
theorem own_bastore (C : own_Cx Z a0 p l e R s m args below meth c own nm bytes mx ret) (A : own_At p l e R s m args below meth c T h n0 kc ks) {a : Addr} {j x n : Int32} {xs ys : List Int32} (V : own_Ia Z h a .byte n xs) (hj : ¬ j < 0 ∧ j < n) (hys : xs.set j.toNatClampNeg (x.toInt8.toInt32) = ys) (ga : n0 ≤ a) (hd : decode bytes pc = .ok (.bastore, 1)) (hq : pc + 1 = q)
    (k : ∀ T' h', Keep h h' [a] → own_Ia Z h' a .byte n ys → own_At p l e R s m args below meth c T' h' n0 kc ks → own_Go p.tables e below (T'.setTop (mkF m q Ls st)) Q) :
    own_Go p.tables e below (T.setTop (mkF m pc Ls (.int x :: .int j :: .ref a :: st))) Q := by
  obtain ⟨locs, cells, slots, X, eT, N, hc', hs', hn⟩ := A
  obtain ⟨kk, ⟨cl, Ar, q1, S, q3, H, G⟩, hlen⟩ := V
  have hin := inb_of S hj
  obtain ⟨T', h', X', e', W', st'⟩ := stB X C.1 C.2.2.2.2.1 eT Ar hin (g := mkF m pc Ls (.int x :: .int j :: .ref a :: st)) rfl rfl (hb C.2.1 hd)
  subst hq hys
  have hlt : j.toNatClampNeg < (xs.map Value.int).length := by
    have := Nat.lt_of_not_le fun z => hin (Or.inr z)
    rw [S] at this; simpa [hlen] using this
  have V' := Arv.set Ar q1 S q3 H G (fits_nar_byte x) W' j.toNatClampNeg rfl hlt
  refine own_go st' (k T' h' (Keep.of_wr W') ⟨kk, ?_, by simpa using hlen⟩ ⟨_, cells, slots, X', e', Fr.snoc X' N ga, hc', hs', by rw [W'.size]; exact hn⟩)
  rw [List.map_set]
  exact V'
theorem own_castore (C : own_Cx Z a0 p l e R s m args below meth c own nm bytes mx ret) (A : own_At p l e R s m args below meth c T h n0 kc ks) {a : Addr} {j x n : Int32} {xs ys : List Int32} (V : own_Ia Z h a .char n xs) (hj : ¬ j < 0 ∧ j < n) (hys : xs.set j.toNatClampNeg (x.toUInt32.toUInt16.toUInt32.toInt32) = ys) (ga : n0 ≤ a) (hd : decode bytes pc = .ok (.castore, 1)) (hq : pc + 1 = q)
    (k : ∀ T' h', Keep h h' [a] → own_Ia Z h' a .char n ys → own_At p l e R s m args below meth c T' h' n0 kc ks → own_Go p.tables e below (T'.setTop (mkF m q Ls st)) Q) :
    own_Go p.tables e below (T.setTop (mkF m pc Ls (.int x :: .int j :: .ref a :: st))) Q := by
  obtain ⟨locs, cells, slots, X, eT, N, hc', hs', hn⟩ := A
  obtain ⟨kk, ⟨cl, Ar, q1, S, q3, H, G⟩, hlen⟩ := V
  have hin := inb_of S hj
  obtain ⟨T', h', X', e', W', st'⟩ := stC X C.1 C.2.2.2.2.1 eT Ar hin (g := mkF m pc Ls (.int x :: .int j :: .ref a :: st)) rfl rfl (hb C.2.1 hd)
  subst hq hys
  have hlt : j.toNatClampNeg < (xs.map Value.int).length := by
    have := Nat.lt_of_not_le fun z => hin (Or.inr z)
    rw [S] at this; simpa [hlen] using this
  have V' := Arv.set Ar q1 S q3 H G (fits_nar_char x) W' j.toNatClampNeg rfl hlt
  refine own_go st' (k T' h' (Keep.of_wr W') ⟨kk, ?_, by simpa using hlen⟩ ⟨_, cells, slots, X', e', Fr.snoc X' N ga, hc', hs', by rw [W'.size]; exact hn⟩)
  rw [List.map_set]
  exact V'
theorem own_iaload (C : own_Cx Z a0 p l e R s m args below meth c own nm bytes mx ret) (A : own_At p l e R s m args below meth c T h n0 kc ks) {a : Addr} {j n v : Int32} {xs : List Int32} (V : own_Ia Z h a .int n xs) (hj : ¬ j < 0 ∧ j < n) (hv : xs.getD j.toNatClampNeg 0 = v) (hd : decode bytes pc = .ok (.iaload, 1)) (hq : pc + 1 = q) (k : own_Go p.tables e below (T.setTop (mkF m q Ls (.int v :: st))) Q) :
    own_Go p.tables e below (T.setTop (mkF m pc Ls (.int j :: .ref a :: st))) Q := by
  obtain ⟨locs, cells, slots, X, eT, N, hc', hs', hn⟩ := A
  obtain ⟨kk, ⟨cl, Ar, q1, S, q3, H, G⟩, hlen⟩ := V
  have hin := inb_of S hj
  subst hq hv
  exact own_go (fun t => X.iaload C.1 (by rw [eT]; exact Ar.1) (State.isArrayOf_alike C.2.2.2.2.1.alike Ar.2.1) Ar.2.2 hin (H.at hin (own_getD_map xs _)) (g := mkF m pc Ls (.int j :: .ref a :: st)) rfl rfl (hb C.2.1 hd) t) k
theorem own_baload (C : own_Cx Z a0 p l e R s m args below meth c own nm bytes mx ret) (A : own_At p l e R s m args below meth c T h n0 kc ks) {a : Addr} {j n v : Int32} {xs : List Int32} (V : own_Ia Z h a .byte n xs) (hj : ¬ j < 0 ∧ j < n) (hv : xs.getD j.toNatClampNeg 0 = v) (hd : decode bytes pc = .ok (.baload, 1)) (hq : pc + 1 = q) (k : own_Go p.tables e below (T.setTop (mkF m q Ls (.int v :: st))) Q) :
    own_Go p.tables e below (T.setTop (mkF m pc Ls (.int j :: .ref a :: st))) Q := by
  obtain ⟨locs, cells, slots, X, eT, N, hc', hs', hn⟩ := A
  obtain ⟨kk, ⟨cl, Ar, q1, S, q3, H, G⟩, hlen⟩ := V
  have hin := inb_of S hj
  subst hq hv
  exact own_go (fun t => X.baloadBytes C.1 (by rw [eT]; exact Ar.1) (State.isArrayOf_alike C.2.2.2.2.1.alike Ar.2.1) Ar.2.2 hin (H.at hin (own_getD_map xs _)) (g := mkF m pc Ls (.int j :: .ref a :: st)) rfl rfl (hb C.2.1 hd) t) k
theorem own_caload (C : own_Cx Z a0 p l e R s m args below meth c own nm bytes mx ret) (A : own_At p l e R s m args below meth c T h n0 kc ks) {a : Addr} {j n v : Int32} {xs : List Int32} (V : own_Ia Z h a .char n xs) (hj : ¬ j < 0 ∧ j < n) (hv : xs.getD j.toNatClampNeg 0 = v) (hd : decode bytes pc = .ok (.caload, 1)) (hq : pc + 1 = q) (k : own_Go p.tables e below (T.setTop (mkF m q Ls (.int v :: st))) Q) :
    own_Go p.tables e below (T.setTop (mkF m pc Ls (.int j :: .ref a :: st))) Q := by
  obtain ⟨locs, cells, slots, X, eT, N, hc', hs', hn⟩ := A
  obtain ⟨kk, ⟨cl, Ar, q1, S, q3, H, G⟩, hlen⟩ := V
  have hin := inb_of S hj
  subst hq hv
  exact own_go (fun t => X.caload C.1 (by rw [eT]; exact Ar.1) (State.isArrayOf_alike C.2.2.2.2.1.alike Ar.2.1) Ar.2.2 hin (H.at hin (own_getD_map xs _)) (g := mkF m pc Ls (.int j :: .ref a :: st)) rfl rfl (hb C.2.1 hd) t) k
theorem own_alen (C : own_Cx Z a0 p l e R s m args below meth c own nm bytes mx ret) (A : own_At p l e R s m args below meth c T h n0 kc ks) {a : Addr} {n : Int32} {ty : FieldType} {xs : List Int32} (V : own_Ia Z h a ty n xs) (hd : decode bytes pc = .ok (.arraylength, 1)) (hq : pc + 1 = q) (k : own_Go p.tables e below (T.setTop (mkF m q Ls (.int n :: st))) Q) :
    own_Go p.tables e below (T.setTop (mkF m pc Ls (.ref a :: st))) Q := by
  obtain ⟨locs, cells, slots, X, eT, N, hc', hs', hn⟩ := A
  obtain ⟨kk, ⟨cl, Ar, q1, S, q3, H, G⟩, hlen⟩ := V
  subst hq
  rw [← len_of S q3] at k
  exact own_go (fun t => X.arraylength C.1 (by rw [eT]; exact Ar.1) (State.isArrayOf_alike C.2.2.2.2.1.alike Ar.2.1) (g := mkF m pc Ls (.ref a :: st)) rfl rfl (hb C.2.1 hd) t) k
end OwnKit
theorem own_pd0 : parseMethodDescriptor "(JJ)J" = some ⟨[.long, .long], some .long⟩ := by decide +kernel
theorem own_pd1 : parseMethodDescriptor "(J)V" = some ⟨[.long], none⟩ := by decide +kernel
theorem own_pd2 : parseMethodDescriptor "()J" = some ⟨[], some .long⟩ := by decide +kernel
/-! Math.min -/
theorem own_d1_0 : decode jdk_29_method_70_code 0 = .ok (.lload_n 0, 1) := by decide +kernel
theorem own_d1_1 : decode jdk_29_method_70_code 1 = .ok (.lload_n 2, 1) := by decide +kernel
theorem own_d1_2 : decode jdk_29_method_70_code 2 = .ok (.lcmp, 1) := by decide +kernel
theorem own_d1_3 : decode jdk_29_method_70_code 3 = .ok (.ifCond .gt 7, 3) := by decide +kernel
theorem own_d1_6 : decode jdk_29_method_70_code 6 = .ok (.lload_n 0, 1) := by decide +kernel
theorem own_d1_7 : decode jdk_29_method_70_code 7 = .ok (.goto 4, 3) := by decide +kernel
theorem own_d1_10 : decode jdk_29_method_70_code 10 = .ok (.lload_n 2, 1) := by decide +kernel
theorem own_d1_11 : decode jdk_29_method_70_code 11 = .ok (.lreturn, 1) := by decide +kernel
def own_R1 : Room := { frames := 0, cells := 0, slots := 0, locals := 0 }
def f1_0 (v0 : Int64) (v2 : Int64) : Int64 := (if v2 < v0 then v2 else v0)
set_option maxRecDepth 65536 in
set_option maxHeartbeats 4000000 in
theorem w1_0 {Z : State} {a0 : Array Value} {p : Program} {l : Launch} {e : Env} {s : State} {m : MethodId} {args : Array Value} {below : List Frame} {meth : Method} {c : Code} {T : State} {h : Heap} {n0 : Nat}  (C : own_Cx Z a0 p l e own_R1 s m args below meth c "java/lang/Math" "min" jdk_29_method_70_code 4 (some .long)) (A : own_At p l e own_R1 s m args below meth c T h n0 0 0) (v0 : Int64) (v2 : Int64) :
    own_Go p.tables e below (T.setTop (mkF m 0 #[.val (.long v0), .second, .val (.long v2), .second] [])) (own_QR s n0 0 0 (own_RJ h (f1_0 v0 v2))) := by
  unfold f1_0
  refine own_lloadN C A own_d1_0 rfl rfl ?_
  refine own_lloadN C A own_d1_1 rfl rfl ?_
  refine own_lcmp C A own_d1_2 rfl ?_
  refine own_ite (fun hc3 => ?_) (fun hc3 => ?_)
  · refine own_ifY C A own_d1_3 (Jvm.Free.XT.ll_gt_t hc3) (by decide) (q := 10) (by decide) ?_
    refine own_lloadN C A own_d1_10 rfl rfl ?_
    exact own_retJ C A own_d1_11 ⟨rfl, rfl⟩
  · refine own_ifN C A own_d1_3 (Jvm.Free.XT.ll_gt_f hc3) rfl ?_
    refine own_lloadN C A own_d1_6 rfl rfl ?_
    refine own_goto C A own_d1_7 (by decide) (q := 11) (by decide) ?_
    exact own_retJ C A own_d1_11 ⟨rfl, rfl⟩
theorem own_ef1 (m : MethodId) (v0 : Int64) (v2 : Int64) : entryFrame m #[(.long v0), (.long v2)] 4 = mkF m 0 #[.val (.long v0), .second, .val (.long v2), .second] [] := by first | (simp [entryFrame, mkF, argsToLocals, Value.category]; done) | rfl
theorem rm1 (l : Launch) (Z : State) (a0 : Array Value) (hw : ∀ d ∈ tables_1, d.before a0 Z = true) (ws : List Jvm.Cond) (v0 : Int64) (v2 : Int64) (h : Heap) (n0 : Nat) (hn : n0 ≤ h.size) :
    MetFree l (⟨"java/lang/Math", "min", "(JJ)J"⟩ : MethodName) (head1 (Jvm.Cond.code (⟨"java/lang/Math", "min", "(JJ)J"⟩ : MethodName) jdk_29_method_70_code 4 (some .long) :: ws) own_R1) (fun a U => a = #[(.long v0), (.long v2)] ∧ Z.Warmed39 U.vm ∧ U.heap = h) (fun _ _ _ _ _ => True) (fun _ U o U' => own_QR U n0 0 0 (own_RJ h (f1_0 v0 v2)) o U') :=
  own_met (Jvm.Free.JP.mathPlain rfl (by decide +kernel)) hw hn (fun m => own_ef1 m v0 v2) (fun p e s m below meth c T C A => w1_0 C A v0 v2)
/-! Autoscaler.ctor -/
theorem own_d2_0 : decode prog_3_method_1_code 0 = .ok (.aload_n 0, 1) := by decide +kernel
theorem own_d2_1 : decode prog_3_method_1_code 1 = .ok (.invokespecial 3, 3) := by decide +kernel
theorem own_d2_4 : decode prog_3_method_1_code 4 = .ok (.aload_n 0, 1) := by decide +kernel
theorem own_d2_5 : decode prog_3_method_1_code 5 = .ok (.lload_n 1, 1) := by decide +kernel
theorem own_d2_6 : decode prog_3_method_1_code 6 = .ok (.putfield 9, 3) := by decide +kernel
theorem own_d2_9 : decode prog_3_method_1_code 9 = .ok (.return_, 1) := by decide +kernel
def own_R2 : Room := { frames := 1, cells := 0, slots := 0, locals := 12 }
def own_P2 (Z : State) (h : Heap) (v0 : Addr) (r : Int64 × Int64 × Int64) (v : Option Value) (h' : Heap) : Prop := v = none ∧ Keep h h' [v0] ∧ Exa Z h' v0 "com/example/fit50/fit50/engine/Autoscaler" ∧ Fld Z h' v0 "com/example/fit50/fit50/engine/Autoscaler" "maxSlots" "J" (.long r.1) ∧ Fld Z h' v0 "com/example/fit50/fit50/engine/Autoscaler" "slots" "J" (.long r.2.1) ∧ Fld Z h' v0 "com/example/fit50/fit50/engine/Autoscaler" "lastIncrease" "J" (.long r.2.2)
def f2_0 (v1 : Int64) : Int64 × Int64 × Int64 := (v1, (0 : Int64), (0 : Int64))
set_option maxRecDepth 65536 in
set_option maxHeartbeats 4000000 in
theorem w2_0 {Z : State} {a0 : Array Value} {p : Program} {l : Launch} {e : Env} {s : State} {m : MethodId} {args : Array Value} {below : List Frame} {meth : Method} {c : Code} {T : State} {h : Heap} {n0 : Nat} {hE : Heap} {v0 : Addr} {o_maxSlots_v0 : Value} (C : own_Cx Z a0 p l e own_R2 s m args below meth c "com/example/fit50/fit50/engine/Autoscaler" "<init>" prog_3_method_1_code 3 none) (A : own_At p l e own_R2 s m args below meth c T h n0 0 0) (v1 : Int64) (F_maxSlots_v0 : Fld Z h v0 "com/example/fit50/fit50/engine/Autoscaler" "maxSlots" "J" o_maxSlots_v0) (F_slots_v0 : Fld Z h v0 "com/example/fit50/fit50/engine/Autoscaler" "slots" "J" (.long (0 : Int64))) (F_lastIncrease_v0 : Fld Z h v0 "com/example/fit50/fit50/engine/Autoscaler" "lastIncrease" "J" (.long (0 : Int64))) (E_v0 : Exa Z h v0 "com/example/fit50/fit50/engine/Autoscaler") (g_v0 : n0 ≤ v0) (K : Keep hE h [v0]) :
    own_Go p.tables e below (T.setTop (mkF m 0 #[.val (.ref v0), .val (.long v1), .second] [])) (own_QR s n0 0 0 (own_P2 Z hE v0 (f2_0 v1))) := by
  unfold f2_0
  refine own_aloadN C A own_d2_0 rfl rfl rfl ?_
  refine own_initO C A 0 (own_w C 13 rfl) (own_w C 14 rfl) (own_w C 15 rfl) rfl own_d2_1 rfl (by decide) (Nat.le_of_eq rfl) (by decide) (fun T A => ?_)
  refine own_aloadN C A own_d2_4 rfl rfl rfl ?_
  refine own_lloadN C A own_d2_5 rfl rfl ?_
  refine own_putF C A .long (own_w C 16 rfl) F_maxSlots_v0 E_v0 (Or.inr ⟨(own_w C 17 rfl), rfl, rfl⟩) (own_w C 8 rfl) (by decide) rfl rfl g_v0 own_d2_6 rfl (fun T h W A => ?_)
  have F_maxSlots_v0 := Fld.same W F_maxSlots_v0
  have F_slots_v0 := Fld.other W F_slots_v0 (Or.inr (slot_ne (Or.inl (own_w C 28 rfl)) (Or.inr (own_w C 17 rfl)) (by decide) (by decide : parseFieldDescriptor _ = some .long) (by decide : parseFieldDescriptor _ = some .long)))
  have F_lastIncrease_v0 := Fld.other W F_lastIncrease_v0 (Or.inr (slot_ne (Or.inl (own_w C 39 rfl)) (Or.inr (own_w C 17 rfl)) (by decide) (by decide : parseFieldDescriptor _ = some .long) (by decide : parseFieldDescriptor _ = some .long)))
  have E_v0 := Exa.wr W E_v0
  have K := K.wr W (Or.inl (List.mem_of_getElem? (i := 0) rfl))
  exact own_ret0 C A own_d2_9 ⟨rfl, K, E_v0, F_maxSlots_v0, F_slots_v0, F_lastIncrease_v0⟩
theorem own_ef2 (m : MethodId) (v0 : Addr) (v1 : Int64) : entryFrame m #[(.ref v0), (.long v1)] 3 = mkF m 0 #[.val (.ref v0), .val (.long v1), .second] [] := by first | (simp [entryFrame, mkF, argsToLocals, Value.category]; done) | rfl
theorem rm2 (l : Launch) (Z : State) (a0 : Array Value) (hw : ∀ d ∈ tables_1, d.before a0 Z = true) (ws : List Jvm.Cond) (v0 : Addr) (v1 : Int64) (o_maxSlots_v0 : Value) (h : Heap) (n0 : Nat) (hn : n0 ≤ h.size) (F_maxSlots_v0 : Fld Z h v0 "com/example/fit50/fit50/engine/Autoscaler" "maxSlots" "J" o_maxSlots_v0) (F_slots_v0 : Fld Z h v0 "com/example/fit50/fit50/engine/Autoscaler" "slots" "J" (.long (0 : Int64))) (F_lastIncrease_v0 : Fld Z h v0 "com/example/fit50/fit50/engine/Autoscaler" "lastIncrease" "J" (.long (0 : Int64))) (E_v0 : Exa Z h v0 "com/example/fit50/fit50/engine/Autoscaler") (g_v0 : n0 ≤ v0) :
    MetFree l (⟨"com/example/fit50/fit50/engine/Autoscaler", "<init>", "(J)V"⟩ : MethodName) (head1 (Jvm.Cond.code (⟨"com/example/fit50/fit50/engine/Autoscaler", "<init>", "(J)V"⟩ : MethodName) prog_3_method_1_code 3 none :: ws) own_R2) (fun a U => a = #[(.ref v0), (.long v1)] ∧ Z.Warmed39 U.vm ∧ U.heap = h) (fun _ _ _ _ _ => True) (fun _ U o U' => own_QR U n0 0 0 (own_P2 Z h v0 (f2_0 v1)) o U') :=
  own_met (plainFor_of_name (by first | (simp [plainName, overriddenIn]; done) | decide +kernel)) hw hn (fun m => own_ef2 m v0 v1) (fun p e s m below meth c T C A => w2_0 C A v1 F_maxSlots_v0 F_slots_v0 F_lastIncrease_v0 E_v0 g_v0 (Keep.refl h _))
/-! AutoscalerScalePinLaw.target -/
theorem own_d3_0 : decode method_2_code 0 = .ok (.lload_n 2, 1) := by decide +kernel
theorem own_d3_1 : decode method_2_code 1 = .ok (.lconst 0, 1) := by decide +kernel
theorem own_d3_2 : decode method_2_code 2 = .ok (.lcmp, 1) := by decide +kernel
theorem own_d3_3 : decode method_2_code 3 = .ok (.ifCond .gt 5, 3) := by decide +kernel
theorem own_d3_6 : decode method_2_code 6 = .ok (.lconst 0, 1) := by decide +kernel
theorem own_d3_7 : decode method_2_code 7 = .ok (.lreturn, 1) := by decide +kernel
theorem own_d3_8 : decode method_2_code 8 = .ok (.lload_n 2, 1) := by decide +kernel
theorem own_d3_9 : decode method_2_code 9 = .ok (.ldc2_w 7, 3) := by decide +kernel
theorem own_d3_12 : decode method_2_code 12 = .ok (.ldiv, 1) := by decide +kernel
theorem own_d3_13 : decode method_2_code 13 = .ok (.lstore 4, 2) := by decide +kernel
theorem own_d3_15 : decode method_2_code 15 = .ok (.lload 4, 2) := by decide +kernel
theorem own_d3_17 : decode method_2_code 17 = .ok (.ldc2_w 7, 3) := by decide +kernel
theorem own_d3_20 : decode method_2_code 20 = .ok (.lmul, 1) := by decide +kernel
theorem own_d3_21 : decode method_2_code 21 = .ok (.lload_n 2, 1) := by decide +kernel
theorem own_d3_22 : decode method_2_code 22 = .ok (.lcmp, 1) := by decide +kernel
theorem own_d3_23 : decode method_2_code 23 = .ok (.ifCond .ge 9, 3) := by decide +kernel
theorem own_d3_26 : decode method_2_code 26 = .ok (.lload 4, 2) := by decide +kernel
theorem own_d3_28 : decode method_2_code 28 = .ok (.lconst 1, 1) := by decide +kernel
theorem own_d3_29 : decode method_2_code 29 = .ok (.ladd, 1) := by decide +kernel
theorem own_d3_30 : decode method_2_code 30 = .ok (.lstore 4, 2) := by decide +kernel
theorem own_d3_32 : decode method_2_code 32 = .ok (.lload 4, 2) := by decide +kernel
theorem own_d3_34 : decode method_2_code 34 = .ok (.ldc2_w 9, 3) := by decide +kernel
theorem own_d3_37 : decode method_2_code 37 = .ok (.lmul, 1) := by decide +kernel
theorem own_d3_38 : decode method_2_code 38 = .ok (.lload_n 0, 1) := by decide +kernel
theorem own_d3_39 : decode method_2_code 39 = .ok (.invokestatic 11, 3) := by decide +kernel
theorem own_d3_42 : decode method_2_code 42 = .ok (.lreturn, 1) := by decide +kernel
def own_R3 : Room := { frames := 1, cells := 0, slots := 0, locals := 15 }
def f3_32 (v0 : Int64) (v4 : Int64) : Int64 := (f1_0 (v4 * (50 : Int64)) v0)
set_option maxRecDepth 65536 in
set_option maxHeartbeats 4000000 in
theorem w3_32 {Z : State} {a0 : Array Value} {p : Program} {l : Launch} {e : Env} {s : State} {m : MethodId} {args : Array Value} {below : List Frame} {meth : Method} {c : Code} {T : State} {h : Heap} {n0 : Nat} {u2 : Int64} (C : own_Cx Z a0 p l e own_R3 s m args below meth c "com/example/fit50/fit50/engine/AutoscalerScalePinLaw" "target" method_2_code 6 (some .long)) (A : own_At p l e own_R3 s m args below meth c T h n0 0 0) (v0 : Int64) (v4 : Int64) :
    own_Go p.tables e below (T.setTop (mkF m 32 #[.val (.long v0), .second, .val (.long u2), .second, .val (.long v4), .second] [])) (own_QR s n0 0 0 (own_RJ h (f3_32 v0 v4))) := by
  unfold f3_32
  refine own_lload C A own_d3_32 rfl rfl ?_
  refine own_ldcJ C A (own_w C 0 rfl) own_d3_34 rfl ?_
  refine own_lmul C A own_d3_37 rfl ?_
  refine own_lloadN C A own_d3_38 rfl rfl ?_
  refine own_callSJ C A 0 [(.long (v4 * (50 : Int64))), (.long v0)] [] (own_w C 3 rfl) (own_w C 4 rfl) (own_w C 5 rfl) (own_w C 6 rfl) (by decide) (rm1 l Z a0 C.2.2.2.2.2.2.2.2 [] (v4 * (50 : Int64)) v0 _ _ (own_size A)) rfl rfl (by decide) (by decide) (by decide) (by decide) own_pd0 rfl rfl rfl (Nat.le_of_eq rfl) rfl own_d3_39 rfl (fun T A => ?_)
  exact own_retJ C A own_d3_42 ⟨rfl, rfl⟩
def f3_0 (v0 : Int64) (v2 : Int64) : Int64 := (if (0 : Int64) < v2 then (if ((v2 / (50000 : Int64)) * (50000 : Int64)) < v2 then (f3_32 v0 ((v2 / (50000 : Int64)) + (1 : Int64))) else (f3_32 v0 (v2 / (50000 : Int64)))) else (0 : Int64))
set_option maxRecDepth 65536 in
set_option maxHeartbeats 4000000 in
theorem w3_0 {Z : State} {a0 : Array Value} {p : Program} {l : Launch} {e : Env} {s : State} {m : MethodId} {args : Array Value} {below : List Frame} {meth : Method} {c : Code} {T : State} {h : Heap} {n0 : Nat}  (C : own_Cx Z a0 p l e own_R3 s m args below meth c "com/example/fit50/fit50/engine/AutoscalerScalePinLaw" "target" method_2_code 6 (some .long)) (A : own_At p l e own_R3 s m args below meth c T h n0 0 0) (v0 : Int64) (v2 : Int64) :
    own_Go p.tables e below (T.setTop (mkF m 0 #[.val (.long v0), .second, .val (.long v2), .second, .unset, .unset] [])) (own_QR s n0 0 0 (own_RJ h (f3_0 v0 v2))) := by
  unfold f3_0
  refine own_lloadN C A own_d3_0 rfl rfl ?_
  refine own_lconst C A own_d3_1 (v := 0) rfl rfl ?_
  refine own_lcmp C A own_d3_2 rfl ?_
  refine own_ite (fun hc3 => ?_) (fun hc3 => ?_)
  · refine own_ifY C A own_d3_3 (Jvm.Free.XT.ll_gt_t hc3) (by decide) (q := 8) (by decide) ?_
    refine own_lloadN C A own_d3_8 rfl rfl ?_
    refine own_ldcJ C A (own_w C 34 rfl) own_d3_9 rfl ?_
    refine own_ldiv C A own_d3_12 (by decide) rfl ?_
    refine own_lstore C A own_d3_13 (l' := #[.val (.long v0), .second, .val (.long v2), .second, .val (.long (v2 / (50000 : Int64))), .second]) rfl rfl ?_
    refine own_lload C A own_d3_15 rfl rfl ?_
    refine own_ldcJ C A (own_w C 34 rfl) own_d3_17 rfl ?_
    refine own_lmul C A own_d3_20 rfl ?_
    refine own_lloadN C A own_d3_21 rfl rfl ?_
    refine own_lcmp C A own_d3_22 rfl ?_
    refine own_ite (fun hc23 => ?_) (fun hc23 => ?_)
    · refine own_ifN C A own_d3_23 (Jvm.Free.XT.ll_ge_f hc23) rfl ?_
      refine own_lload C A own_d3_26 rfl rfl ?_
      refine own_lconst C A own_d3_28 (v := 1) rfl rfl ?_
      refine own_ladd C A own_d3_29 rfl ?_
      refine own_lstore C A own_d3_30 (l' := #[.val (.long v0), .second, .val (.long v2), .second, .val (.long ((v2 / (50000 : Int64)) + (1 : Int64))), .second]) rfl rfl ?_
      exact w3_32 C A v0 ((v2 / (50000 : Int64)) + (1 : Int64))
    · refine own_ifY C A own_d3_23 (Jvm.Free.XT.ll_ge_t hc23) (by decide) (q := 32) (by decide) ?_
      exact w3_32 C A v0 (v2 / (50000 : Int64))
  · refine own_ifN C A own_d3_3 (Jvm.Free.XT.ll_gt_f hc3) rfl ?_
    refine own_lconst C A own_d3_6 (v := 0) rfl rfl ?_
    exact own_retJ C A own_d3_7 ⟨rfl, rfl⟩
theorem own_ef3 (m : MethodId) (v0 : Int64) (v2 : Int64) : entryFrame m #[(.long v0), (.long v2)] 6 = mkF m 0 #[.val (.long v0), .second, .val (.long v2), .second, .unset, .unset] [] := by first | (simp [entryFrame, mkF, argsToLocals, Value.category]; done) | rfl
theorem rm3 (l : Launch) (Z : State) (a0 : Array Value) (hw : ∀ d ∈ tables_1, d.before a0 Z = true) (ws : List Jvm.Cond) (v0 : Int64) (v2 : Int64) (h : Heap) (n0 : Nat) (hn : n0 ≤ h.size) :
    MetFree l (⟨"com/example/fit50/fit50/engine/AutoscalerScalePinLaw", "target", "(JJ)J"⟩ : MethodName) (head1 (Jvm.Cond.code (⟨"com/example/fit50/fit50/engine/AutoscalerScalePinLaw", "target", "(JJ)J"⟩ : MethodName) method_2_code 6 (some .long) :: ws) own_R3) (fun a U => a = #[(.long v0), (.long v2)] ∧ Z.Warmed39 U.vm ∧ U.heap = h) (fun _ _ _ _ _ => True) (fun _ U o U' => own_QR U n0 0 0 (own_RJ h (f3_0 v0 v2)) o U') :=
  own_met (plainFor_of_name (by first | (simp [plainName, overriddenIn]; done) | decide +kernel)) hw hn (fun m => own_ef3 m v0 v2) (fun p e s m below meth c T C A => w3_0 C A v0 v2)
/-! Autoscaler.scale -/
theorem own_d4_0 : decode prog_3_method_3_code 0 = .ok (.lconst 0, 1) := by decide +kernel
theorem own_d4_1 : decode prog_3_method_3_code 1 = .ok (.lstore 5, 2) := by decide +kernel
theorem own_d4_3 : decode prog_3_method_3_code 3 = .ok (.lload_n 3, 1) := by decide +kernel
theorem own_d4_4 : decode prog_3_method_3_code 4 = .ok (.lconst 0, 1) := by decide +kernel
theorem own_d4_5 : decode prog_3_method_3_code 5 = .ok (.lcmp, 1) := by decide +kernel
theorem own_d4_6 : decode prog_3_method_3_code 6 = .ok (.ifCond .le 29, 3) := by decide +kernel
theorem own_d4_9 : decode prog_3_method_3_code 9 = .ok (.lload_n 3, 1) := by decide +kernel
theorem own_d4_10 : decode prog_3_method_3_code 10 = .ok (.lconst 1, 1) := by decide +kernel
theorem own_d4_11 : decode prog_3_method_3_code 11 = .ok (.lsub, 1) := by decide +kernel
theorem own_d4_12 : decode prog_3_method_3_code 12 = .ok (.ldc2_w 18, 3) := by decide +kernel
theorem own_d4_15 : decode prog_3_method_3_code 15 = .ok (.ldiv, 1) := by decide +kernel
theorem own_d4_16 : decode prog_3_method_3_code 16 = .ok (.lconst 1, 1) := by decide +kernel
theorem own_d4_17 : decode prog_3_method_3_code 17 = .ok (.ladd, 1) := by decide +kernel
theorem own_d4_18 : decode prog_3_method_3_code 18 = .ok (.lstore 7, 2) := by decide +kernel
theorem own_d4_20 : decode prog_3_method_3_code 20 = .ok (.lload 7, 2) := by decide +kernel
theorem own_d4_22 : decode prog_3_method_3_code 22 = .ok (.ldc2_w 20, 3) := by decide +kernel
theorem own_d4_25 : decode prog_3_method_3_code 25 = .ok (.lmul, 1) := by decide +kernel
theorem own_d4_26 : decode prog_3_method_3_code 26 = .ok (.aload_n 0, 1) := by decide +kernel
theorem own_d4_27 : decode prog_3_method_3_code 27 = .ok (.getfield 9, 3) := by decide +kernel
theorem own_d4_30 : decode prog_3_method_3_code 30 = .ok (.invokestatic 22, 3) := by decide +kernel
theorem own_d4_33 : decode prog_3_method_3_code 33 = .ok (.lstore 5, 2) := by decide +kernel
theorem own_d4_35 : decode prog_3_method_3_code 35 = .ok (.lload 5, 2) := by decide +kernel
theorem own_d4_37 : decode prog_3_method_3_code 37 = .ok (.aload_n 0, 1) := by decide +kernel
theorem own_d4_38 : decode prog_3_method_3_code 38 = .ok (.getfield 15, 3) := by decide +kernel
theorem own_d4_41 : decode prog_3_method_3_code 41 = .ok (.lcmp, 1) := by decide +kernel
theorem own_d4_42 : decode prog_3_method_3_code 42 = .ok (.ifCond .le 17, 3) := by decide +kernel
theorem own_d4_45 : decode prog_3_method_3_code 45 = .ok (.aload_n 0, 1) := by decide +kernel
theorem own_d4_46 : decode prog_3_method_3_code 46 = .ok (.lload 5, 2) := by decide +kernel
theorem own_d4_48 : decode prog_3_method_3_code 48 = .ok (.putfield 15, 3) := by decide +kernel
theorem own_d4_51 : decode prog_3_method_3_code 51 = .ok (.aload_n 0, 1) := by decide +kernel
theorem own_d4_52 : decode prog_3_method_3_code 52 = .ok (.lload_n 1, 1) := by decide +kernel
theorem own_d4_53 : decode prog_3_method_3_code 53 = .ok (.putfield 28, 3) := by decide +kernel
theorem own_d4_56 : decode prog_3_method_3_code 56 = .ok (.goto 32, 3) := by decide +kernel
theorem own_d4_59 : decode prog_3_method_3_code 59 = .ok (.lload 5, 2) := by decide +kernel
theorem own_d4_61 : decode prog_3_method_3_code 61 = .ok (.aload_n 0, 1) := by decide +kernel
theorem own_d4_62 : decode prog_3_method_3_code 62 = .ok (.getfield 15, 3) := by decide +kernel
theorem own_d4_65 : decode prog_3_method_3_code 65 = .ok (.lcmp, 1) := by decide +kernel
theorem own_d4_66 : decode prog_3_method_3_code 66 = .ok (.ifCond .ge 22, 3) := by decide +kernel
theorem own_d4_69 : decode prog_3_method_3_code 69 = .ok (.lload_n 1, 1) := by decide +kernel
theorem own_d4_70 : decode prog_3_method_3_code 70 = .ok (.aload_n 0, 1) := by decide +kernel
theorem own_d4_71 : decode prog_3_method_3_code 71 = .ok (.getfield 28, 3) := by decide +kernel
theorem own_d4_74 : decode prog_3_method_3_code 74 = .ok (.lsub, 1) := by decide +kernel
theorem own_d4_75 : decode prog_3_method_3_code 75 = .ok (.ldc2_w 31, 3) := by decide +kernel
theorem own_d4_78 : decode prog_3_method_3_code 78 = .ok (.lcmp, 1) := by decide +kernel
theorem own_d4_79 : decode prog_3_method_3_code 79 = .ok (.ifCond .lt 9, 3) := by decide +kernel
theorem own_d4_82 : decode prog_3_method_3_code 82 = .ok (.aload_n 0, 1) := by decide +kernel
theorem own_d4_83 : decode prog_3_method_3_code 83 = .ok (.lload 5, 2) := by decide +kernel
theorem own_d4_85 : decode prog_3_method_3_code 85 = .ok (.putfield 15, 3) := by decide +kernel
theorem own_d4_88 : decode prog_3_method_3_code 88 = .ok (.aload_n 0, 1) := by decide +kernel
theorem own_d4_89 : decode prog_3_method_3_code 89 = .ok (.getfield 15, 3) := by decide +kernel
theorem own_d4_92 : decode prog_3_method_3_code 92 = .ok (.lreturn, 1) := by decide +kernel
def own_R4 : Room := { frames := 1, cells := 0, slots := 0, locals := 15 }
def own_P4 (Z : State) (h : Heap) (v0 : Addr) (r : Int64 × Int64 × Int64 × Int64) (v : Option Value) (h' : Heap) : Prop := v = some (.long r.1) ∧ Keep h h' [v0] ∧ Exa Z h' v0 "com/example/fit50/fit50/engine/Autoscaler" ∧ Fld Z h' v0 "com/example/fit50/fit50/engine/Autoscaler" "maxSlots" "J" (.long r.2.1) ∧ Fld Z h' v0 "com/example/fit50/fit50/engine/Autoscaler" "slots" "J" (.long r.2.2.1) ∧ Fld Z h' v0 "com/example/fit50/fit50/engine/Autoscaler" "lastIncrease" "J" (.long r.2.2.2)
def f4_88 (maxSlots_v0 : Int64) (slots_v0 : Int64) (lastIncrease_v0 : Int64) : Int64 × Int64 × Int64 × Int64 := (slots_v0, maxSlots_v0, slots_v0, lastIncrease_v0)
set_option maxRecDepth 65536 in
set_option maxHeartbeats 4000000 in
theorem w4_88 {Z : State} {a0 : Array Value} {p : Program} {l : Launch} {e : Env} {s : State} {m : MethodId} {args : Array Value} {below : List Frame} {meth : Method} {c : Code} {T : State} {h : Heap} {n0 : Nat} {hE : Heap} {v0 : Addr} {u1 : Int64} {u3 : Int64} {u5 : Int64} {u7 : Slot} {u8 : Slot} (C : own_Cx Z a0 p l e own_R4 s m args below meth c "com/example/fit50/fit50/engine/Autoscaler" "scale" prog_3_method_3_code 9 (some .long)) (A : own_At p l e own_R4 s m args below meth c T h n0 0 0) (maxSlots_v0 : Int64) (slots_v0 : Int64) (lastIncrease_v0 : Int64) (F_maxSlots_v0 : Fld Z h v0 "com/example/fit50/fit50/engine/Autoscaler" "maxSlots" "J" (.long maxSlots_v0)) (F_slots_v0 : Fld Z h v0 "com/example/fit50/fit50/engine/Autoscaler" "slots" "J" (.long slots_v0)) (F_lastIncrease_v0 : Fld Z h v0 "com/example/fit50/fit50/engine/Autoscaler" "lastIncrease" "J" (.long lastIncrease_v0)) (E_v0 : Exa Z h v0 "com/example/fit50/fit50/engine/Autoscaler") (g_v0 : n0 ≤ v0) (K : Keep hE h [v0]) :
    own_Go p.tables e below (T.setTop (mkF m 88 #[.val (.ref v0), .val (.long u1), .second, .val (.long u3), .second, .val (.long u5), .second, u7, u8] [])) (own_QR s n0 0 0 (own_P4 Z hE v0 (f4_88 maxSlots_v0 slots_v0 lastIncrease_v0))) := by
  unfold f4_88
  refine own_aloadN C A own_d4_88 rfl rfl rfl ?_
  refine own_getF C A (own_w C 27 rfl) F_slots_v0 own_d4_89 rfl (fun T A => ?_)
  exact own_retJ C A own_d4_92 ⟨rfl, K, E_v0, F_maxSlots_v0, F_slots_v0, F_lastIncrease_v0⟩
def f4_35 (v1 : Int64) (v5 : Int64) (maxSlots_v0 : Int64) (slots_v0 : Int64) (lastIncrease_v0 : Int64) : Int64 × Int64 × Int64 × Int64 := (if slots_v0 < v5 then (f4_88 maxSlots_v0 v5 v1) else (if v5 < slots_v0 then (if (v1 - lastIncrease_v0) < (61 : Int64) then (f4_88 maxSlots_v0 slots_v0 lastIncrease_v0) else (f4_88 maxSlots_v0 v5 lastIncrease_v0)) else (f4_88 maxSlots_v0 slots_v0 lastIncrease_v0)))
set_option maxRecDepth 65536 in
set_option maxHeartbeats 4000000 in
theorem w4_35 {Z : State} {a0 : Array Value} {p : Program} {l : Launch} {e : Env} {s : State} {m : MethodId} {args : Array Value} {below : List Frame} {meth : Method} {c : Code} {T : State} {h : Heap} {n0 : Nat} {hE : Heap} {v0 : Addr} {u3 : Int64} {u7 : Slot} {u8 : Slot} (C : own_Cx Z a0 p l e own_R4 s m args below meth c "com/example/fit50/fit50/engine/Autoscaler" "scale" prog_3_method_3_code 9 (some .long)) (A : own_At p l e own_R4 s m args below meth c T h n0 0 0) (v1 : Int64) (v5 : Int64) (maxSlots_v0 : Int64) (slots_v0 : Int64) (lastIncrease_v0 : Int64) (F_maxSlots_v0 : Fld Z h v0 "com/example/fit50/fit50/engine/Autoscaler" "maxSlots" "J" (.long maxSlots_v0)) (F_slots_v0 : Fld Z h v0 "com/example/fit50/fit50/engine/Autoscaler" "slots" "J" (.long slots_v0)) (F_lastIncrease_v0 : Fld Z h v0 "com/example/fit50/fit50/engine/Autoscaler" "lastIncrease" "J" (.long lastIncrease_v0)) (E_v0 : Exa Z h v0 "com/example/fit50/fit50/engine/Autoscaler") (g_v0 : n0 ≤ v0) (K : Keep hE h [v0]) :
    own_Go p.tables e below (T.setTop (mkF m 35 #[.val (.ref v0), .val (.long v1), .second, .val (.long u3), .second, .val (.long v5), .second, u7, u8] [])) (own_QR s n0 0 0 (own_P4 Z hE v0 (f4_35 v1 v5 maxSlots_v0 slots_v0 lastIncrease_v0))) := by
  unfold f4_35
  refine own_lload C A own_d4_35 rfl rfl ?_
  refine own_aloadN C A own_d4_37 rfl rfl rfl ?_
  refine own_getF C A (own_w C 27 rfl) F_slots_v0 own_d4_38 rfl (fun T A => ?_)
  refine own_lcmp C A own_d4_41 rfl ?_
  refine own_ite (fun hc42 => ?_) (fun hc42 => ?_)
  · refine own_ifN C A own_d4_42 (Jvm.Free.XT.ll_le_f hc42) rfl ?_
    refine own_aloadN C A own_d4_45 rfl rfl rfl ?_
    refine own_lload C A own_d4_46 rfl rfl ?_
    refine own_putF C A .long (own_w C 27 rfl) F_slots_v0 E_v0 (Or.inl (own_w C 28 rfl)) (own_w C 8 rfl) (by decide) rfl rfl g_v0 own_d4_48 rfl (fun T h W A => ?_)
    have F_maxSlots_v0 := Fld.other W F_maxSlots_v0 (Or.inr (slot_ne (Or.inr (own_w C 17 rfl)) (Or.inl (own_w C 28 rfl)) (by decide) (by decide : parseFieldDescriptor _ = some .long) (by decide : parseFieldDescriptor _ = some .long)))
    have F_slots_v0 := Fld.same W F_slots_v0
    have F_lastIncrease_v0 := Fld.other W F_lastIncrease_v0 (Or.inr (slot_ne (Or.inl (own_w C 39 rfl)) (Or.inl (own_w C 28 rfl)) (by decide) (by decide : parseFieldDescriptor _ = some .long) (by decide : parseFieldDescriptor _ = some .long)))
    have E_v0 := Exa.wr W E_v0
    have K := K.wr W (Or.inl (List.mem_of_getElem? (i := 0) rfl))
    refine own_aloadN C A own_d4_51 rfl rfl rfl ?_
    refine own_lloadN C A own_d4_52 rfl rfl ?_
    refine own_putF C A .long (own_w C 38 rfl) F_lastIncrease_v0 E_v0 (Or.inl (own_w C 39 rfl)) (own_w C 8 rfl) (by decide) rfl rfl g_v0 own_d4_53 rfl (fun T h W A => ?_)
    have F_maxSlots_v0 := Fld.other W F_maxSlots_v0 (Or.inr (slot_ne (Or.inr (own_w C 17 rfl)) (Or.inl (own_w C 39 rfl)) (by decide) (by decide : parseFieldDescriptor _ = some .long) (by decide : parseFieldDescriptor _ = some .long)))
    have F_slots_v0 := Fld.other W F_slots_v0 (Or.inr (slot_ne (Or.inl (own_w C 28 rfl)) (Or.inl (own_w C 39 rfl)) (by decide) (by decide : parseFieldDescriptor _ = some .long) (by decide : parseFieldDescriptor _ = some .long)))
    have F_lastIncrease_v0 := Fld.same W F_lastIncrease_v0
    have E_v0 := Exa.wr W E_v0
    have K := K.wr W (Or.inl (List.mem_of_getElem? (i := 0) rfl))
    refine own_goto C A own_d4_56 (by decide) (q := 88) (by decide) ?_
    exact w4_88 C A maxSlots_v0 v5 v1 F_maxSlots_v0 F_slots_v0 F_lastIncrease_v0 E_v0 g_v0 K
  · refine own_ifY C A own_d4_42 (Jvm.Free.XT.ll_le_t hc42) (by decide) (q := 59) (by decide) ?_
    refine own_lload C A own_d4_59 rfl rfl ?_
    refine own_aloadN C A own_d4_61 rfl rfl rfl ?_
    refine own_getF C A (own_w C 27 rfl) F_slots_v0 own_d4_62 rfl (fun T A => ?_)
    refine own_lcmp C A own_d4_65 rfl ?_
    refine own_ite (fun hc66 => ?_) (fun hc66 => ?_)
    · refine own_ifN C A own_d4_66 (Jvm.Free.XT.ll_ge_f hc66) rfl ?_
      refine own_lloadN C A own_d4_69 rfl rfl ?_
      refine own_aloadN C A own_d4_70 rfl rfl rfl ?_
      refine own_getF C A (own_w C 38 rfl) F_lastIncrease_v0 own_d4_71 rfl (fun T A => ?_)
      refine own_lsub C A own_d4_74 rfl ?_
      refine own_ldcJ C A (own_w C 41 rfl) own_d4_75 rfl ?_
      refine own_lcmp C A own_d4_78 rfl ?_
      refine own_ite (fun hc79 => ?_) (fun hc79 => ?_)
      · refine own_ifY C A own_d4_79 (Jvm.Free.XT.ll_lt_t hc79) (by decide) (q := 88) (by decide) ?_
        exact w4_88 C A maxSlots_v0 slots_v0 lastIncrease_v0 F_maxSlots_v0 F_slots_v0 F_lastIncrease_v0 E_v0 g_v0 K
      · refine own_ifN C A own_d4_79 (Jvm.Free.XT.ll_lt_f hc79) rfl ?_
        refine own_aloadN C A own_d4_82 rfl rfl rfl ?_
        refine own_lload C A own_d4_83 rfl rfl ?_
        refine own_putF C A .long (own_w C 27 rfl) F_slots_v0 E_v0 (Or.inl (own_w C 28 rfl)) (own_w C 8 rfl) (by decide) rfl rfl g_v0 own_d4_85 rfl (fun T h W A => ?_)
        have F_maxSlots_v0 := Fld.other W F_maxSlots_v0 (Or.inr (slot_ne (Or.inr (own_w C 17 rfl)) (Or.inl (own_w C 28 rfl)) (by decide) (by decide : parseFieldDescriptor _ = some .long) (by decide : parseFieldDescriptor _ = some .long)))
        have F_slots_v0 := Fld.same W F_slots_v0
        have F_lastIncrease_v0 := Fld.other W F_lastIncrease_v0 (Or.inr (slot_ne (Or.inl (own_w C 39 rfl)) (Or.inl (own_w C 28 rfl)) (by decide) (by decide : parseFieldDescriptor _ = some .long) (by decide : parseFieldDescriptor _ = some .long)))
        have E_v0 := Exa.wr W E_v0
        have K := K.wr W (Or.inl (List.mem_of_getElem? (i := 0) rfl))
        exact w4_88 C A maxSlots_v0 v5 lastIncrease_v0 F_maxSlots_v0 F_slots_v0 F_lastIncrease_v0 E_v0 g_v0 K
    · refine own_ifY C A own_d4_66 (Jvm.Free.XT.ll_ge_t hc66) (by decide) (q := 88) (by decide) ?_
      exact w4_88 C A maxSlots_v0 slots_v0 lastIncrease_v0 F_maxSlots_v0 F_slots_v0 F_lastIncrease_v0 E_v0 g_v0 K
def f4_0 (v1 : Int64) (v3 : Int64) (maxSlots_v0 : Int64) (slots_v0 : Int64) (lastIncrease_v0 : Int64) : Int64 × Int64 × Int64 × Int64 := (if (0 : Int64) < v3 then (f4_35 v1 (f1_0 ((((v3 - (1 : Int64)) / (50000 : Int64)) + (1 : Int64)) * (50 : Int64)) maxSlots_v0) maxSlots_v0 slots_v0 lastIncrease_v0) else (f4_35 v1 (0 : Int64) maxSlots_v0 slots_v0 lastIncrease_v0))
set_option maxRecDepth 65536 in
set_option maxHeartbeats 4000000 in
theorem w4_0 {Z : State} {a0 : Array Value} {p : Program} {l : Launch} {e : Env} {s : State} {m : MethodId} {args : Array Value} {below : List Frame} {meth : Method} {c : Code} {T : State} {h : Heap} {n0 : Nat} {hE : Heap} {v0 : Addr} (C : own_Cx Z a0 p l e own_R4 s m args below meth c "com/example/fit50/fit50/engine/Autoscaler" "scale" prog_3_method_3_code 9 (some .long)) (A : own_At p l e own_R4 s m args below meth c T h n0 0 0) (v1 : Int64) (v3 : Int64) (maxSlots_v0 : Int64) (slots_v0 : Int64) (lastIncrease_v0 : Int64) (F_maxSlots_v0 : Fld Z h v0 "com/example/fit50/fit50/engine/Autoscaler" "maxSlots" "J" (.long maxSlots_v0)) (F_slots_v0 : Fld Z h v0 "com/example/fit50/fit50/engine/Autoscaler" "slots" "J" (.long slots_v0)) (F_lastIncrease_v0 : Fld Z h v0 "com/example/fit50/fit50/engine/Autoscaler" "lastIncrease" "J" (.long lastIncrease_v0)) (E_v0 : Exa Z h v0 "com/example/fit50/fit50/engine/Autoscaler") (g_v0 : n0 ≤ v0) (K : Keep hE h [v0]) :
    own_Go p.tables e below (T.setTop (mkF m 0 #[.val (.ref v0), .val (.long v1), .second, .val (.long v3), .second, .unset, .unset, .unset, .unset] [])) (own_QR s n0 0 0 (own_P4 Z hE v0 (f4_0 v1 v3 maxSlots_v0 slots_v0 lastIncrease_v0))) := by
  unfold f4_0
  refine own_lconst C A own_d4_0 (v := 0) rfl rfl ?_
  refine own_lstore C A own_d4_1 (l' := #[.val (.ref v0), .val (.long v1), .second, .val (.long v3), .second, .val (.long (0 : Int64)), .second, .unset, .unset]) rfl rfl ?_
  refine own_lloadN C A own_d4_3 rfl rfl ?_
  refine own_lconst C A own_d4_4 (v := 0) rfl rfl ?_
  refine own_lcmp C A own_d4_5 rfl ?_
  refine own_ite (fun hc6 => ?_) (fun hc6 => ?_)
  · refine own_ifN C A own_d4_6 (Jvm.Free.XT.ll_le_f hc6) rfl ?_
    refine own_lloadN C A own_d4_9 rfl rfl ?_
    refine own_lconst C A own_d4_10 (v := 1) rfl rfl ?_
    refine own_lsub C A own_d4_11 rfl ?_
    refine own_ldcJ C A (own_w C 35 rfl) own_d4_12 rfl ?_
    refine own_ldiv C A own_d4_15 (by decide) rfl ?_
    refine own_lconst C A own_d4_16 (v := 1) rfl rfl ?_
    refine own_ladd C A own_d4_17 rfl ?_
    refine own_lstore C A own_d4_18 (l' := #[.val (.ref v0), .val (.long v1), .second, .val (.long v3), .second, .val (.long (0 : Int64)), .second, .val (.long (((v3 - (1 : Int64)) / (50000 : Int64)) + (1 : Int64))), .second]) rfl rfl ?_
    refine own_lload C A own_d4_20 rfl rfl ?_
    refine own_ldcJ C A (own_w C 36 rfl) own_d4_22 rfl ?_
    refine own_lmul C A own_d4_25 rfl ?_
    refine own_aloadN C A own_d4_26 rfl rfl rfl ?_
    refine own_getF C A (own_w C 16 rfl) F_maxSlots_v0 own_d4_27 rfl (fun T A => ?_)
    refine own_callSJ C A 0 [(.long ((((v3 - (1 : Int64)) / (50000 : Int64)) + (1 : Int64)) * (50 : Int64))), (.long maxSlots_v0)] [] (own_w C 37 rfl) (own_w C 4 rfl) (own_w C 5 rfl) (own_w C 6 rfl) (by decide) (rm1 l Z a0 C.2.2.2.2.2.2.2.2 [] ((((v3 - (1 : Int64)) / (50000 : Int64)) + (1 : Int64)) * (50 : Int64)) maxSlots_v0 _ _ (own_size A)) rfl rfl (by decide) (by decide) (by decide) (by decide) own_pd0 rfl rfl rfl (Nat.le_of_eq rfl) rfl own_d4_30 rfl (fun T A => ?_)
    refine own_lstore C A own_d4_33 (l' := #[.val (.ref v0), .val (.long v1), .second, .val (.long v3), .second, .val (.long (f1_0 ((((v3 - (1 : Int64)) / (50000 : Int64)) + (1 : Int64)) * (50 : Int64)) maxSlots_v0)), .second, .val (.long (((v3 - (1 : Int64)) / (50000 : Int64)) + (1 : Int64))), .second]) rfl rfl ?_
    exact w4_35 C A v1 (f1_0 ((((v3 - (1 : Int64)) / (50000 : Int64)) + (1 : Int64)) * (50 : Int64)) maxSlots_v0) maxSlots_v0 slots_v0 lastIncrease_v0 F_maxSlots_v0 F_slots_v0 F_lastIncrease_v0 E_v0 g_v0 K
  · refine own_ifY C A own_d4_6 (Jvm.Free.XT.ll_le_t hc6) (by decide) (q := 35) (by decide) ?_
    exact w4_35 C A v1 (0 : Int64) maxSlots_v0 slots_v0 lastIncrease_v0 F_maxSlots_v0 F_slots_v0 F_lastIncrease_v0 E_v0 g_v0 K
theorem own_ef4 (m : MethodId) (v0 : Addr) (v1 : Int64) (v3 : Int64) : entryFrame m #[(.ref v0), (.long v1), (.long v3)] 9 = mkF m 0 #[.val (.ref v0), .val (.long v1), .second, .val (.long v3), .second, .unset, .unset, .unset, .unset] [] := by first | (simp [entryFrame, mkF, argsToLocals, Value.category]; done) | rfl
theorem rm4 (l : Launch) (Z : State) (a0 : Array Value) (hw : ∀ d ∈ tables_1, d.before a0 Z = true) (ws : List Jvm.Cond) (v0 : Addr) (v1 : Int64) (v3 : Int64) (maxSlots_v0 : Int64) (slots_v0 : Int64) (lastIncrease_v0 : Int64) (h : Heap) (n0 : Nat) (hn : n0 ≤ h.size) (F_maxSlots_v0 : Fld Z h v0 "com/example/fit50/fit50/engine/Autoscaler" "maxSlots" "J" (.long maxSlots_v0)) (F_slots_v0 : Fld Z h v0 "com/example/fit50/fit50/engine/Autoscaler" "slots" "J" (.long slots_v0)) (F_lastIncrease_v0 : Fld Z h v0 "com/example/fit50/fit50/engine/Autoscaler" "lastIncrease" "J" (.long lastIncrease_v0)) (E_v0 : Exa Z h v0 "com/example/fit50/fit50/engine/Autoscaler") (g_v0 : n0 ≤ v0) :
    MetFree l (⟨"com/example/fit50/fit50/engine/Autoscaler", "scale", "(JJ)J"⟩ : MethodName) (head1 (Jvm.Cond.code (⟨"com/example/fit50/fit50/engine/Autoscaler", "scale", "(JJ)J"⟩ : MethodName) prog_3_method_3_code 9 (some .long) :: ws) own_R4) (fun a U => a = #[(.ref v0), (.long v1), (.long v3)] ∧ Z.Warmed39 U.vm ∧ U.heap = h) (fun _ _ _ _ _ => True) (fun _ U o U' => own_QR U n0 0 0 (own_P4 Z h v0 (f4_0 v1 v3 maxSlots_v0 slots_v0 lastIncrease_v0)) o U') :=
  own_met (plainFor_of_name (by first | (simp [plainName, overriddenIn]; done) | decide +kernel)) hw hn (fun m => own_ef4 m v0 v1 v3) (fun p e s m below meth c T C A => w4_0 C A v1 v3 maxSlots_v0 slots_v0 lastIncrease_v0 F_maxSlots_v0 F_slots_v0 F_lastIncrease_v0 E_v0 g_v0 (Keep.refl h _))
/-! Autoscaler.slots -/
theorem own_d5_0 : decode prog_3_method_2_code 0 = .ok (.aload_n 0, 1) := by decide +kernel
theorem own_d5_1 : decode prog_3_method_2_code 1 = .ok (.getfield 15, 3) := by decide +kernel
theorem own_d5_4 : decode prog_3_method_2_code 4 = .ok (.lreturn, 1) := by decide +kernel
def own_R5 : Room := { frames := 0, cells := 0, slots := 0, locals := 0 }
def f5_0 (maxSlots_v0 : Int64) (slots_v0 : Int64) (lastIncrease_v0 : Int64) : Int64 := slots_v0
set_option maxRecDepth 65536 in
set_option maxHeartbeats 4000000 in
theorem w5_0 {Z : State} {a0 : Array Value} {p : Program} {l : Launch} {e : Env} {s : State} {m : MethodId} {args : Array Value} {below : List Frame} {meth : Method} {c : Code} {T : State} {h : Heap} {n0 : Nat} {v0 : Addr} (C : own_Cx Z a0 p l e own_R5 s m args below meth c "com/example/fit50/fit50/engine/Autoscaler" "slots" prog_3_method_2_code 1 (some .long)) (A : own_At p l e own_R5 s m args below meth c T h n0 0 0) (maxSlots_v0 : Int64) (slots_v0 : Int64) (lastIncrease_v0 : Int64) (F_maxSlots_v0 : Fld Z h v0 "com/example/fit50/fit50/engine/Autoscaler" "maxSlots" "J" (.long maxSlots_v0)) (F_slots_v0 : Fld Z h v0 "com/example/fit50/fit50/engine/Autoscaler" "slots" "J" (.long slots_v0)) (F_lastIncrease_v0 : Fld Z h v0 "com/example/fit50/fit50/engine/Autoscaler" "lastIncrease" "J" (.long lastIncrease_v0)) (E_v0 : Exa Z h v0 "com/example/fit50/fit50/engine/Autoscaler") :
    own_Go p.tables e below (T.setTop (mkF m 0 #[.val (.ref v0)] [])) (own_QR s n0 0 0 (own_RJ h (f5_0 maxSlots_v0 slots_v0 lastIncrease_v0))) := by
  unfold f5_0
  refine own_aloadN C A own_d5_0 rfl rfl rfl ?_
  refine own_getF C A (own_w C 27 rfl) F_slots_v0 own_d5_1 rfl (fun T A => ?_)
  exact own_retJ C A own_d5_4 ⟨rfl, rfl⟩
theorem own_ef5 (m : MethodId) (v0 : Addr) : entryFrame m #[(.ref v0)] 1 = mkF m 0 #[.val (.ref v0)] [] := by first | (simp [entryFrame, mkF, argsToLocals, Value.category]; done) | rfl
theorem rm5 (l : Launch) (Z : State) (a0 : Array Value) (hw : ∀ d ∈ tables_1, d.before a0 Z = true) (ws : List Jvm.Cond) (v0 : Addr) (maxSlots_v0 : Int64) (slots_v0 : Int64) (lastIncrease_v0 : Int64) (h : Heap) (n0 : Nat) (hn : n0 ≤ h.size) (F_maxSlots_v0 : Fld Z h v0 "com/example/fit50/fit50/engine/Autoscaler" "maxSlots" "J" (.long maxSlots_v0)) (F_slots_v0 : Fld Z h v0 "com/example/fit50/fit50/engine/Autoscaler" "slots" "J" (.long slots_v0)) (F_lastIncrease_v0 : Fld Z h v0 "com/example/fit50/fit50/engine/Autoscaler" "lastIncrease" "J" (.long lastIncrease_v0)) (E_v0 : Exa Z h v0 "com/example/fit50/fit50/engine/Autoscaler") :
    MetFree l (⟨"com/example/fit50/fit50/engine/Autoscaler", "slots", "()J"⟩ : MethodName) (head1 (Jvm.Cond.code (⟨"com/example/fit50/fit50/engine/Autoscaler", "slots", "()J"⟩ : MethodName) prog_3_method_2_code 1 (some .long) :: ws) own_R5) (fun a U => a = #[(.ref v0)] ∧ Z.Warmed39 U.vm ∧ U.heap = h) (fun _ _ _ _ _ => True) (fun _ U o U' => own_QR U n0 0 0 (own_RJ h (f5_0 maxSlots_v0 slots_v0 lastIncrease_v0)) o U') :=
  own_met (plainFor_of_name (by first | (simp [plainName, overriddenIn]; done) | decide +kernel)) hw hn (fun m => own_ef5 m v0) (fun p e s m below meth c T C A => w5_0 C A maxSlots_v0 slots_v0 lastIncrease_v0 F_maxSlots_v0 F_slots_v0 F_lastIncrease_v0 E_v0)

/-! AutoscalerScalePinLaw.law -/
def f0_314 (s0 : Int32) : Int32 := (nar .boolean s0)
set_option maxRecDepth 65536 in
set_option maxHeartbeats 4000000 in
theorem w0_314 {Z : State} {a0 : Array Value} {p : Program} {l : Launch} {e : Env} {s : State} {m : MethodId} {args : Array Value} {below : List Frame} {meth : Method} {c : Code} {T : State} {h : Heap} {n0 : Nat} {u0 : Int64} {u2 : Int64} {u4 : Int64} {u6 : Int64} {u8 : Int64} {u10 : Int32} {u11 : Int64} {u13 : Int64} {u15 : Int64} {u17 : Int64} {v19 : Addr} {u20 : Int64} {u22 : Int64} {u24 : Int64} {u26 : Int64} {u28 : Int32} {u29 : Int64} {u31 : Int64} {u33 : Int64} {u35 : Int64} {u37 : Int64} {u39 : Int64} (C : own_Cx Z a0 p l e room_1 s m args below meth c "com/example/fit50/fit50/engine/AutoscalerScalePinLaw" "law" code maxLocals ret) (A : own_At p l e room_1 s m args below meth c T h n0 1 3) (s0 : Int32) :
    own_Go p.tables e below (T.setTop (mkF m 314 #[.val (.long u0), .second, .val (.long u2), .second, .val (.long u4), .second, .val (.long u6), .second, .val (.long u8), .second, .val (.int u10), .val (.long u11), .second, .val (.long u13), .second, .val (.long u15), .second, .val (.long u17), .second, .val (.ref v19), .val (.long u20), .second, .val (.long u22), .second, .val (.long u24), .second, .val (.long u26), .second, .val (.int u28), .val (.long u29), .second, .val (.long u31), .second, .val (.long u33), .second, .val (.long u35), .second, .val (.long u37), .second, .val (.long u39), .second] [(.int s0)])) (own_QR s n0 1 3 (own_RV (f0_314 s0))) := by
  unfold f0_314
  refine own_istore C A at_314 (l' := #[.val (.long u0), .second, .val (.long u2), .second, .val (.long u4), .second, .val (.long u6), .second, .val (.long u8), .second, .val (.int u10), .val (.long u11), .second, .val (.long u13), .second, .val (.long u15), .second, .val (.long u17), .second, .val (.ref v19), .val (.long u20), .second, .val (.long u22), .second, .val (.long u24), .second, .val (.long u26), .second, .val (.int s0), .val (.long u29), .second, .val (.long u31), .second, .val (.long u33), .second, .val (.long u35), .second, .val (.long u37), .second, .val (.long u39), .second]) rfl rfl ?_
  refine own_iload C A at_316 rfl rfl ?_
  exact own_retN C A (t := .boolean) (by simp) at_318 rfl
def f0_313  : Int32 := (f0_314 (0 : Int32))
set_option maxRecDepth 65536 in
set_option maxHeartbeats 4000000 in
theorem w0_313 {Z : State} {a0 : Array Value} {p : Program} {l : Launch} {e : Env} {s : State} {m : MethodId} {args : Array Value} {below : List Frame} {meth : Method} {c : Code} {T : State} {h : Heap} {n0 : Nat} {u0 : Int64} {u2 : Int64} {u4 : Int64} {u6 : Int64} {u8 : Int64} {u10 : Int32} {u11 : Int64} {u13 : Int64} {u15 : Int64} {u17 : Int64} {v19 : Addr} {u20 : Int64} {u22 : Int64} {u24 : Int64} {u26 : Int64} {u28 : Int32} {u29 : Int64} {u31 : Int64} {u33 : Int64} {u35 : Int64} {u37 : Int64} {u39 : Int64} (C : own_Cx Z a0 p l e room_1 s m args below meth c "com/example/fit50/fit50/engine/AutoscalerScalePinLaw" "law" code maxLocals ret) (A : own_At p l e room_1 s m args below meth c T h n0 1 3) :
    own_Go p.tables e below (T.setTop (mkF m 313 #[.val (.long u0), .second, .val (.long u2), .second, .val (.long u4), .second, .val (.long u6), .second, .val (.long u8), .second, .val (.int u10), .val (.long u11), .second, .val (.long u13), .second, .val (.long u15), .second, .val (.long u17), .second, .val (.ref v19), .val (.long u20), .second, .val (.long u22), .second, .val (.long u24), .second, .val (.long u26), .second, .val (.int u28), .val (.long u29), .second, .val (.long u31), .second, .val (.long u33), .second, .val (.long u35), .second, .val (.long u37), .second, .val (.long u39), .second] [])) (own_QR s n0 1 3 (own_RV (f0_313))) := by
  unfold f0_313
  refine own_iconst C A at_313 (v := 0) rfl rfl ?_
  exact w0_314 C A (0 : Int32)
def f0_274 (v8 : Int64) (v17 : Int64) (v28 : Int32) (v37 : Int64) (maxSlots_v19 : Int64) (slots_v19 : Int64) (lastIncrease_v19 : Int64) : Int32 := (if v28 = (0 : Int32) then (f0_313) else (if (f4_0 v17 v8 maxSlots_v19 slots_v19 lastIncrease_v19).1 = v37 then (if (f5_0 (f4_0 v17 v8 maxSlots_v19 slots_v19 lastIncrease_v19).2.1 (f4_0 v17 v8 maxSlots_v19 slots_v19 lastIncrease_v19).2.2.1 (f4_0 v17 v8 maxSlots_v19 slots_v19 lastIncrease_v19).2.2.2) = v37 then (f0_314 (1 : Int32)) else (f0_313)) else (f0_313)))
set_option maxRecDepth 65536 in
set_option maxHeartbeats 4000000 in
theorem w0_274 {Z : State} {a0 : Array Value} {p : Program} {l : Launch} {e : Env} {s : State} {m : MethodId} {args : Array Value} {below : List Frame} {meth : Method} {c : Code} {T : State} {h : Heap} {n0 : Nat} {u0 : Int64} {u2 : Int64} {u4 : Int64} {u6 : Int64} {u10 : Int32} {u11 : Int64} {u13 : Int64} {u15 : Int64} {v19 : Addr} {u20 : Int64} {u22 : Int64} {u24 : Int64} {u26 : Int64} {u29 : Int64} {u31 : Int64} {u33 : Int64} {u35 : Int64} (C : own_Cx Z a0 p l e room_1 s m args below meth c "com/example/fit50/fit50/engine/AutoscalerScalePinLaw" "law" code maxLocals ret) (A : own_At p l e room_1 s m args below meth c T h n0 1 3) (v8 : Int64) (v17 : Int64) (v28 : Int32) (v37 : Int64) (maxSlots_v19 : Int64) (slots_v19 : Int64) (lastIncrease_v19 : Int64) (F_maxSlots_v19 : Fld Z h v19 "com/example/fit50/fit50/engine/Autoscaler" "maxSlots" "J" (.long maxSlots_v19)) (F_slots_v19 : Fld Z h v19 "com/example/fit50/fit50/engine/Autoscaler" "slots" "J" (.long slots_v19)) (F_lastIncrease_v19 : Fld Z h v19 "com/example/fit50/fit50/engine/Autoscaler" "lastIncrease" "J" (.long lastIncrease_v19)) (E_v19 : Exa Z h v19 "com/example/fit50/fit50/engine/Autoscaler") (g_v19 : n0 ≤ v19) :
    own_Go p.tables e below (T.setTop (mkF m 274 #[.val (.long u0), .second, .val (.long u2), .second, .val (.long u4), .second, .val (.long u6), .second, .val (.long v8), .second, .val (.int u10), .val (.long u11), .second, .val (.long u13), .second, .val (.long u15), .second, .val (.long v17), .second, .val (.ref v19), .val (.long u20), .second, .val (.long u22), .second, .val (.long u24), .second, .val (.long u26), .second, .val (.int v28), .val (.long u29), .second, .val (.long u31), .second, .val (.long u33), .second, .val (.long u35), .second, .val (.long v37), .second, .unset, .unset] [])) (own_QR s n0 1 3 (own_RV (f0_274 v8 v17 v28 v37 maxSlots_v19 slots_v19 lastIncrease_v19))) := by
  unfold f0_274
  refine own_aload C A at_274 rfl rfl rfl ?_
  refine own_lload C A at_276 rfl rfl ?_
  refine own_lload C A at_278 rfl rfl ?_
  refine own_callV C A 0 [(.long v17), (.long v8)] [] (own_w C 22 rfl) (own_w C 23 rfl) (own_w C 25 rfl) (own_w C 24 rfl) (own_w C 9 rfl) (own_w C 26 rfl) (by decide) rfl E_v19 (rm4 l Z a0 C.2.2.2.2.2.2.2.2 [] v19 v17 v8 maxSlots_v19 slots_v19 lastIncrease_v19 _ _ (own_size A) F_maxSlots_v19 F_slots_v19 F_lastIncrease_v19 E_v19 g_v19) (by decide) (by decide) (by decide) (by decide) own_pd0 rfl rfl rfl (Nat.le_of_eq rfl) rfl at_280 rfl (fun v T h hP A => ?_)
  replace A := own_more A (kc' := 1) (ks' := 3) (by decide) (by decide)
  obtain ⟨rfl, Kc, E_v19, F_maxSlots_v19, F_slots_v19, F_lastIncrease_v19⟩ := hP
  show own_Go p.tables e below (T.setTop (mkF m 283 #[.val (.long u0), .second, .val (.long u2), .second, .val (.long u4), .second, .val (.long u6), .second, .val (.long v8), .second, .val (.int u10), .val (.long u11), .second, .val (.long u13), .second, .val (.long u15), .second, .val (.long v17), .second, .val (.ref v19), .val (.long u20), .second, .val (.long u22), .second, .val (.long u24), .second, .val (.long u26), .second, .val (.int v28), .val (.long u29), .second, .val (.long u31), .second, .val (.long u33), .second, .val (.long u35), .second, .val (.long v37), .second, .unset, .unset] [(.long (f4_0 v17 v8 maxSlots_v19 slots_v19 lastIncrease_v19).1)])) _
  refine own_lstore C A at_283 (l' := #[.val (.long u0), .second, .val (.long u2), .second, .val (.long u4), .second, .val (.long u6), .second, .val (.long v8), .second, .val (.int u10), .val (.long u11), .second, .val (.long u13), .second, .val (.long u15), .second, .val (.long v17), .second, .val (.ref v19), .val (.long u20), .second, .val (.long u22), .second, .val (.long u24), .second, .val (.long u26), .second, .val (.int v28), .val (.long u29), .second, .val (.long u31), .second, .val (.long u33), .second, .val (.long u35), .second, .val (.long v37), .second, .val (.long (f4_0 v17 v8 maxSlots_v19 slots_v19 lastIncrease_v19).1), .second]) rfl rfl ?_
  refine own_iload C A at_285 rfl rfl ?_
  refine own_ite (fun hc287 => ?_) (fun hc287 => ?_)
  · refine own_ifY C A at_287 (Jvm.Free.XT.i0_eq_t hc287) (by decide) (q := 313) (by decide) ?_
    exact w0_313 C A
  · refine own_ifN C A at_287 (Jvm.Free.XT.i0_eq_f hc287) rfl ?_
    refine own_lload C A at_290 rfl rfl ?_
    refine own_lload C A at_292 rfl rfl ?_
    refine own_lcmp C A at_294 rfl ?_
    refine own_ite (fun hc295 => ?_) (fun hc295 => ?_)
    · refine own_ifN C A at_295 (Jvm.Free.XT.ll_ne_f hc295) rfl ?_
      refine own_aload C A at_298 rfl rfl rfl ?_
      refine own_callVJ C A 0 [] [] (own_w C 29 rfl) (own_w C 30 rfl) (own_w C 32 rfl) (own_w C 31 rfl) (own_w C 9 rfl) (own_w C 33 rfl) (by decide) rfl E_v19 (rm5 l Z a0 C.2.2.2.2.2.2.2.2 [] v19 (f4_0 v17 v8 maxSlots_v19 slots_v19 lastIncrease_v19).2.1 (f4_0 v17 v8 maxSlots_v19 slots_v19 lastIncrease_v19).2.2.1 (f4_0 v17 v8 maxSlots_v19 slots_v19 lastIncrease_v19).2.2.2 _ _ (own_size A) F_maxSlots_v19 F_slots_v19 F_lastIncrease_v19 E_v19) rfl rfl (by decide) (by decide) (by decide) (by decide) own_pd2 rfl rfl rfl (Nat.le_of_eq rfl) rfl at_300 rfl (fun T A => ?_)
      refine own_lload C A at_303 rfl rfl ?_
      refine own_lcmp C A at_305 rfl ?_
      refine own_ite (fun hc306 => ?_) (fun hc306 => ?_)
      · refine own_ifN C A at_306 (Jvm.Free.XT.ll_ne_f hc306) rfl ?_
        refine own_iconst C A at_309 (v := 1) rfl rfl ?_
        refine own_goto C A at_310 (by decide) (q := 314) (by decide) ?_
        exact w0_314 C A (1 : Int32)
      · refine own_ifY C A at_306 (Jvm.Free.XT.ll_ne_t hc306) (by decide) (q := 313) (by decide) ?_
        exact w0_313 C A
    · refine own_ifY C A at_295 (Jvm.Free.XT.ll_ne_t hc295) (by decide) (q := 313) (by decide) ?_
      exact w0_313 C A
def f0_220 (v8 : Int64) (v11 : Int64) (v17 : Int64) (v24 : Int64) (v31 : Int64) (s0 : Int32) (maxSlots_v19 : Int64) (slots_v19 : Int64) (lastIncrease_v19 : Int64) : Int32 := (if v31 < (f3_0 v11 v8) then (f0_274 v8 v17 s0 (f3_0 v11 v8) maxSlots_v19 slots_v19 lastIncrease_v19) else (if (f3_0 v11 v8) < v31 then (if (v17 - v24) < (61 : Int64) then (f0_274 v8 v17 s0 v31 maxSlots_v19 slots_v19 lastIncrease_v19) else (f0_274 v8 v17 s0 (f3_0 v11 v8) maxSlots_v19 slots_v19 lastIncrease_v19)) else (f0_274 v8 v17 s0 v31 maxSlots_v19 slots_v19 lastIncrease_v19)))
set_option maxRecDepth 65536 in
set_option maxHeartbeats 4000000 in
theorem w0_220 {Z : State} {a0 : Array Value} {p : Program} {l : Launch} {e : Env} {s : State} {m : MethodId} {args : Array Value} {below : List Frame} {meth : Method} {c : Code} {T : State} {h : Heap} {n0 : Nat} {u0 : Int64} {u2 : Int64} {u4 : Int64} {u6 : Int64} {u10 : Int32} {u13 : Int64} {u15 : Int64} {v19 : Addr} {u20 : Int64} {u22 : Int64} {u26 : Int64} {u28 : Int32} {u29 : Int64} {u33 : Int64} (C : own_Cx Z a0 p l e room_1 s m args below meth c "com/example/fit50/fit50/engine/AutoscalerScalePinLaw" "law" code maxLocals ret) (A : own_At p l e room_1 s m args below meth c T h n0 1 3) (v8 : Int64) (v11 : Int64) (v17 : Int64) (v24 : Int64) (v31 : Int64) (s0 : Int32) (maxSlots_v19 : Int64) (slots_v19 : Int64) (lastIncrease_v19 : Int64) (F_maxSlots_v19 : Fld Z h v19 "com/example/fit50/fit50/engine/Autoscaler" "maxSlots" "J" (.long maxSlots_v19)) (F_slots_v19 : Fld Z h v19 "com/example/fit50/fit50/engine/Autoscaler" "slots" "J" (.long slots_v19)) (F_lastIncrease_v19 : Fld Z h v19 "com/example/fit50/fit50/engine/Autoscaler" "lastIncrease" "J" (.long lastIncrease_v19)) (E_v19 : Exa Z h v19 "com/example/fit50/fit50/engine/Autoscaler") (g_v19 : n0 ≤ v19) :
    own_Go p.tables e below (T.setTop (mkF m 220 #[.val (.long u0), .second, .val (.long u2), .second, .val (.long u4), .second, .val (.long u6), .second, .val (.long v8), .second, .val (.int u10), .val (.long v11), .second, .val (.long u13), .second, .val (.long u15), .second, .val (.long v17), .second, .val (.ref v19), .val (.long u20), .second, .val (.long u22), .second, .val (.long v24), .second, .val (.long u26), .second, .val (.int u28), .val (.long u29), .second, .val (.long v31), .second, .val (.long u33), .second, .unset, .unset, .unset, .unset, .unset, .unset] [(.int s0)])) (own_QR s n0 1 3 (own_RV (f0_220 v8 v11 v17 v24 v31 s0 maxSlots_v19 slots_v19 lastIncrease_v19))) := by
  unfold f0_220
  refine own_istore C A at_220 (l' := #[.val (.long u0), .second, .val (.long u2), .second, .val (.long u4), .second, .val (.long u6), .second, .val (.long v8), .second, .val (.int u10), .val (.long v11), .second, .val (.long u13), .second, .val (.long u15), .second, .val (.long v17), .second, .val (.ref v19), .val (.long u20), .second, .val (.long u22), .second, .val (.long v24), .second, .val (.long u26), .second, .val (.int s0), .val (.long u29), .second, .val (.long v31), .second, .val (.long u33), .second, .unset, .unset, .unset, .unset, .unset, .unset]) rfl rfl ?_
  refine own_lload C A at_222 rfl rfl ?_
  refine own_lload C A at_224 rfl rfl ?_
  refine own_callSJ C A 0 [(.long v11), (.long v8)] [] (own_w C 18 rfl) (own_w C 19 rfl) (own_w C 20 rfl) (own_w C 21 rfl) (by decide) (rm3 l Z a0 C.2.2.2.2.2.2.2.2 [] v11 v8 _ _ (own_size A)) rfl rfl (by decide) (by decide) (by decide) (by decide) own_pd0 rfl rfl rfl (Nat.le_of_eq rfl) rfl at_226 rfl (fun T A => ?_)
  refine own_lstore C A at_229 (l' := #[.val (.long u0), .second, .val (.long u2), .second, .val (.long u4), .second, .val (.long u6), .second, .val (.long v8), .second, .val (.int u10), .val (.long v11), .second, .val (.long u13), .second, .val (.long u15), .second, .val (.long v17), .second, .val (.ref v19), .val (.long u20), .second, .val (.long u22), .second, .val (.long v24), .second, .val (.long u26), .second, .val (.int s0), .val (.long u29), .second, .val (.long v31), .second, .val (.long u33), .second, .val (.long (f3_0 v11 v8)), .second, .unset, .unset, .unset, .unset]) rfl rfl ?_
  refine own_lload C A at_231 rfl rfl ?_
  refine own_lstore C A at_233 (l' := #[.val (.long u0), .second, .val (.long u2), .second, .val (.long u4), .second, .val (.long u6), .second, .val (.long v8), .second, .val (.int u10), .val (.long v11), .second, .val (.long u13), .second, .val (.long u15), .second, .val (.long v17), .second, .val (.ref v19), .val (.long u20), .second, .val (.long u22), .second, .val (.long v24), .second, .val (.long u26), .second, .val (.int s0), .val (.long u29), .second, .val (.long v31), .second, .val (.long u33), .second, .val (.long (f3_0 v11 v8)), .second, .val (.long v31), .second, .unset, .unset]) rfl rfl ?_
  refine own_lload C A at_235 rfl rfl ?_
  refine own_lload C A at_237 rfl rfl ?_
  refine own_lcmp C A at_239 rfl ?_
  refine own_ite (fun hc240 => ?_) (fun hc240 => ?_)
  · refine own_ifN C A at_240 (Jvm.Free.XT.ll_le_f hc240) rfl ?_
    refine own_lload C A at_243 rfl rfl ?_
    refine own_lstore C A at_245 (l' := #[.val (.long u0), .second, .val (.long u2), .second, .val (.long u4), .second, .val (.long u6), .second, .val (.long v8), .second, .val (.int u10), .val (.long v11), .second, .val (.long u13), .second, .val (.long u15), .second, .val (.long v17), .second, .val (.ref v19), .val (.long u20), .second, .val (.long u22), .second, .val (.long v24), .second, .val (.long u26), .second, .val (.int s0), .val (.long u29), .second, .val (.long v31), .second, .val (.long u33), .second, .val (.long (f3_0 v11 v8)), .second, .val (.long (f3_0 v11 v8)), .second, .unset, .unset]) rfl rfl ?_
    refine own_goto C A at_247 (by decide) (q := 274) (by decide) ?_
    exact w0_274 C A v8 v17 s0 (f3_0 v11 v8) maxSlots_v19 slots_v19 lastIncrease_v19 F_maxSlots_v19 F_slots_v19 F_lastIncrease_v19 E_v19 g_v19
  · refine own_ifY C A at_240 (Jvm.Free.XT.ll_le_t hc240) (by decide) (q := 250) (by decide) ?_
    refine own_lload C A at_250 rfl rfl ?_
    refine own_lload C A at_252 rfl rfl ?_
    refine own_lcmp C A at_254 rfl ?_
    refine own_ite (fun hc255 => ?_) (fun hc255 => ?_)
    · refine own_ifN C A at_255 (Jvm.Free.XT.ll_ge_f hc255) rfl ?_
      refine own_lload C A at_258 rfl rfl ?_
      refine own_lload C A at_260 rfl rfl ?_
      refine own_lsub C A at_262 rfl ?_
      refine own_ldcJ C A (own_w C 40 rfl) at_263 rfl ?_
      refine own_lcmp C A at_266 rfl ?_
      refine own_ite (fun hc267 => ?_) (fun hc267 => ?_)
      · refine own_ifY C A at_267 (Jvm.Free.XT.ll_lt_t hc267) (by decide) (q := 274) (by decide) ?_
        exact w0_274 C A v8 v17 s0 v31 maxSlots_v19 slots_v19 lastIncrease_v19 F_maxSlots_v19 F_slots_v19 F_lastIncrease_v19 E_v19 g_v19
      · refine own_ifN C A at_267 (Jvm.Free.XT.ll_lt_f hc267) rfl ?_
        refine own_lload C A at_270 rfl rfl ?_
        refine own_lstore C A at_272 (l' := #[.val (.long u0), .second, .val (.long u2), .second, .val (.long u4), .second, .val (.long u6), .second, .val (.long v8), .second, .val (.int u10), .val (.long v11), .second, .val (.long u13), .second, .val (.long u15), .second, .val (.long v17), .second, .val (.ref v19), .val (.long u20), .second, .val (.long u22), .second, .val (.long v24), .second, .val (.long u26), .second, .val (.int s0), .val (.long u29), .second, .val (.long v31), .second, .val (.long u33), .second, .val (.long (f3_0 v11 v8)), .second, .val (.long (f3_0 v11 v8)), .second, .unset, .unset]) rfl rfl ?_
        exact w0_274 C A v8 v17 s0 (f3_0 v11 v8) maxSlots_v19 slots_v19 lastIncrease_v19 F_maxSlots_v19 F_slots_v19 F_lastIncrease_v19 E_v19 g_v19
    · refine own_ifY C A at_255 (Jvm.Free.XT.ll_ge_t hc255) (by decide) (q := 274) (by decide) ?_
      exact w0_274 C A v8 v17 s0 v31 maxSlots_v19 slots_v19 lastIncrease_v19 F_maxSlots_v19 F_slots_v19 F_lastIncrease_v19 E_v19 g_v19
def f0_219 (v8 : Int64) (v11 : Int64) (v17 : Int64) (v24 : Int64) (v31 : Int64) (maxSlots_v19 : Int64) (slots_v19 : Int64) (lastIncrease_v19 : Int64) : Int32 := (f0_220 v8 v11 v17 v24 v31 (0 : Int32) maxSlots_v19 slots_v19 lastIncrease_v19)
set_option maxRecDepth 65536 in
set_option maxHeartbeats 4000000 in
theorem w0_219 {Z : State} {a0 : Array Value} {p : Program} {l : Launch} {e : Env} {s : State} {m : MethodId} {args : Array Value} {below : List Frame} {meth : Method} {c : Code} {T : State} {h : Heap} {n0 : Nat} {u0 : Int64} {u2 : Int64} {u4 : Int64} {u6 : Int64} {u10 : Int32} {u13 : Int64} {u15 : Int64} {v19 : Addr} {u20 : Int64} {u22 : Int64} {u26 : Int64} {u28 : Int32} {u29 : Int64} {u33 : Int64} (C : own_Cx Z a0 p l e room_1 s m args below meth c "com/example/fit50/fit50/engine/AutoscalerScalePinLaw" "law" code maxLocals ret) (A : own_At p l e room_1 s m args below meth c T h n0 1 3) (v8 : Int64) (v11 : Int64) (v17 : Int64) (v24 : Int64) (v31 : Int64) (maxSlots_v19 : Int64) (slots_v19 : Int64) (lastIncrease_v19 : Int64) (F_maxSlots_v19 : Fld Z h v19 "com/example/fit50/fit50/engine/Autoscaler" "maxSlots" "J" (.long maxSlots_v19)) (F_slots_v19 : Fld Z h v19 "com/example/fit50/fit50/engine/Autoscaler" "slots" "J" (.long slots_v19)) (F_lastIncrease_v19 : Fld Z h v19 "com/example/fit50/fit50/engine/Autoscaler" "lastIncrease" "J" (.long lastIncrease_v19)) (E_v19 : Exa Z h v19 "com/example/fit50/fit50/engine/Autoscaler") (g_v19 : n0 ≤ v19) :
    own_Go p.tables e below (T.setTop (mkF m 219 #[.val (.long u0), .second, .val (.long u2), .second, .val (.long u4), .second, .val (.long u6), .second, .val (.long v8), .second, .val (.int u10), .val (.long v11), .second, .val (.long u13), .second, .val (.long u15), .second, .val (.long v17), .second, .val (.ref v19), .val (.long u20), .second, .val (.long u22), .second, .val (.long v24), .second, .val (.long u26), .second, .val (.int u28), .val (.long u29), .second, .val (.long v31), .second, .val (.long u33), .second, .unset, .unset, .unset, .unset, .unset, .unset] [])) (own_QR s n0 1 3 (own_RV (f0_219 v8 v11 v17 v24 v31 maxSlots_v19 slots_v19 lastIncrease_v19))) := by
  unfold f0_219
  refine own_iconst C A at_219 (v := 0) rfl rfl ?_
  exact w0_220 C A v8 v11 v17 v24 v31 (0 : Int32) maxSlots_v19 slots_v19 lastIncrease_v19 F_maxSlots_v19 F_slots_v19 F_lastIncrease_v19 E_v19 g_v19
def f0_180 (v6 : Int64) (v8 : Int64) (v11 : Int64) (v15 : Int64) (v17 : Int64) (v24 : Int64) (v28 : Int32) (v31 : Int64) (maxSlots_v19 : Int64) (slots_v19 : Int64) (lastIncrease_v19 : Int64) : Int32 := (if v28 = (0 : Int32) then (f0_219 v8 v11 v17 v24 v31 (f4_0 v15 v6 maxSlots_v19 slots_v19 lastIncrease_v19).2.1 (f4_0 v15 v6 maxSlots_v19 slots_v19 lastIncrease_v19).2.2.1 (f4_0 v15 v6 maxSlots_v19 slots_v19 lastIncrease_v19).2.2.2) else (if (f4_0 v15 v6 maxSlots_v19 slots_v19 lastIncrease_v19).1 = v31 then (if (f5_0 (f4_0 v15 v6 maxSlots_v19 slots_v19 lastIncrease_v19).2.1 (f4_0 v15 v6 maxSlots_v19 slots_v19 lastIncrease_v19).2.2.1 (f4_0 v15 v6 maxSlots_v19 slots_v19 lastIncrease_v19).2.2.2) = v31 then (f0_220 v8 v11 v17 v24 v31 (1 : Int32) (f4_0 v15 v6 maxSlots_v19 slots_v19 lastIncrease_v19).2.1 (f4_0 v15 v6 maxSlots_v19 slots_v19 lastIncrease_v19).2.2.1 (f4_0 v15 v6 maxSlots_v19 slots_v19 lastIncrease_v19).2.2.2) else (f0_219 v8 v11 v17 v24 v31 (f4_0 v15 v6 maxSlots_v19 slots_v19 lastIncrease_v19).2.1 (f4_0 v15 v6 maxSlots_v19 slots_v19 lastIncrease_v19).2.2.1 (f4_0 v15 v6 maxSlots_v19 slots_v19 lastIncrease_v19).2.2.2)) else (f0_219 v8 v11 v17 v24 v31 (f4_0 v15 v6 maxSlots_v19 slots_v19 lastIncrease_v19).2.1 (f4_0 v15 v6 maxSlots_v19 slots_v19 lastIncrease_v19).2.2.1 (f4_0 v15 v6 maxSlots_v19 slots_v19 lastIncrease_v19).2.2.2)))
set_option maxRecDepth 65536 in
set_option maxHeartbeats 4000000 in
theorem w0_180 {Z : State} {a0 : Array Value} {p : Program} {l : Launch} {e : Env} {s : State} {m : MethodId} {args : Array Value} {below : List Frame} {meth : Method} {c : Code} {T : State} {h : Heap} {n0 : Nat} {u0 : Int64} {u2 : Int64} {u4 : Int64} {u10 : Int32} {u13 : Int64} {v19 : Addr} {u20 : Int64} {u22 : Int64} {u26 : Int64} {u29 : Int64} (C : own_Cx Z a0 p l e room_1 s m args below meth c "com/example/fit50/fit50/engine/AutoscalerScalePinLaw" "law" code maxLocals ret) (A : own_At p l e room_1 s m args below meth c T h n0 1 3) (v6 : Int64) (v8 : Int64) (v11 : Int64) (v15 : Int64) (v17 : Int64) (v24 : Int64) (v28 : Int32) (v31 : Int64) (maxSlots_v19 : Int64) (slots_v19 : Int64) (lastIncrease_v19 : Int64) (F_maxSlots_v19 : Fld Z h v19 "com/example/fit50/fit50/engine/Autoscaler" "maxSlots" "J" (.long maxSlots_v19)) (F_slots_v19 : Fld Z h v19 "com/example/fit50/fit50/engine/Autoscaler" "slots" "J" (.long slots_v19)) (F_lastIncrease_v19 : Fld Z h v19 "com/example/fit50/fit50/engine/Autoscaler" "lastIncrease" "J" (.long lastIncrease_v19)) (E_v19 : Exa Z h v19 "com/example/fit50/fit50/engine/Autoscaler") (g_v19 : n0 ≤ v19) :
    own_Go p.tables e below (T.setTop (mkF m 180 #[.val (.long u0), .second, .val (.long u2), .second, .val (.long u4), .second, .val (.long v6), .second, .val (.long v8), .second, .val (.int u10), .val (.long v11), .second, .val (.long u13), .second, .val (.long v15), .second, .val (.long v17), .second, .val (.ref v19), .val (.long u20), .second, .val (.long u22), .second, .val (.long v24), .second, .val (.long u26), .second, .val (.int v28), .val (.long u29), .second, .val (.long v31), .second, .unset, .unset, .unset, .unset, .unset, .unset, .unset, .unset] [])) (own_QR s n0 1 3 (own_RV (f0_180 v6 v8 v11 v15 v17 v24 v28 v31 maxSlots_v19 slots_v19 lastIncrease_v19))) := by
  unfold f0_180
  refine own_aload C A at_180 rfl rfl rfl ?_
  refine own_lload C A at_182 rfl rfl ?_
  refine own_lload C A at_184 rfl rfl ?_
  refine own_callV C A 0 [(.long v15), (.long v6)] [] (own_w C 22 rfl) (own_w C 23 rfl) (own_w C 25 rfl) (own_w C 24 rfl) (own_w C 9 rfl) (own_w C 26 rfl) (by decide) rfl E_v19 (rm4 l Z a0 C.2.2.2.2.2.2.2.2 [] v19 v15 v6 maxSlots_v19 slots_v19 lastIncrease_v19 _ _ (own_size A) F_maxSlots_v19 F_slots_v19 F_lastIncrease_v19 E_v19 g_v19) (by decide) (by decide) (by decide) (by decide) own_pd0 rfl rfl rfl (Nat.le_of_eq rfl) rfl at_186 rfl (fun v T h hP A => ?_)
  replace A := own_more A (kc' := 1) (ks' := 3) (by decide) (by decide)
  obtain ⟨rfl, Kc, E_v19, F_maxSlots_v19, F_slots_v19, F_lastIncrease_v19⟩ := hP
  show own_Go p.tables e below (T.setTop (mkF m 189 #[.val (.long u0), .second, .val (.long u2), .second, .val (.long u4), .second, .val (.long v6), .second, .val (.long v8), .second, .val (.int u10), .val (.long v11), .second, .val (.long u13), .second, .val (.long v15), .second, .val (.long v17), .second, .val (.ref v19), .val (.long u20), .second, .val (.long u22), .second, .val (.long v24), .second, .val (.long u26), .second, .val (.int v28), .val (.long u29), .second, .val (.long v31), .second, .unset, .unset, .unset, .unset, .unset, .unset, .unset, .unset] [(.long (f4_0 v15 v6 maxSlots_v19 slots_v19 lastIncrease_v19).1)])) _
  refine own_lstore C A at_189 (l' := #[.val (.long u0), .second, .val (.long u2), .second, .val (.long u4), .second, .val (.long v6), .second, .val (.long v8), .second, .val (.int u10), .val (.long v11), .second, .val (.long u13), .second, .val (.long v15), .second, .val (.long v17), .second, .val (.ref v19), .val (.long u20), .second, .val (.long u22), .second, .val (.long v24), .second, .val (.long u26), .second, .val (.int v28), .val (.long u29), .second, .val (.long v31), .second, .val (.long (f4_0 v15 v6 maxSlots_v19 slots_v19 lastIncrease_v19).1), .second, .unset, .unset, .unset, .unset, .unset, .unset]) rfl rfl ?_
  refine own_iload C A at_191 rfl rfl ?_
  refine own_ite (fun hc193 => ?_) (fun hc193 => ?_)
  · refine own_ifY C A at_193 (Jvm.Free.XT.i0_eq_t hc193) (by decide) (q := 219) (by decide) ?_
    exact w0_219 C A v8 v11 v17 v24 v31 (f4_0 v15 v6 maxSlots_v19 slots_v19 lastIncrease_v19).2.1 (f4_0 v15 v6 maxSlots_v19 slots_v19 lastIncrease_v19).2.2.1 (f4_0 v15 v6 maxSlots_v19 slots_v19 lastIncrease_v19).2.2.2 F_maxSlots_v19 F_slots_v19 F_lastIncrease_v19 E_v19 g_v19
  · refine own_ifN C A at_193 (Jvm.Free.XT.i0_eq_f hc193) rfl ?_
    refine own_lload C A at_196 rfl rfl ?_
    refine own_lload C A at_198 rfl rfl ?_
    refine own_lcmp C A at_200 rfl ?_
    refine own_ite (fun hc201 => ?_) (fun hc201 => ?_)
    · refine own_ifN C A at_201 (Jvm.Free.XT.ll_ne_f hc201) rfl ?_
      refine own_aload C A at_204 rfl rfl rfl ?_
      refine own_callVJ C A 0 [] [] (own_w C 29 rfl) (own_w C 30 rfl) (own_w C 32 rfl) (own_w C 31 rfl) (own_w C 9 rfl) (own_w C 33 rfl) (by decide) rfl E_v19 (rm5 l Z a0 C.2.2.2.2.2.2.2.2 [] v19 (f4_0 v15 v6 maxSlots_v19 slots_v19 lastIncrease_v19).2.1 (f4_0 v15 v6 maxSlots_v19 slots_v19 lastIncrease_v19).2.2.1 (f4_0 v15 v6 maxSlots_v19 slots_v19 lastIncrease_v19).2.2.2 _ _ (own_size A) F_maxSlots_v19 F_slots_v19 F_lastIncrease_v19 E_v19) rfl rfl (by decide) (by decide) (by decide) (by decide) own_pd2 rfl rfl rfl (Nat.le_of_eq rfl) rfl at_206 rfl (fun T A => ?_)
      refine own_lload C A at_209 rfl rfl ?_
      refine own_lcmp C A at_211 rfl ?_
      refine own_ite (fun hc212 => ?_) (fun hc212 => ?_)
      · refine own_ifN C A at_212 (Jvm.Free.XT.ll_ne_f hc212) rfl ?_
        refine own_iconst C A at_215 (v := 1) rfl rfl ?_
        refine own_goto C A at_216 (by decide) (q := 220) (by decide) ?_
        exact w0_220 C A v8 v11 v17 v24 v31 (1 : Int32) (f4_0 v15 v6 maxSlots_v19 slots_v19 lastIncrease_v19).2.1 (f4_0 v15 v6 maxSlots_v19 slots_v19 lastIncrease_v19).2.2.1 (f4_0 v15 v6 maxSlots_v19 slots_v19 lastIncrease_v19).2.2.2 F_maxSlots_v19 F_slots_v19 F_lastIncrease_v19 E_v19 g_v19
      · refine own_ifY C A at_212 (Jvm.Free.XT.ll_ne_t hc212) (by decide) (q := 219) (by decide) ?_
        exact w0_219 C A v8 v11 v17 v24 v31 (f4_0 v15 v6 maxSlots_v19 slots_v19 lastIncrease_v19).2.1 (f4_0 v15 v6 maxSlots_v19 slots_v19 lastIncrease_v19).2.2.1 (f4_0 v15 v6 maxSlots_v19 slots_v19 lastIncrease_v19).2.2.2 F_maxSlots_v19 F_slots_v19 F_lastIncrease_v19 E_v19 g_v19
    · refine own_ifY C A at_201 (Jvm.Free.XT.ll_ne_t hc201) (by decide) (q := 219) (by decide) ?_
      exact w0_219 C A v8 v11 v17 v24 v31 (f4_0 v15 v6 maxSlots_v19 slots_v19 lastIncrease_v19).2.1 (f4_0 v15 v6 maxSlots_v19 slots_v19 lastIncrease_v19).2.2.1 (f4_0 v15 v6 maxSlots_v19 slots_v19 lastIncrease_v19).2.2.2 F_maxSlots_v19 F_slots_v19 F_lastIncrease_v19 E_v19 g_v19
def f0_122 (v6 : Int64) (v8 : Int64) (v11 : Int64) (v15 : Int64) (v17 : Int64) (v22 : Int64) (v24 : Int64) (s0 : Int32) (maxSlots_v19 : Int64) (slots_v19 : Int64) (lastIncrease_v19 : Int64) : Int32 := (if v22 < (f3_0 v11 v6) then (f0_180 v6 v8 v11 v15 v17 v15 s0 (f3_0 v11 v6) maxSlots_v19 slots_v19 lastIncrease_v19) else (if (f3_0 v11 v6) < v22 then (if (v15 - v24) < (61 : Int64) then (f0_180 v6 v8 v11 v15 v17 v24 s0 v22 maxSlots_v19 slots_v19 lastIncrease_v19) else (f0_180 v6 v8 v11 v15 v17 v24 s0 (f3_0 v11 v6) maxSlots_v19 slots_v19 lastIncrease_v19)) else (f0_180 v6 v8 v11 v15 v17 v24 s0 v22 maxSlots_v19 slots_v19 lastIncrease_v19)))
set_option maxRecDepth 65536 in
set_option maxHeartbeats 4000000 in
theorem w0_122 {Z : State} {a0 : Array Value} {p : Program} {l : Launch} {e : Env} {s : State} {m : MethodId} {args : Array Value} {below : List Frame} {meth : Method} {c : Code} {T : State} {h : Heap} {n0 : Nat} {u0 : Int64} {u2 : Int64} {u4 : Int64} {u10 : Int32} {u13 : Int64} {v19 : Addr} {u20 : Int64} {u26 : Int64} (C : own_Cx Z a0 p l e room_1 s m args below meth c "com/example/fit50/fit50/engine/AutoscalerScalePinLaw" "law" code maxLocals ret) (A : own_At p l e room_1 s m args below meth c T h n0 1 3) (v6 : Int64) (v8 : Int64) (v11 : Int64) (v15 : Int64) (v17 : Int64) (v22 : Int64) (v24 : Int64) (s0 : Int32) (maxSlots_v19 : Int64) (slots_v19 : Int64) (lastIncrease_v19 : Int64) (F_maxSlots_v19 : Fld Z h v19 "com/example/fit50/fit50/engine/Autoscaler" "maxSlots" "J" (.long maxSlots_v19)) (F_slots_v19 : Fld Z h v19 "com/example/fit50/fit50/engine/Autoscaler" "slots" "J" (.long slots_v19)) (F_lastIncrease_v19 : Fld Z h v19 "com/example/fit50/fit50/engine/Autoscaler" "lastIncrease" "J" (.long lastIncrease_v19)) (E_v19 : Exa Z h v19 "com/example/fit50/fit50/engine/Autoscaler") (g_v19 : n0 ≤ v19) :
    own_Go p.tables e below (T.setTop (mkF m 122 #[.val (.long u0), .second, .val (.long u2), .second, .val (.long u4), .second, .val (.long v6), .second, .val (.long v8), .second, .val (.int u10), .val (.long v11), .second, .val (.long u13), .second, .val (.long v15), .second, .val (.long v17), .second, .val (.ref v19), .val (.long u20), .second, .val (.long v22), .second, .val (.long v24), .second, .val (.long u26), .second, .unset, .unset, .unset, .unset, .unset, .unset, .unset, .unset, .unset, .unset, .unset, .unset, .unset] [(.int s0)])) (own_QR s n0 1 3 (own_RV (f0_122 v6 v8 v11 v15 v17 v22 v24 s0 maxSlots_v19 slots_v19 lastIncrease_v19))) := by
  unfold f0_122
  refine own_istore C A at_122 (l' := #[.val (.long u0), .second, .val (.long u2), .second, .val (.long u4), .second, .val (.long v6), .second, .val (.long v8), .second, .val (.int u10), .val (.long v11), .second, .val (.long u13), .second, .val (.long v15), .second, .val (.long v17), .second, .val (.ref v19), .val (.long u20), .second, .val (.long v22), .second, .val (.long v24), .second, .val (.long u26), .second, .val (.int s0), .unset, .unset, .unset, .unset, .unset, .unset, .unset, .unset, .unset, .unset, .unset, .unset]) rfl rfl ?_
  refine own_lload C A at_124 rfl rfl ?_
  refine own_lload C A at_126 rfl rfl ?_
  refine own_callSJ C A 0 [(.long v11), (.long v6)] [] (own_w C 18 rfl) (own_w C 19 rfl) (own_w C 20 rfl) (own_w C 21 rfl) (by decide) (rm3 l Z a0 C.2.2.2.2.2.2.2.2 [] v11 v6 _ _ (own_size A)) rfl rfl (by decide) (by decide) (by decide) (by decide) own_pd0 rfl rfl rfl (Nat.le_of_eq rfl) rfl at_128 rfl (fun T A => ?_)
  refine own_lstore C A at_131 (l' := #[.val (.long u0), .second, .val (.long u2), .second, .val (.long u4), .second, .val (.long v6), .second, .val (.long v8), .second, .val (.int u10), .val (.long v11), .second, .val (.long u13), .second, .val (.long v15), .second, .val (.long v17), .second, .val (.ref v19), .val (.long u20), .second, .val (.long v22), .second, .val (.long v24), .second, .val (.long u26), .second, .val (.int s0), .val (.long (f3_0 v11 v6)), .second, .unset, .unset, .unset, .unset, .unset, .unset, .unset, .unset, .unset, .unset]) rfl rfl ?_
  refine own_lload C A at_133 rfl rfl ?_
  refine own_lstore C A at_135 (l' := #[.val (.long u0), .second, .val (.long u2), .second, .val (.long u4), .second, .val (.long v6), .second, .val (.long v8), .second, .val (.int u10), .val (.long v11), .second, .val (.long u13), .second, .val (.long v15), .second, .val (.long v17), .second, .val (.ref v19), .val (.long u20), .second, .val (.long v22), .second, .val (.long v24), .second, .val (.long u26), .second, .val (.int s0), .val (.long (f3_0 v11 v6)), .second, .val (.long v22), .second, .unset, .unset, .unset, .unset, .unset, .unset, .unset, .unset]) rfl rfl ?_
  refine own_lload C A at_137 rfl rfl ?_
  refine own_lload C A at_139 rfl rfl ?_
  refine own_lcmp C A at_141 rfl ?_
  refine own_ite (fun hc142 => ?_) (fun hc142 => ?_)
  · refine own_ifN C A at_142 (Jvm.Free.XT.ll_le_f hc142) rfl ?_
    refine own_lload C A at_145 rfl rfl ?_
    refine own_lstore C A at_147 (l' := #[.val (.long u0), .second, .val (.long u2), .second, .val (.long u4), .second, .val (.long v6), .second, .val (.long v8), .second, .val (.int u10), .val (.long v11), .second, .val (.long u13), .second, .val (.long v15), .second, .val (.long v17), .second, .val (.ref v19), .val (.long u20), .second, .val (.long v22), .second, .val (.long v24), .second, .val (.long u26), .second, .val (.int s0), .val (.long (f3_0 v11 v6)), .second, .val (.long (f3_0 v11 v6)), .second, .unset, .unset, .unset, .unset, .unset, .unset, .unset, .unset]) rfl rfl ?_
    refine own_lload C A at_149 rfl rfl ?_
    refine own_lstore C A at_151 (l' := #[.val (.long u0), .second, .val (.long u2), .second, .val (.long u4), .second, .val (.long v6), .second, .val (.long v8), .second, .val (.int u10), .val (.long v11), .second, .val (.long u13), .second, .val (.long v15), .second, .val (.long v17), .second, .val (.ref v19), .val (.long u20), .second, .val (.long v22), .second, .val (.long v15), .second, .val (.long u26), .second, .val (.int s0), .val (.long (f3_0 v11 v6)), .second, .val (.long (f3_0 v11 v6)), .second, .unset, .unset, .unset, .unset, .unset, .unset, .unset, .unset]) rfl rfl ?_
    refine own_goto C A at_153 (by decide) (q := 180) (by decide) ?_
    exact w0_180 C A v6 v8 v11 v15 v17 v15 s0 (f3_0 v11 v6) maxSlots_v19 slots_v19 lastIncrease_v19 F_maxSlots_v19 F_slots_v19 F_lastIncrease_v19 E_v19 g_v19
  · refine own_ifY C A at_142 (Jvm.Free.XT.ll_le_t hc142) (by decide) (q := 156) (by decide) ?_
    refine own_lload C A at_156 rfl rfl ?_
    refine own_lload C A at_158 rfl rfl ?_
    refine own_lcmp C A at_160 rfl ?_
    refine own_ite (fun hc161 => ?_) (fun hc161 => ?_)
    · refine own_ifN C A at_161 (Jvm.Free.XT.ll_ge_f hc161) rfl ?_
      refine own_lload C A at_164 rfl rfl ?_
      refine own_lload C A at_166 rfl rfl ?_
      refine own_lsub C A at_168 rfl ?_
      refine own_ldcJ C A (own_w C 40 rfl) at_169 rfl ?_
      refine own_lcmp C A at_172 rfl ?_
      refine own_ite (fun hc173 => ?_) (fun hc173 => ?_)
      · refine own_ifY C A at_173 (Jvm.Free.XT.ll_lt_t hc173) (by decide) (q := 180) (by decide) ?_
        exact w0_180 C A v6 v8 v11 v15 v17 v24 s0 v22 maxSlots_v19 slots_v19 lastIncrease_v19 F_maxSlots_v19 F_slots_v19 F_lastIncrease_v19 E_v19 g_v19
      · refine own_ifN C A at_173 (Jvm.Free.XT.ll_lt_f hc173) rfl ?_
        refine own_lload C A at_176 rfl rfl ?_
        refine own_lstore C A at_178 (l' := #[.val (.long u0), .second, .val (.long u2), .second, .val (.long u4), .second, .val (.long v6), .second, .val (.long v8), .second, .val (.int u10), .val (.long v11), .second, .val (.long u13), .second, .val (.long v15), .second, .val (.long v17), .second, .val (.ref v19), .val (.long u20), .second, .val (.long v22), .second, .val (.long v24), .second, .val (.long u26), .second, .val (.int s0), .val (.long (f3_0 v11 v6)), .second, .val (.long (f3_0 v11 v6)), .second, .unset, .unset, .unset, .unset, .unset, .unset, .unset, .unset]) rfl rfl ?_
        exact w0_180 C A v6 v8 v11 v15 v17 v24 s0 (f3_0 v11 v6) maxSlots_v19 slots_v19 lastIncrease_v19 F_maxSlots_v19 F_slots_v19 F_lastIncrease_v19 E_v19 g_v19
    · refine own_ifY C A at_161 (Jvm.Free.XT.ll_ge_t hc161) (by decide) (q := 180) (by decide) ?_
      exact w0_180 C A v6 v8 v11 v15 v17 v24 s0 v22 maxSlots_v19 slots_v19 lastIncrease_v19 F_maxSlots_v19 F_slots_v19 F_lastIncrease_v19 E_v19 g_v19
def f0_121 (v6 : Int64) (v8 : Int64) (v11 : Int64) (v15 : Int64) (v17 : Int64) (v22 : Int64) (v24 : Int64) (maxSlots_v19 : Int64) (slots_v19 : Int64) (lastIncrease_v19 : Int64) : Int32 := (f0_122 v6 v8 v11 v15 v17 v22 v24 (0 : Int32) maxSlots_v19 slots_v19 lastIncrease_v19)
set_option maxRecDepth 65536 in
set_option maxHeartbeats 4000000 in
theorem w0_121 {Z : State} {a0 : Array Value} {p : Program} {l : Launch} {e : Env} {s : State} {m : MethodId} {args : Array Value} {below : List Frame} {meth : Method} {c : Code} {T : State} {h : Heap} {n0 : Nat} {u0 : Int64} {u2 : Int64} {u4 : Int64} {u10 : Int32} {u13 : Int64} {v19 : Addr} {u20 : Int64} {u26 : Int64} (C : own_Cx Z a0 p l e room_1 s m args below meth c "com/example/fit50/fit50/engine/AutoscalerScalePinLaw" "law" code maxLocals ret) (A : own_At p l e room_1 s m args below meth c T h n0 1 3) (v6 : Int64) (v8 : Int64) (v11 : Int64) (v15 : Int64) (v17 : Int64) (v22 : Int64) (v24 : Int64) (maxSlots_v19 : Int64) (slots_v19 : Int64) (lastIncrease_v19 : Int64) (F_maxSlots_v19 : Fld Z h v19 "com/example/fit50/fit50/engine/Autoscaler" "maxSlots" "J" (.long maxSlots_v19)) (F_slots_v19 : Fld Z h v19 "com/example/fit50/fit50/engine/Autoscaler" "slots" "J" (.long slots_v19)) (F_lastIncrease_v19 : Fld Z h v19 "com/example/fit50/fit50/engine/Autoscaler" "lastIncrease" "J" (.long lastIncrease_v19)) (E_v19 : Exa Z h v19 "com/example/fit50/fit50/engine/Autoscaler") (g_v19 : n0 ≤ v19) :
    own_Go p.tables e below (T.setTop (mkF m 121 #[.val (.long u0), .second, .val (.long u2), .second, .val (.long u4), .second, .val (.long v6), .second, .val (.long v8), .second, .val (.int u10), .val (.long v11), .second, .val (.long u13), .second, .val (.long v15), .second, .val (.long v17), .second, .val (.ref v19), .val (.long u20), .second, .val (.long v22), .second, .val (.long v24), .second, .val (.long u26), .second, .unset, .unset, .unset, .unset, .unset, .unset, .unset, .unset, .unset, .unset, .unset, .unset, .unset] [])) (own_QR s n0 1 3 (own_RV (f0_121 v6 v8 v11 v15 v17 v22 v24 maxSlots_v19 slots_v19 lastIncrease_v19))) := by
  unfold f0_121
  refine own_iconst C A at_121 (v := 0) rfl rfl ?_
  exact w0_122 C A v6 v8 v11 v15 v17 v22 v24 (0 : Int32) maxSlots_v19 slots_v19 lastIncrease_v19 F_maxSlots_v19 F_slots_v19 F_lastIncrease_v19 E_v19 g_v19
def f0_87 (v4 : Int64) (v6 : Int64) (v8 : Int64) (v11 : Int64) (v13 : Int64) (v15 : Int64) (v17 : Int64) (v22 : Int64) (v24 : Int64) (maxSlots_v19 : Int64) (slots_v19 : Int64) (lastIncrease_v19 : Int64) : Int32 := (if (f4_0 v13 v4 maxSlots_v19 slots_v19 lastIncrease_v19).1 = v22 then (if (f5_0 (f4_0 v13 v4 maxSlots_v19 slots_v19 lastIncrease_v19).2.1 (f4_0 v13 v4 maxSlots_v19 slots_v19 lastIncrease_v19).2.2.1 (f4_0 v13 v4 maxSlots_v19 slots_v19 lastIncrease_v19).2.2.2) = v22 then (f0_122 v6 v8 v11 v15 v17 v22 v24 (1 : Int32) (f4_0 v13 v4 maxSlots_v19 slots_v19 lastIncrease_v19).2.1 (f4_0 v13 v4 maxSlots_v19 slots_v19 lastIncrease_v19).2.2.1 (f4_0 v13 v4 maxSlots_v19 slots_v19 lastIncrease_v19).2.2.2) else (f0_121 v6 v8 v11 v15 v17 v22 v24 (f4_0 v13 v4 maxSlots_v19 slots_v19 lastIncrease_v19).2.1 (f4_0 v13 v4 maxSlots_v19 slots_v19 lastIncrease_v19).2.2.1 (f4_0 v13 v4 maxSlots_v19 slots_v19 lastIncrease_v19).2.2.2)) else (f0_121 v6 v8 v11 v15 v17 v22 v24 (f4_0 v13 v4 maxSlots_v19 slots_v19 lastIncrease_v19).2.1 (f4_0 v13 v4 maxSlots_v19 slots_v19 lastIncrease_v19).2.2.1 (f4_0 v13 v4 maxSlots_v19 slots_v19 lastIncrease_v19).2.2.2))
set_option maxRecDepth 65536 in
set_option maxHeartbeats 4000000 in
theorem w0_87 {Z : State} {a0 : Array Value} {p : Program} {l : Launch} {e : Env} {s : State} {m : MethodId} {args : Array Value} {below : List Frame} {meth : Method} {c : Code} {T : State} {h : Heap} {n0 : Nat} {u0 : Int64} {u2 : Int64} {u10 : Int32} {v19 : Addr} {u20 : Int64} (C : own_Cx Z a0 p l e room_1 s m args below meth c "com/example/fit50/fit50/engine/AutoscalerScalePinLaw" "law" code maxLocals ret) (A : own_At p l e room_1 s m args below meth c T h n0 1 3) (v4 : Int64) (v6 : Int64) (v8 : Int64) (v11 : Int64) (v13 : Int64) (v15 : Int64) (v17 : Int64) (v22 : Int64) (v24 : Int64) (maxSlots_v19 : Int64) (slots_v19 : Int64) (lastIncrease_v19 : Int64) (F_maxSlots_v19 : Fld Z h v19 "com/example/fit50/fit50/engine/Autoscaler" "maxSlots" "J" (.long maxSlots_v19)) (F_slots_v19 : Fld Z h v19 "com/example/fit50/fit50/engine/Autoscaler" "slots" "J" (.long slots_v19)) (F_lastIncrease_v19 : Fld Z h v19 "com/example/fit50/fit50/engine/Autoscaler" "lastIncrease" "J" (.long lastIncrease_v19)) (E_v19 : Exa Z h v19 "com/example/fit50/fit50/engine/Autoscaler") (g_v19 : n0 ≤ v19) :
    own_Go p.tables e below (T.setTop (mkF m 87 #[.val (.long u0), .second, .val (.long u2), .second, .val (.long v4), .second, .val (.long v6), .second, .val (.long v8), .second, .val (.int u10), .val (.long v11), .second, .val (.long v13), .second, .val (.long v15), .second, .val (.long v17), .second, .val (.ref v19), .val (.long u20), .second, .val (.long v22), .second, .val (.long v24), .second, .unset, .unset, .unset, .unset, .unset, .unset, .unset, .unset, .unset, .unset, .unset, .unset, .unset, .unset, .unset] [])) (own_QR s n0 1 3 (own_RV (f0_87 v4 v6 v8 v11 v13 v15 v17 v22 v24 maxSlots_v19 slots_v19 lastIncrease_v19))) := by
  unfold f0_87
  refine own_aload C A at_87 rfl rfl rfl ?_
  refine own_lload C A at_89 rfl rfl ?_
  refine own_lload C A at_91 rfl rfl ?_
  refine own_callV C A 0 [(.long v13), (.long v4)] [] (own_w C 22 rfl) (own_w C 23 rfl) (own_w C 25 rfl) (own_w C 24 rfl) (own_w C 9 rfl) (own_w C 26 rfl) (by decide) rfl E_v19 (rm4 l Z a0 C.2.2.2.2.2.2.2.2 [] v19 v13 v4 maxSlots_v19 slots_v19 lastIncrease_v19 _ _ (own_size A) F_maxSlots_v19 F_slots_v19 F_lastIncrease_v19 E_v19 g_v19) (by decide) (by decide) (by decide) (by decide) own_pd0 rfl rfl rfl (Nat.le_of_eq rfl) rfl at_93 rfl (fun v T h hP A => ?_)
  replace A := own_more A (kc' := 1) (ks' := 3) (by decide) (by decide)
  obtain ⟨rfl, Kc, E_v19, F_maxSlots_v19, F_slots_v19, F_lastIncrease_v19⟩ := hP
  show own_Go p.tables e below (T.setTop (mkF m 96 #[.val (.long u0), .second, .val (.long u2), .second, .val (.long v4), .second, .val (.long v6), .second, .val (.long v8), .second, .val (.int u10), .val (.long v11), .second, .val (.long v13), .second, .val (.long v15), .second, .val (.long v17), .second, .val (.ref v19), .val (.long u20), .second, .val (.long v22), .second, .val (.long v24), .second, .unset, .unset, .unset, .unset, .unset, .unset, .unset, .unset, .unset, .unset, .unset, .unset, .unset, .unset, .unset] [(.long (f4_0 v13 v4 maxSlots_v19 slots_v19 lastIncrease_v19).1)])) _
  refine own_lstore C A at_96 (l' := #[.val (.long u0), .second, .val (.long u2), .second, .val (.long v4), .second, .val (.long v6), .second, .val (.long v8), .second, .val (.int u10), .val (.long v11), .second, .val (.long v13), .second, .val (.long v15), .second, .val (.long v17), .second, .val (.ref v19), .val (.long u20), .second, .val (.long v22), .second, .val (.long v24), .second, .val (.long (f4_0 v13 v4 maxSlots_v19 slots_v19 lastIncrease_v19).1), .second, .unset, .unset, .unset, .unset, .unset, .unset, .unset, .unset, .unset, .unset, .unset, .unset, .unset]) rfl rfl ?_
  refine own_lload C A at_98 rfl rfl ?_
  refine own_lload C A at_100 rfl rfl ?_
  refine own_lcmp C A at_102 rfl ?_
  refine own_ite (fun hc103 => ?_) (fun hc103 => ?_)
  · refine own_ifN C A at_103 (Jvm.Free.XT.ll_ne_f hc103) rfl ?_
    refine own_aload C A at_106 rfl rfl rfl ?_
    refine own_callVJ C A 0 [] [] (own_w C 29 rfl) (own_w C 30 rfl) (own_w C 32 rfl) (own_w C 31 rfl) (own_w C 9 rfl) (own_w C 33 rfl) (by decide) rfl E_v19 (rm5 l Z a0 C.2.2.2.2.2.2.2.2 [] v19 (f4_0 v13 v4 maxSlots_v19 slots_v19 lastIncrease_v19).2.1 (f4_0 v13 v4 maxSlots_v19 slots_v19 lastIncrease_v19).2.2.1 (f4_0 v13 v4 maxSlots_v19 slots_v19 lastIncrease_v19).2.2.2 _ _ (own_size A) F_maxSlots_v19 F_slots_v19 F_lastIncrease_v19 E_v19) rfl rfl (by decide) (by decide) (by decide) (by decide) own_pd2 rfl rfl rfl (Nat.le_of_eq rfl) rfl at_108 rfl (fun T A => ?_)
    refine own_lload C A at_111 rfl rfl ?_
    refine own_lcmp C A at_113 rfl ?_
    refine own_ite (fun hc114 => ?_) (fun hc114 => ?_)
    · refine own_ifN C A at_114 (Jvm.Free.XT.ll_ne_f hc114) rfl ?_
      refine own_iconst C A at_117 (v := 1) rfl rfl ?_
      refine own_goto C A at_118 (by decide) (q := 122) (by decide) ?_
      exact w0_122 C A v6 v8 v11 v15 v17 v22 v24 (1 : Int32) (f4_0 v13 v4 maxSlots_v19 slots_v19 lastIncrease_v19).2.1 (f4_0 v13 v4 maxSlots_v19 slots_v19 lastIncrease_v19).2.2.1 (f4_0 v13 v4 maxSlots_v19 slots_v19 lastIncrease_v19).2.2.2 F_maxSlots_v19 F_slots_v19 F_lastIncrease_v19 E_v19 g_v19
    · refine own_ifY C A at_114 (Jvm.Free.XT.ll_ne_t hc114) (by decide) (q := 121) (by decide) ?_
      exact w0_121 C A v6 v8 v11 v15 v17 v22 v24 (f4_0 v13 v4 maxSlots_v19 slots_v19 lastIncrease_v19).2.1 (f4_0 v13 v4 maxSlots_v19 slots_v19 lastIncrease_v19).2.2.1 (f4_0 v13 v4 maxSlots_v19 slots_v19 lastIncrease_v19).2.2.2 F_maxSlots_v19 F_slots_v19 F_lastIncrease_v19 E_v19 g_v19
  · refine own_ifY C A at_103 (Jvm.Free.XT.ll_ne_t hc103) (by decide) (q := 121) (by decide) ?_
    exact w0_121 C A v6 v8 v11 v15 v17 v22 v24 (f4_0 v13 v4 maxSlots_v19 slots_v19 lastIncrease_v19).2.1 (f4_0 v13 v4 maxSlots_v19 slots_v19 lastIncrease_v19).2.2.1 (f4_0 v13 v4 maxSlots_v19 slots_v19 lastIncrease_v19).2.2.2 F_maxSlots_v19 F_slots_v19 F_lastIncrease_v19 E_v19 g_v19
def f0_0 (v0 : Int64) (v2 : Int64) (v4 : Int64) (v6 : Int64) (v8 : Int64) (v10 : Int32) : Int32 := (if (0 : Int64) < (f3_0 ((50 : Int64) * (v0 &&& (281474976710655 : Int64))) v4) then (f0_87 v4 v6 v8 ((50 : Int64) * (v0 &&& (281474976710655 : Int64))) (f1_0 v2 (9223372036854775295 : Int64)) ((f1_0 v2 (9223372036854775295 : Int64)) + (((v10 &&& (127 : Int32)) + (1 : Int32)).toInt64)) (((f1_0 v2 (9223372036854775295 : Int64)) + (((v10 &&& (127 : Int32)) + (1 : Int32)).toInt64)) + (((((v10.toUInt32 >>> ((7 : Int32) &&& 31).toUInt32).toInt32) &&& (127 : Int32)) + (1 : Int32)).toInt64)) (f3_0 ((50 : Int64) * (v0 &&& (281474976710655 : Int64))) v4) (f1_0 v2 (9223372036854775295 : Int64)) (f2_0 ((50 : Int64) * (v0 &&& (281474976710655 : Int64)))).1 (f2_0 ((50 : Int64) * (v0 &&& (281474976710655 : Int64)))).2.1 (f2_0 ((50 : Int64) * (v0 &&& (281474976710655 : Int64)))).2.2) else (f0_87 v4 v6 v8 ((50 : Int64) * (v0 &&& (281474976710655 : Int64))) (f1_0 v2 (9223372036854775295 : Int64)) ((f1_0 v2 (9223372036854775295 : Int64)) + (((v10 &&& (127 : Int32)) + (1 : Int32)).toInt64)) (((f1_0 v2 (9223372036854775295 : Int64)) + (((v10 &&& (127 : Int32)) + (1 : Int32)).toInt64)) + (((((v10.toUInt32 >>> ((7 : Int32) &&& 31).toUInt32).toInt32) &&& (127 : Int32)) + (1 : Int32)).toInt64)) (f3_0 ((50 : Int64) * (v0 &&& (281474976710655 : Int64))) v4) (0 : Int64) (f2_0 ((50 : Int64) * (v0 &&& (281474976710655 : Int64)))).1 (f2_0 ((50 : Int64) * (v0 &&& (281474976710655 : Int64)))).2.1 (f2_0 ((50 : Int64) * (v0 &&& (281474976710655 : Int64)))).2.2))
set_option maxRecDepth 65536 in
set_option maxHeartbeats 4000000 in
theorem w0_0 {Z : State} {a0 : Array Value} {p : Program} {l : Launch} {e : Env} {s : State} {m : MethodId} {args : Array Value} {below : List Frame} {meth : Method} {c : Code} {T : State} {h : Heap} {n0 : Nat}  (C : own_Cx Z a0 p l e room_1 s m args below meth c "com/example/fit50/fit50/engine/AutoscalerScalePinLaw" "law" code maxLocals ret) (A : own_At p l e room_1 s m args below meth c T h n0 0 0) (v0 : Int64) (v2 : Int64) (v4 : Int64) (v6 : Int64) (v8 : Int64) (v10 : Int32) :
    own_Go p.tables e below (T.setTop (mkF m 0 #[.val (.long v0), .second, .val (.long v2), .second, .val (.long v4), .second, .val (.long v6), .second, .val (.long v8), .second, .val (.int v10), .unset, .unset, .unset, .unset, .unset, .unset, .unset, .unset, .unset, .unset, .unset, .unset, .unset, .unset, .unset, .unset, .unset, .unset, .unset, .unset, .unset, .unset, .unset, .unset, .unset, .unset, .unset, .unset, .unset, .unset] [])) (own_QR s n0 1 3 (own_RV (f0_0 v0 v2 v4 v6 v8 v10))) := by
  unfold f0_0
  refine own_ldcJ C A (own_w C 0 rfl) at_0 rfl ?_
  refine own_lloadN C A at_3 rfl rfl ?_
  refine own_ldcJ C A (own_w C 1 rfl) at_4 rfl ?_
  refine own_land C A at_7 rfl ?_
  refine own_lmul C A at_8 rfl ?_
  refine own_lstore C A at_9 (l' := #[.val (.long v0), .second, .val (.long v2), .second, .val (.long v4), .second, .val (.long v6), .second, .val (.long v8), .second, .val (.int v10), .val (.long ((50 : Int64) * (v0 &&& (281474976710655 : Int64)))), .second, .unset, .unset, .unset, .unset, .unset, .unset, .unset, .unset, .unset, .unset, .unset, .unset, .unset, .unset, .unset, .unset, .unset, .unset, .unset, .unset, .unset, .unset, .unset, .unset, .unset, .unset, .unset, .unset]) rfl rfl ?_
  refine own_lloadN C A at_11 rfl rfl ?_
  refine own_ldcJ C A (own_w C 2 rfl) at_12 rfl ?_
  refine own_callSJ C A 0 [(.long v2), (.long (9223372036854775295 : Int64))] [] (own_w C 3 rfl) (own_w C 4 rfl) (own_w C 5 rfl) (own_w C 6 rfl) (by decide) (rm1 l Z a0 C.2.2.2.2.2.2.2.2 [] v2 (9223372036854775295 : Int64) _ _ (own_size A)) rfl rfl (by decide) (by decide) (by decide) (by decide) own_pd0 rfl rfl rfl (Nat.le_of_eq rfl) rfl at_15 rfl (fun T A => ?_)
  refine own_lstore C A at_18 (l' := #[.val (.long v0), .second, .val (.long v2), .second, .val (.long v4), .second, .val (.long v6), .second, .val (.long v8), .second, .val (.int v10), .val (.long ((50 : Int64) * (v0 &&& (281474976710655 : Int64)))), .second, .val (.long (f1_0 v2 (9223372036854775295 : Int64))), .second, .unset, .unset, .unset, .unset, .unset, .unset, .unset, .unset, .unset, .unset, .unset, .unset, .unset, .unset, .unset, .unset, .unset, .unset, .unset, .unset, .unset, .unset, .unset, .unset, .unset, .unset]) rfl rfl ?_
  refine own_lload C A at_20 rfl rfl ?_
  refine own_iload C A at_22 rfl rfl ?_
  refine own_bipush C A at_24 (v := 127) rfl rfl ?_
  refine own_iand C A at_26 rfl ?_
  refine own_iconst C A at_27 (v := 1) rfl rfl ?_
  refine own_iadd C A at_28 rfl ?_
  refine own_i2l C A at_29 rfl ?_
  refine own_ladd C A at_30 rfl ?_
  refine own_lstore C A at_31 (l' := #[.val (.long v0), .second, .val (.long v2), .second, .val (.long v4), .second, .val (.long v6), .second, .val (.long v8), .second, .val (.int v10), .val (.long ((50 : Int64) * (v0 &&& (281474976710655 : Int64)))), .second, .val (.long (f1_0 v2 (9223372036854775295 : Int64))), .second, .val (.long ((f1_0 v2 (9223372036854775295 : Int64)) + (((v10 &&& (127 : Int32)) + (1 : Int32)).toInt64))), .second, .unset, .unset, .unset, .unset, .unset, .unset, .unset, .unset, .unset, .unset, .unset, .unset, .unset, .unset, .unset, .unset, .unset, .unset, .unset, .unset, .unset, .unset, .unset, .unset]) rfl rfl ?_
  refine own_lload C A at_33 rfl rfl ?_
  refine own_iload C A at_35 rfl rfl ?_
  refine own_bipush C A at_37 (v := 7) rfl rfl ?_
  refine own_iushr C A at_39 rfl ?_
  refine own_bipush C A at_40 (v := 127) rfl rfl ?_
  refine own_iand C A at_42 rfl ?_
  refine own_iconst C A at_43 (v := 1) rfl rfl ?_
  refine own_iadd C A at_44 rfl ?_
  refine own_i2l C A at_45 rfl ?_
  refine own_ladd C A at_46 rfl ?_
  refine own_lstore C A at_47 (l' := #[.val (.long v0), .second, .val (.long v2), .second, .val (.long v4), .second, .val (.long v6), .second, .val (.long v8), .second, .val (.int v10), .val (.long ((50 : Int64) * (v0 &&& (281474976710655 : Int64)))), .second, .val (.long (f1_0 v2 (9223372036854775295 : Int64))), .second, .val (.long ((f1_0 v2 (9223372036854775295 : Int64)) + (((v10 &&& (127 : Int32)) + (1 : Int32)).toInt64))), .second, .val (.long (((f1_0 v2 (9223372036854775295 : Int64)) + (((v10 &&& (127 : Int32)) + (1 : Int32)).toInt64)) + (((((v10.toUInt32 >>> ((7 : Int32) &&& 31).toUInt32).toInt32) &&& (127 : Int32)) + (1 : Int32)).toInt64))), .second, .unset, .unset, .unset, .unset, .unset, .unset, .unset, .unset, .unset, .unset, .unset, .unset, .unset, .unset, .unset, .unset, .unset, .unset, .unset, .unset, .unset, .unset]) rfl rfl ?_
  refine own_newO C A (own_w C 7 rfl) (own_w C 8 rfl) (own_w C 9 rfl) at_49 rfl (by decide) (by decide) (fun T h b49 e_b49 X_b49 E_b49 D_b49 g_b49 A => ?_)
  have F_maxSlots_b49 : Fld Z h b49 "com/example/fit50/fit50/engine/Autoscaler" "maxSlots" "J" (.long (0 : Int64)) := D_b49 (Or.inr (own_w C 17 rfl)) (ty := .long) (by decide)
  have F_slots_b49 : Fld Z h b49 "com/example/fit50/fit50/engine/Autoscaler" "slots" "J" (.long (0 : Int64)) := D_b49 (Or.inl (own_w C 28 rfl)) (ty := .long) (by decide)
  have F_lastIncrease_b49 : Fld Z h b49 "com/example/fit50/fit50/engine/Autoscaler" "lastIncrease" "J" (.long (0 : Int64)) := D_b49 (Or.inl (own_w C 39 rfl)) (ty := .long) (by decide)
  refine own_dup C A at_52 rfl rfl ?_
  refine own_lload C A at_53 rfl rfl ?_
  refine own_callC C A 1 [(.long ((50 : Int64) * (v0 &&& (281474976710655 : Int64))))] [(.ref b49)] rfl (own_w C 10 rfl) (own_w C 11 rfl) (own_w C 9 rfl) (own_w C 12 rfl) (by decide) (rm2 l Z a0 C.2.2.2.2.2.2.2.2 [] b49 ((50 : Int64) * (v0 &&& (281474976710655 : Int64))) (.long (0 : Int64)) _ _ (own_size A) F_maxSlots_b49 F_slots_b49 F_lastIncrease_b49 E_b49 g_b49) (by decide) (by decide) (by decide) (by decide) own_pd1 rfl rfl rfl (Nat.le_of_eq rfl) rfl at_55 rfl (fun v T h hP A => ?_)
  replace A := own_more A (kc' := 1) (ks' := 3) (by decide) (by decide)
  obtain ⟨rfl, Kc, E_b49, F_maxSlots_b49, F_slots_b49, F_lastIncrease_b49⟩ := hP
  show own_Go p.tables e below (T.setTop (mkF m 58 #[.val (.long v0), .second, .val (.long v2), .second, .val (.long v4), .second, .val (.long v6), .second, .val (.long v8), .second, .val (.int v10), .val (.long ((50 : Int64) * (v0 &&& (281474976710655 : Int64)))), .second, .val (.long (f1_0 v2 (9223372036854775295 : Int64))), .second, .val (.long ((f1_0 v2 (9223372036854775295 : Int64)) + (((v10 &&& (127 : Int32)) + (1 : Int32)).toInt64))), .second, .val (.long (((f1_0 v2 (9223372036854775295 : Int64)) + (((v10 &&& (127 : Int32)) + (1 : Int32)).toInt64)) + (((((v10.toUInt32 >>> ((7 : Int32) &&& 31).toUInt32).toInt32) &&& (127 : Int32)) + (1 : Int32)).toInt64))), .second, .unset, .unset, .unset, .unset, .unset, .unset, .unset, .unset, .unset, .unset, .unset, .unset, .unset, .unset, .unset, .unset, .unset, .unset, .unset, .unset, .unset, .unset] [(.ref b49)])) _
  refine own_astore C A at_58 rfl (l' := #[.val (.long v0), .second, .val (.long v2), .second, .val (.long v4), .second, .val (.long v6), .second, .val (.long v8), .second, .val (.int v10), .val (.long ((50 : Int64) * (v0 &&& (281474976710655 : Int64)))), .second, .val (.long (f1_0 v2 (9223372036854775295 : Int64))), .second, .val (.long ((f1_0 v2 (9223372036854775295 : Int64)) + (((v10 &&& (127 : Int32)) + (1 : Int32)).toInt64))), .second, .val (.long (((f1_0 v2 (9223372036854775295 : Int64)) + (((v10 &&& (127 : Int32)) + (1 : Int32)).toInt64)) + (((((v10.toUInt32 >>> ((7 : Int32) &&& 31).toUInt32).toInt32) &&& (127 : Int32)) + (1 : Int32)).toInt64))), .second, .val (.ref b49), .unset, .unset, .unset, .unset, .unset, .unset, .unset, .unset, .unset, .unset, .unset, .unset, .unset, .unset, .unset, .unset, .unset, .unset, .unset, .unset, .unset]) rfl rfl ?_
  refine own_lload C A at_60 rfl rfl ?_
  refine own_lload C A at_62 rfl rfl ?_
  refine own_callSJ C A 0 [(.long ((50 : Int64) * (v0 &&& (281474976710655 : Int64)))), (.long v4)] [] (own_w C 18 rfl) (own_w C 19 rfl) (own_w C 20 rfl) (own_w C 21 rfl) (by decide) (rm3 l Z a0 C.2.2.2.2.2.2.2.2 [] ((50 : Int64) * (v0 &&& (281474976710655 : Int64))) v4 _ _ (own_size A)) rfl rfl (by decide) (by decide) (by decide) (by decide) own_pd0 rfl rfl rfl (Nat.le_of_eq rfl) rfl at_64 rfl (fun T A => ?_)
  refine own_lstore C A at_67 (l' := #[.val (.long v0), .second, .val (.long v2), .second, .val (.long v4), .second, .val (.long v6), .second, .val (.long v8), .second, .val (.int v10), .val (.long ((50 : Int64) * (v0 &&& (281474976710655 : Int64)))), .second, .val (.long (f1_0 v2 (9223372036854775295 : Int64))), .second, .val (.long ((f1_0 v2 (9223372036854775295 : Int64)) + (((v10 &&& (127 : Int32)) + (1 : Int32)).toInt64))), .second, .val (.long (((f1_0 v2 (9223372036854775295 : Int64)) + (((v10 &&& (127 : Int32)) + (1 : Int32)).toInt64)) + (((((v10.toUInt32 >>> ((7 : Int32) &&& 31).toUInt32).toInt32) &&& (127 : Int32)) + (1 : Int32)).toInt64))), .second, .val (.ref b49), .val (.long (f3_0 ((50 : Int64) * (v0 &&& (281474976710655 : Int64))) v4)), .second, .unset, .unset, .unset, .unset, .unset, .unset, .unset, .unset, .unset, .unset, .unset, .unset, .unset, .unset, .unset, .unset, .unset, .unset, .unset]) rfl rfl ?_
  refine own_lload C A at_69 rfl rfl ?_
  refine own_lstore C A at_71 (l' := #[.val (.long v0), .second, .val (.long v2), .second, .val (.long v4), .second, .val (.long v6), .second, .val (.long v8), .second, .val (.int v10), .val (.long ((50 : Int64) * (v0 &&& (281474976710655 : Int64)))), .second, .val (.long (f1_0 v2 (9223372036854775295 : Int64))), .second, .val (.long ((f1_0 v2 (9223372036854775295 : Int64)) + (((v10 &&& (127 : Int32)) + (1 : Int32)).toInt64))), .second, .val (.long (((f1_0 v2 (9223372036854775295 : Int64)) + (((v10 &&& (127 : Int32)) + (1 : Int32)).toInt64)) + (((((v10.toUInt32 >>> ((7 : Int32) &&& 31).toUInt32).toInt32) &&& (127 : Int32)) + (1 : Int32)).toInt64))), .second, .val (.ref b49), .val (.long (f3_0 ((50 : Int64) * (v0 &&& (281474976710655 : Int64))) v4)), .second, .val (.long (f3_0 ((50 : Int64) * (v0 &&& (281474976710655 : Int64))) v4)), .second, .unset, .unset, .unset, .unset, .unset, .unset, .unset, .unset, .unset, .unset, .unset, .unset, .unset, .unset, .unset, .unset, .unset]) rfl rfl ?_
  refine own_lconst C A at_73 (v := 0) rfl rfl ?_
  refine own_lstore C A at_74 (l' := #[.val (.long v0), .second, .val (.long v2), .second, .val (.long v4), .second, .val (.long v6), .second, .val (.long v8), .second, .val (.int v10), .val (.long ((50 : Int64) * (v0 &&& (281474976710655 : Int64)))), .second, .val (.long (f1_0 v2 (9223372036854775295 : Int64))), .second, .val (.long ((f1_0 v2 (9223372036854775295 : Int64)) + (((v10 &&& (127 : Int32)) + (1 : Int32)).toInt64))), .second, .val (.long (((f1_0 v2 (9223372036854775295 : Int64)) + (((v10 &&& (127 : Int32)) + (1 : Int32)).toInt64)) + (((((v10.toUInt32 >>> ((7 : Int32) &&& 31).toUInt32).toInt32) &&& (127 : Int32)) + (1 : Int32)).toInt64))), .second, .val (.ref b49), .val (.long (f3_0 ((50 : Int64) * (v0 &&& (281474976710655 : Int64))) v4)), .second, .val (.long (f3_0 ((50 : Int64) * (v0 &&& (281474976710655 : Int64))) v4)), .second, .val (.long (0 : Int64)), .second, .unset, .unset, .unset, .unset, .unset, .unset, .unset, .unset, .unset, .unset, .unset, .unset, .unset, .unset, .unset]) rfl rfl ?_
  refine own_lload C A at_76 rfl rfl ?_
  refine own_lconst C A at_78 (v := 0) rfl rfl ?_
  refine own_lcmp C A at_79 rfl ?_
  refine own_ite (fun hc80 => ?_) (fun hc80 => ?_)
  · refine own_ifN C A at_80 (Jvm.Free.XT.ll_le_f hc80) rfl ?_
    refine own_lload C A at_83 rfl rfl ?_
    refine own_lstore C A at_85 (l' := #[.val (.long v0), .second, .val (.long v2), .second, .val (.long v4), .second, .val (.long v6), .second, .val (.long v8), .second, .val (.int v10), .val (.long ((50 : Int64) * (v0 &&& (281474976710655 : Int64)))), .second, .val (.long (f1_0 v2 (9223372036854775295 : Int64))), .second, .val (.long ((f1_0 v2 (9223372036854775295 : Int64)) + (((v10 &&& (127 : Int32)) + (1 : Int32)).toInt64))), .second, .val (.long (((f1_0 v2 (9223372036854775295 : Int64)) + (((v10 &&& (127 : Int32)) + (1 : Int32)).toInt64)) + (((((v10.toUInt32 >>> ((7 : Int32) &&& 31).toUInt32).toInt32) &&& (127 : Int32)) + (1 : Int32)).toInt64))), .second, .val (.ref b49), .val (.long (f3_0 ((50 : Int64) * (v0 &&& (281474976710655 : Int64))) v4)), .second, .val (.long (f3_0 ((50 : Int64) * (v0 &&& (281474976710655 : Int64))) v4)), .second, .val (.long (f1_0 v2 (9223372036854775295 : Int64))), .second, .unset, .unset, .unset, .unset, .unset, .unset, .unset, .unset, .unset, .unset, .unset, .unset, .unset, .unset, .unset]) rfl rfl ?_
    exact w0_87 C A v4 v6 v8 ((50 : Int64) * (v0 &&& (281474976710655 : Int64))) (f1_0 v2 (9223372036854775295 : Int64)) ((f1_0 v2 (9223372036854775295 : Int64)) + (((v10 &&& (127 : Int32)) + (1 : Int32)).toInt64)) (((f1_0 v2 (9223372036854775295 : Int64)) + (((v10 &&& (127 : Int32)) + (1 : Int32)).toInt64)) + (((((v10.toUInt32 >>> ((7 : Int32) &&& 31).toUInt32).toInt32) &&& (127 : Int32)) + (1 : Int32)).toInt64)) (f3_0 ((50 : Int64) * (v0 &&& (281474976710655 : Int64))) v4) (f1_0 v2 (9223372036854775295 : Int64)) (f2_0 ((50 : Int64) * (v0 &&& (281474976710655 : Int64)))).1 (f2_0 ((50 : Int64) * (v0 &&& (281474976710655 : Int64)))).2.1 (f2_0 ((50 : Int64) * (v0 &&& (281474976710655 : Int64)))).2.2 F_maxSlots_b49 F_slots_b49 F_lastIncrease_b49 E_b49 g_b49
  · refine own_ifY C A at_80 (Jvm.Free.XT.ll_le_t hc80) (by decide) (q := 87) (by decide) ?_
    exact w0_87 C A v4 v6 v8 ((50 : Int64) * (v0 &&& (281474976710655 : Int64))) (f1_0 v2 (9223372036854775295 : Int64)) ((f1_0 v2 (9223372036854775295 : Int64)) + (((v10 &&& (127 : Int32)) + (1 : Int32)).toInt64)) (((f1_0 v2 (9223372036854775295 : Int64)) + (((v10 &&& (127 : Int32)) + (1 : Int32)).toInt64)) + (((((v10.toUInt32 >>> ((7 : Int32) &&& 31).toUInt32).toInt32) &&& (127 : Int32)) + (1 : Int32)).toInt64)) (f3_0 ((50 : Int64) * (v0 &&& (281474976710655 : Int64))) v4) (0 : Int64) (f2_0 ((50 : Int64) * (v0 &&& (281474976710655 : Int64)))).1 (f2_0 ((50 : Int64) * (v0 &&& (281474976710655 : Int64)))).2.1 (f2_0 ((50 : Int64) * (v0 &&& (281474976710655 : Int64)))).2.2 F_maxSlots_b49 F_slots_b49 F_lastIncrease_b49 E_b49 g_b49
theorem own_ef0 (m : MethodId) (v0 : Int64) (v2 : Int64) (v4 : Int64) (v6 : Int64) (v8 : Int64) (v10 : Int32) : entryFrame m #[(.long v0), (.long v2), (.long v4), (.long v6), (.long v8), (.int v10)] maxLocals = mkF m 0 #[.val (.long v0), .second, .val (.long v2), .second, .val (.long v4), .second, .val (.long v6), .second, .val (.long v8), .second, .val (.int v10), .unset, .unset, .unset, .unset, .unset, .unset, .unset, .unset, .unset, .unset, .unset, .unset, .unset, .unset, .unset, .unset, .unset, .unset, .unset, .unset, .unset, .unset, .unset, .unset, .unset, .unset, .unset, .unset, .unset, .unset] [] := by first | (simp [entryFrame, mkF, argsToLocals, Value.category, maxLocals]; done) | rfl
theorem rm0 (l : Launch) (Z : State) (a0 : Array Value) (hw : ∀ d ∈ tables_1, d.before a0 Z = true) (ws : List Jvm.Cond) (v0 : Int64) (v2 : Int64) (v4 : Int64) (v6 : Int64) (v8 : Int64) (v10 : Int32) (h : Heap) (n0 : Nat) (hn : n0 ≤ h.size) :
    MetFree l x (head1 (Jvm.Cond.code x code maxLocals ret :: ws) room_1) (fun a U => a = #[(.long v0), (.long v2), (.long v4), (.long v6), (.long v8), (.int v10)] ∧ Z.Warmed39 U.vm ∧ U.heap = h) (fun _ _ _ _ _ => True) (fun _ U o U' => own_QR U n0 1 3 (own_RV (f0_0 v0 v2 v4 v6 v8 v10)) o U') :=
  own_met (plainFor_of_name (by first | (simp [plainName, overriddenIn, x]; done) | decide +kernel)) hw hn (fun m => own_ef0 m v0 v2 v4 v6 v8 v10) (fun p e s m below meth c T C A => w0_0 C A v0 v2 v4 v6 v8 v10)
theorem own_k (u : Int64) (h : 0 < u) : (if ((u / (50000 : Int64)) * (50000 : Int64)) < u then (u / (50000 : Int64)) + 1 else u / (50000 : Int64)) = ((u - (1 : Int64)) / (50000 : Int64)) + 1 := by
  have l0 : (0 : Int64).toInt = 0 := rfl
  have l1 : (1 : Int64).toInt = 1 := rfl
  have l5 : (50000 : Int64).toInt = 50000 := rfl
  have ru := rng64 u
  rw [Int64.lt_iff_toInt_lt, l0] at h
  have d1 := (c_ldiv u 50000 50000 rfl (by decide)).1 (by omega)
  have c1 := c_lsub u 1
  have r1 := rng64 (u - 1)
  rw [l1] at c1
  have d2 := (c_ldiv (u - 1) 50000 50000 rfl (by decide)).1 (by omega)
  have m1 := c_lmul (u / 50000) 50000
  rw [l5, d1] at m1
  have q1 := rng64 (u / 50000 * 50000)
  have a1 := c_ladd (u / 50000) 1
  have a2 := c_ladd ((u - 1) / 50000) 1
  have q2 := rng64 (u / 50000 + 1)
  have q3 := rng64 ((u - 1) / 50000 + 1)
  rw [l1] at a1 a2
  apply Int64.toInt_inj.mp
  by_cases hh : ((u / (50000 : Int64)) * (50000 : Int64)) < u
  · rw [if_pos hh]
    rw [Int64.lt_iff_toInt_lt] at hh
    omega
  · rw [if_neg hh]
    rw [Int64.lt_iff_toInt_lt] at hh
    omega
theorem own_sc (s u mx sl la : Int64) : f4_0 s u mx sl la = f4_35 s (f3_0 mx u) mx sl la := by
  unfold f4_0 f3_0
  by_cases h : 0 < u
  · rw [if_pos h, if_pos h, ← own_k u h]
    unfold f3_32
    split <;> rfl
  · rw [if_neg h, if_neg h]
theorem own_nn (mx u : Int64) (hm : 0 ≤ mx.toInt) : 0 ≤ (f3_0 mx u).toInt := by
  have l0 : (0 : Int64).toInt = 0 := rfl
  have l1 : (1 : Int64).toInt = 1 := rfl
  have l5 : (50 : Int64).toInt = 50 := rfl
  have mn : ∀ a : Int64, 0 ≤ a.toInt → 0 ≤ (f1_0 a mx).toInt := by
    intro a ha
    unfold f1_0
    split
    · exact hm
    · exact ha
  unfold f3_0 f3_32
  by_cases h : 0 < u
  · rw [if_pos h]
    rw [Int64.lt_iff_toInt_lt, l0] at h
    have ru := rng64 u
    have d1 := (c_ldiv u 50000 50000 rfl (by decide)).1 (by omega)
    have a1 := c_ladd (u / 50000) 1
    have q2 := rng64 (u / 50000 + 1)
    rw [l1] at a1
    have m1 := c_lmul (u / 50000) 50
    have m2 := c_lmul (u / 50000 + 1) 50
    have q3 := rng64 (u / 50000 * 50)
    have q4 := rng64 ((u / 50000 + 1) * 50)
    rw [l5] at m1 m2
    have k0 : 0 ≤ (u / 50000).toInt ∧ (u / 50000).toInt ≤ 184467440737096 := by clear m1 m2 a1; omega
    have k1 : (u / 50000 + 1).toInt = (u / 50000).toInt + 1 := by clear m1 m2 d1; omega
    have k2 : (u / 50000 * 50).toInt = (u / 50000).toInt * 50 := by clear m2 a1 d1 k1; omega
    have k3 : ((u / 50000 + 1) * 50).toInt = ((u / 50000).toInt + 1) * 50 := by rw [k1] at m2; clear m1 a1 d1 k1 k2; omega
    split
    · exact mn _ (by rw [k3]; omega)
    · exact mn _ (by rw [k2]; omega)
  · rw [if_neg h]
    exact Int.le_refl _
theorem own_sl (s t mx sl la : Int64) : (f4_35 s t mx sl la).2.2.1 = (f4_35 s t mx sl la).1 ∧ (f4_35 s t mx sl la).2.1 = mx := by
  unfold f4_35 f4_88
  split
  · exact ⟨rfl, rfl⟩
  · split
    · split <;> exact ⟨rfl, rfl⟩
    · exact ⟨rfl, rfl⟩
theorem own_274 (u s e mx sl la : Int64) (h : (f4_35 s (f3_0 mx u) mx sl la).1 = e) : f0_274 u s 1 e mx sl la = 1 := by
  unfold f0_274 f5_0
  rw [own_sc, (own_sl _ _ _ _ _).1, if_neg (by decide), if_pos h, if_pos h]
  rfl
theorem own_220 (u mx s e la : Int64) : f0_220 u mx s la e 1 mx e la = 1 := by
  unfold f0_220
  by_cases h1 : e < f3_0 mx u
  · rw [if_pos h1]; exact own_274 _ _ _ _ _ _ (by unfold f4_35 f4_88; rw [if_pos h1])
  · rw [if_neg h1]
    by_cases h2 : f3_0 mx u < e
    · rw [if_pos h2]
      by_cases h3 : (s - la) < 61
      · rw [if_pos h3]; exact own_274 _ _ _ _ _ _ (by unfold f4_35 f4_88; rw [if_neg h1, if_pos h2, if_pos h3])
      · rw [if_neg h3]; exact own_274 _ _ _ _ _ _ (by unfold f4_35 f4_88; rw [if_neg h1, if_pos h2, if_neg h3])
    · rw [if_neg h2]; exact own_274 _ _ _ _ _ _ (by unfold f4_35 f4_88; rw [if_neg h1, if_neg h2])
theorem own_180 (u2 u3 mx s2 s3 li e sl la : Int64) (h : f4_35 s2 (f3_0 mx u2) mx sl la = (e, mx, e, li)) : f0_180 u2 u3 mx s2 s3 li 1 e mx sl la = 1 := by
  unfold f0_180 f5_0
  rw [own_sc, h, if_neg (by decide)]
  dsimp only
  rw [if_pos rfl, if_pos rfl]
  exact own_220 _ _ _ _ _
theorem own_122 (u2 u3 mx s2 s3 e la : Int64) : f0_122 u2 u3 mx s2 s3 e la 1 mx e la = 1 := by
  unfold f0_122
  by_cases h1 : e < f3_0 mx u2
  · rw [if_pos h1]; exact own_180 _ _ _ _ _ _ _ _ _ (by unfold f4_35 f4_88; rw [if_pos h1])
  · rw [if_neg h1]
    by_cases h2 : f3_0 mx u2 < e
    · rw [if_pos h2]
      by_cases h3 : (s2 - la) < 61
      · rw [if_pos h3]; exact own_180 _ _ _ _ _ _ _ _ _ (by unfold f4_35 f4_88; rw [if_neg h1, if_pos h2, if_pos h3])
      · rw [if_neg h3]; exact own_180 _ _ _ _ _ _ _ _ _ (by unfold f4_35 f4_88; rw [if_neg h1, if_pos h2, if_neg h3])
    · rw [if_neg h2]; exact own_180 _ _ _ _ _ _ _ _ _ (by unfold f4_35 f4_88; rw [if_neg h1, if_neg h2])
theorem own_87 (u1 u2 u3 mx s1 s2 s3 li t : Int64) (ht : f3_0 mx u1 = t) (h : f4_35 s1 t mx 0 0 = (t, mx, t, li)) : f0_87 u1 u2 u3 mx s1 s2 s3 t li mx 0 0 = 1 := by
  unfold f0_87 f5_0
  rw [own_sc, ht, h]
  dsimp only
  rw [if_pos rfl, if_pos rfl]
  exact own_122 _ _ _ _ _ _ _
theorem own_plain (m s u1 u2 u3 : Int64) (k : Int32) : f0_0 m s u1 u2 u3 k = 1 := by
  have l0 : (0 : Int64).toInt = 0 := rfl
  have l5 : (50 : Int64).toInt = 50 := rfl
  have h1 := c_maskL m 281474976710655 48 (by decide) (by decide)
  have h2 := c_lmul 50 (m &&& 281474976710655)
  have h3 := rng64 (50 * (m &&& 281474976710655))
  rw [l5, h1] at h2
  have h4 : 0 ≤ m.toInt % ((2 ^ 48 : Nat) : Int) ∧ m.toInt % ((2 ^ 48 : Nat) : Int) < 281474976710656 := by omega
  have hm : 0 ≤ (50 * (m &&& 281474976710655)).toInt := by
    generalize m.toInt % ((2 ^ 48 : Nat) : Int) = z at *
    have h5 : (50 * (m &&& 281474976710655)).toInt = 50 * z := by clear h1; omega
    omega
  unfold f0_0 f2_0
  dsimp only
  generalize (50 : Int64) * (m &&& (281474976710655 : Int64)) = mx at *
  have hn := own_nn mx u1 hm
  by_cases hp : 0 < f3_0 mx u1
  · rw [if_pos hp]
    exact own_87 _ _ _ _ _ _ _ _ _ rfl (by unfold f4_35 f4_88; rw [if_pos hp])
  · rw [if_neg hp]
    have hz : f3_0 mx u1 = 0 := by
      apply Int64.toInt_inj.mp
      rw [Int64.lt_iff_toInt_lt, l0] at hp
      rw [l0]
      omega
    rw [hz]
    exact own_87 _ _ _ _ _ _ _ _ _ hz (by unfold f4_35 f4_88; rw [if_neg (by decide), if_neg (by decide)])

set_option maxRecDepth 65536 in
set_option maxHeartbeats 40000000 in
theorem own_comes {Post : Tables → Env → Array Value → State → Outcome → State → Prop} (hpost : ∀ tb e args s v u, (limb_1_1.after args s (.returned v) u = true ∧ limb_1_2.after args s (.returned v) u = true ∧ True) → FrameEnd s (.returned v) u (Jvm.fieldLocs frame_1_writes args s ++ Jvm.arrayLocs frame_1_arrays args s ++ Jvm.staticLocs frame_1_statics s) 16 128 → Post tb e args s (.returned v) u) :
    ArmFor flags0 classFile x code maxLocals ret World_1 tables_1 room_1 Calls_1 rest_1 Pre_1 Post := by
  intro l hfl _ _ p e ha hc hk s m args below hf hA hF happ hP
  obtain ⟨hcalls, hrest, hpre⟩ := hP
  obtain ⟨-, -, -, hnamed, -, -, -, hat⟩ := (Spec.applies_iff hf).mp happ
  obtain ⟨hg, hn⟩ := and_e (Cond.before_iff.mp (show (Jvm.Cond.and given_1 narrow_1).before args s = true from hpre))
  obtain ⟨h1, g0⟩ := and_e hg
  obtain ⟨k0, g1⟩ := and_e g0
  obtain ⟨k1, g2⟩ := and_e g1
  obtain ⟨k2, g3⟩ := and_e g2
  obtain ⟨k3, g4⟩ := and_e g3
  obtain ⟨k4, g5⟩ := and_e g4
  obtain ⟨w0, w1, w2, w3, w4, w5, rfl⟩ : ∃ w0 w1 w2 w3 w4 w5 : Value, args = #[w0, w1, w2, w3, w4, w5] := by
    have hs : args.size = 6 := by simpa [Cond.value, given_1] using h1
    obtain ⟨L⟩ := args
    match L, hs with
    | [w0, w1, w2, w3, w4, w5], _ => exact ⟨w0, w1, w2, w3, w4, w5, rfl⟩
  have hw := fun d (hd : d ∈ tables_1) => atoms_spec (ws := Jvm.Cond.code x code maxLocals ret :: tables_1) hat d (List.mem_cons_of_mem _ hd)
  obtain ⟨i0, e0⟩ := isL_v k0
  obtain rfl : w0 = (.long i0) := Option.some.inj e0
  obtain ⟨i1, e1⟩ := isL_v k1
  obtain rfl : w1 = (.long i1) := Option.some.inj e1
  obtain ⟨i2, e2⟩ := isL_v k2
  obtain rfl : w2 = (.long i2) := Option.some.inj e2
  obtain ⟨i3, e3⟩ := isL_v k3
  obtain rfl : w3 = (.long i3) := Option.some.inj e3
  obtain ⟨i4, e4⟩ := isL_v k4
  obtain rfl : w4 = (.long i4) := Option.some.inj e4
  obtain ⟨i5, e5⟩ := is_v g5
  obtain rfl : w5 = (.int i5) := Option.some.inj e5
  obtain ⟨n, o, h1, h2, h3, _, L, rfl, ⟨hv, N⟩, hq⟩ := rm0 l s _ hw tables_1 i0 i1 i2 i3 i4 i5 s.heap s.heap.size (Nat.le_refl _) p e ha hc hk s m _ below hf ((Spec.applies_iff_loose hf).mp happ).1 ⟨rfl, State.Warmed39.refl s, rfl⟩ trivial
  have hv' := Eq.trans hv (congrArg (fun z => some (Value.int z)) (own_plain i0 i1 i2 i3 i4 i5))
  subst hv'
  refine ⟨n, _, h1, h2, h3, hpost _ _ _ _ _ _ ⟨Cond.after_iff.mpr rfl, Cond.after_iff.mpr (eq_i res_at (Term.int_eval (1)) rfl), trivial⟩ ⟨hq.1, hq.2.1, (hq.2.2.sift fun y hy => Or.inr (N y hy)).mono (by decide) (by decide)⟩⟩
theorem main_1_1 : Claimed_1_1 := own_comes fun _ _ _ _ _ _ h hF => ⟨h.1, hF⟩
theorem main_1_2 : Claimed_1_2 := own_comes fun _ _ _ _ _ _ h hF => ⟨h.2.1, hF⟩
end Jvm.Pilot.@@N@@
namespace Jvm.Pilot.@@N@@
open Jvm Jvm.ClassFile Sem Op Lib Jvm.Free Jvm.Stand Jvm.Pilot.@@N@@.Jvm.D
/-! MADE BY PROGRAM (witnessworld.py) out of the Statement's table words and the real class files: 10 classes; the members and pool entries that the words name. The judged class is class 1, her method 2. -/
namespace start1
open Jvm.ClassFile
def u (s : String) : CpInfo := .utf8 (stringToUtf16 s)
/-- a pool by its gaps: so many unusable entries, then the entry; so many at the end -/
def gap : Nat → List CpInfo → List CpInfo
  | 0, r => r
  | n + 1, r => .unusable :: gap n r
def poolList (es : List (Nat × CpInfo)) (last : Nat) : List CpInfo := es.foldr (fun e r => gap e.1 (e.2 :: r)) (gap last [])
def pool (es : List (Nat × CpInfo)) (last : Nat) : Array CpInfo := ⟨poolList es last⟩
def fileOf (pool : Array CpInfo) (this : Nat) (attrs : Array Attribute := #[]) (ms : Array MethodInfo := #[]) (fl : Nat := 33) (sup : Nat := 0) (ifs : Array Nat := #[]) (fds : Array FieldInfo := #[]) : ClassFile where
  minorVersion := 0
  majorVersion := 65
  constantPool := pool
  accessFlags := fl
  thisClass := this
  superClass := sup
  interfaces := ifs
  fields := fds
  methods := ms
  attributes := attrs
def plain (name : String) (sup : Option ClassId) : Class where
  name := name
  kind := .ordinary
  loader := none
  accessFlags := 33
  super := sup
  interfaces := #[]
  cf := none
  fields := #[]
  methods := #[]
  instanceTypes := #[]
  staticTypes := #[]
  resolved := #[]
  callSites := []
  init := .initialized
  statics := none
  mirror := none

def pool0 : Array CpInfo := pool [(5, u "<init>"), (0, u "()V"), (1, .class_ 10), (1, u "java/lang/Object")] 113

def k0c0 : Code := { maxStack := 0, maxLocals := 1, code := object_method_1_code, exceptionTable := #[], attributes := #[] }
def k0m0 : Method := { name := "<init>", desc := "()V", sig := { parameters := [], returnType := none }, accessFlags := 1, code := some k0c0 }
/-- java/lang/Object -/
def k0 : Class := { plain "java/lang/Object" none with
  accessFlags := 33
  interfaces := #[]
  cf := some (fileOf pool0 8 #[] #[{ accessFlags := 1, nameIndex := 5, descriptorIndex := 6, attributes := #[] }] 33 0 #[] #[])
  fields := #[]
  methods := #[k0m0]
  instanceTypes := #[]
  staticTypes := #[]
  resolved := Array.replicate 124 none
  statics := none }

def pool1 : Array CpInfo := pool [(2, .class_ 4), (1, u "java/lang/Object"), (0, u "<init>"), (0, u "()V"), (0, .long 50000), (1, .long 50), (1, .methodref 12 13), (0, .class_ 14), (0, .nameAndType 15 16), (0, u "java/lang/Math"), (0, u "min"), (0, u "(JJ)J"), (0, .long 281474976710655), (3, .long 9223372036854775295), (1, .class_ 24), (0, u "com/example/fit50/fit50/engine/Autoscaler"), (0, .methodref 23 26), (0, .nameAndType 5 27), (0, u "(J)V"), (0, .methodref 29 30), (0, .class_ 31), (0, .nameAndType 32 16), (0, u "com/example/fit50/fit50/engine/AutoscalerScalePinLaw"), (0, u "target"), (0, .methodref 23 34), (0, .nameAndType 35 16), (0, u "scale"), (0, .methodref 23 37), (0, .nameAndType 38 39), (0, u "slots"), (0, u "()J"), (0, .long 61), (4, u "law"), (0, u "(JJJJJI)Z")] 2

def k1m0 : Method := { name := "<init>", desc := "()V", sig := { parameters := [], returnType := none }, accessFlags := 1, code := none }
def k1c1 : Code := { maxStack := 4, maxLocals := 6, code := method_2_code, exceptionTable := #[], attributes := #[] }
def k1m1 : Method := { name := "target", desc := "(JJ)J", sig := { parameters := [.long, .long], returnType := some .long }, accessFlags := 10, code := some k1c1 }
def k1c2 : Code := { maxStack := 6, maxLocals := 41, code := code, exceptionTable := #[], attributes := #[] }
def k1m2 : Method := { name := "law", desc := "(JJJJJI)Z", sig := { parameters := [.long, .long, .long, .long, .long, .int], returnType := some .boolean }, accessFlags := 9, code := some k1c2 }
/-- com/example/fit50/fit50/engine/AutoscalerScalePinLaw -/
def k1 : Class := { plain "com/example/fit50/fit50/engine/AutoscalerScalePinLaw" (some 0) with
  accessFlags := 49
  interfaces := #[]
  cf := some (fileOf pool1 29 #[] #[{ accessFlags := 1, nameIndex := 5, descriptorIndex := 6, attributes := #[] }, { accessFlags := 10, nameIndex := 32, descriptorIndex := 16, attributes := #[] }, { accessFlags := 9, nameIndex := 45, descriptorIndex := 46, attributes := #[] }] 49 2 #[] #[])
  fields := #[]
  methods := #[k1m0, k1m1, k1m2]
  instanceTypes := #[]
  staticTypes := #[]
  resolved := Array.replicate 49 none
  statics := none }

def pool2 : Array CpInfo := pool [(1, .class_ 2), (0, u "java/lang/Math"), (1, .class_ 6), (1, u "java/lang/Object"), (0, u "<init>"), (0, u "()V"), (89, .class_ 100), (1, u "java/lang/Math$RandomNumberGeneratorHolder"), (20, u "(JJ)J"), (50, u "negativeZeroFloatBits"), (0, u "J"), (2, u "negativeZeroDoubleBits"), (24, u "min"), (43, u "$assertionsDisabled"), (0, u "Z"), (91, u "twoToTheDoubleScaleDown"), (0, u "D"), (4, u "twoToTheDoubleScaleUp"), (9, u "E"), (3, u "PI"), (2, u "TAU"), (2, u "DEGREES_TO_RADIANS"), (0, u "RADIANS_TO_DEGREES")] 94

def k2m0 : Method := { name := "<init>", desc := "()V", sig := { parameters := [], returnType := none }, accessFlags := 2, code := none }
def k2c1 : Code := { maxStack := 4, maxLocals := 4, code := jdk_29_method_70_code, exceptionTable := #[], attributes := #[] }
def k2m1 : Method := { name := "min", desc := "(JJ)J", sig := { parameters := [.long, .long], returnType := some .long }, accessFlags := 9, code := some k2c1 }
/-- java/lang/Math -/
def k2 : Class := { plain "java/lang/Math" (some 0) with
  accessFlags := 49
  interfaces := #[]
  cf := some (fileOf pool2 1 #[.nestMembers #[98]] #[{ accessFlags := 2, nameIndex := 7, descriptorIndex := 8, attributes := #[] }, { accessFlags := 9, nameIndex := 201, descriptorIndex := 121, attributes := #[] }] 49 4 #[] #[{ accessFlags := 25, nameIndex := 354, descriptorIndex := 339, attributes := #[] }, { accessFlags := 25, nameIndex := 358, descriptorIndex := 339, attributes := #[] }, { accessFlags := 25, nameIndex := 361, descriptorIndex := 339, attributes := #[] }, { accessFlags := 26, nameIndex := 364, descriptorIndex := 339, attributes := #[] }, { accessFlags := 26, nameIndex := 365, descriptorIndex := 339, attributes := #[] }, { accessFlags := 26, nameIndex := 172, descriptorIndex := 173, attributes := #[] }, { accessFlags := 26, nameIndex := 176, descriptorIndex := 173, attributes := #[] }, { accessFlags := 8, nameIndex := 344, descriptorIndex := 339, attributes := #[] }, { accessFlags := 8, nameIndex := 338, descriptorIndex := 339, attributes := #[] }, { accessFlags := 4120, nameIndex := 245, descriptorIndex := 246, attributes := #[] }])
  fields := #[{ name := "E", type := .double, accessFlags := 25, slot := 0, constantValue := 0 }, { name := "PI", type := .double, accessFlags := 25, slot := 1, constantValue := 0 }, { name := "TAU", type := .double, accessFlags := 25, slot := 2, constantValue := 0 }, { name := "DEGREES_TO_RADIANS", type := .double, accessFlags := 26, slot := 3, constantValue := 0 }, { name := "RADIANS_TO_DEGREES", type := .double, accessFlags := 26, slot := 4, constantValue := 0 }, { name := "negativeZeroFloatBits", type := .long, accessFlags := 26, slot := 5, constantValue := 0 }, { name := "negativeZeroDoubleBits", type := .long, accessFlags := 26, slot := 6, constantValue := 0 }, { name := "twoToTheDoubleScaleUp", type := .double, accessFlags := 8, slot := 7, constantValue := 0 }, { name := "twoToTheDoubleScaleDown", type := .double, accessFlags := 8, slot := 8, constantValue := 0 }, { name := "$assertionsDisabled", type := .boolean, accessFlags := 4120, slot := 9, constantValue := 0 }]
  methods := #[k2m0, k2m1]
  instanceTypes := #[]
  staticTypes := #[.double, .double, .double, .double, .double, .long, .long, .double, .double, .boolean]
  resolved := Array.replicate 460 none
  statics := none }

def pool3 : Array CpInfo := pool [(3, .methodref 4 5), (0, .class_ 6), (0, .nameAndType 7 8), (0, u "java/lang/Object"), (0, u "<init>"), (0, u "()V"), (0, .fieldref 10 11), (0, .class_ 12), (0, .nameAndType 13 14), (0, u "com/example/fit50/fit50/engine/Autoscaler"), (0, u "maxSlots"), (0, u "J"), (0, .fieldref 10 16), (0, .nameAndType 17 14), (0, u "slots"), (0, .long 50000), (1, .long 50), (1, .methodref 23 24), (0, .class_ 25), (0, .nameAndType 26 27), (0, u "java/lang/Math"), (0, u "min"), (0, u "(JJ)J"), (0, .fieldref 10 29), (0, .nameAndType 30 14), (0, u "lastIncrease"), (0, .long 61), (1, u "HOLD_SECONDS"), (1, u "STEP_SLOT_MS"), (0, u "(J)V"), (2, u "()J"), (0, u "scale")] 3

def k3c0 : Code := { maxStack := 3, maxLocals := 3, code := prog_3_method_1_code, exceptionTable := #[], attributes := #[] }
def k3m0 : Method := { name := "<init>", desc := "(J)V", sig := { parameters := [.long], returnType := none }, accessFlags := 0, code := some k3c0 }
def k3c1 : Code := { maxStack := 2, maxLocals := 1, code := prog_3_method_2_code, exceptionTable := #[], attributes := #[] }
def k3m1 : Method := { name := "slots", desc := "()J", sig := { parameters := [], returnType := some .long }, accessFlags := 0, code := some k3c1 }
def k3c2 : Code := { maxStack := 4, maxLocals := 9, code := prog_3_method_3_code, exceptionTable := #[], attributes := #[] }
def k3m2 : Method := { name := "scale", desc := "(JJ)J", sig := { parameters := [.long, .long], returnType := some .long }, accessFlags := 0, code := some k3c2 }
/-- com/example/fit50/fit50/engine/Autoscaler -/
def k3 : Class := { plain "com/example/fit50/fit50/engine/Autoscaler" (some 0) with
  accessFlags := 48
  interfaces := #[]
  cf := some (fileOf pool3 10 #[] #[{ accessFlags := 0, nameIndex := 7, descriptorIndex := 36, attributes := #[] }, { accessFlags := 0, nameIndex := 17, descriptorIndex := 39, attributes := #[] }, { accessFlags := 0, nameIndex := 40, descriptorIndex := 27, attributes := #[] }] 48 4 #[] #[{ accessFlags := 24, nameIndex := 33, descriptorIndex := 14, attributes := #[] }, { accessFlags := 26, nameIndex := 35, descriptorIndex := 14, attributes := #[] }, { accessFlags := 18, nameIndex := 13, descriptorIndex := 14, attributes := #[] }, { accessFlags := 2, nameIndex := 17, descriptorIndex := 14, attributes := #[] }, { accessFlags := 2, nameIndex := 30, descriptorIndex := 14, attributes := #[] }])
  fields := #[{ name := "HOLD_SECONDS", type := .long, accessFlags := 24, slot := 0, constantValue := 0 }, { name := "STEP_SLOT_MS", type := .long, accessFlags := 26, slot := 1, constantValue := 0 }, { name := "maxSlots", type := .long, accessFlags := 18, slot := 0, constantValue := 0 }, { name := "slots", type := .long, accessFlags := 2, slot := 1, constantValue := 0 }, { name := "lastIncrease", type := .long, accessFlags := 2, slot := 2, constantValue := 0 }]
  methods := #[k3m0, k3m1, k3m2]
  instanceTypes := #[.long, .long, .long]
  staticTypes := #[.long, .long]
  resolved := Array.replicate 44 none
  statics := none }

def pool4 : Array CpInfo := pool [(1, u "java/lang/Cloneable"), (0, .class_ 1), (0, u "java/lang/Object"), (0, .class_ 3)] 3

/-- java/lang/Cloneable -/
def k4 : Class := { plain "java/lang/Cloneable" (some 0) with
  accessFlags := 1537
  interfaces := #[]
  cf := some (fileOf pool4 2 #[] #[] 1537 4 #[] #[])
  fields := #[]
  methods := #[]
  instanceTypes := #[]
  staticTypes := #[]
  resolved := Array.replicate 8 none
  statics := none }

def pool5 : Array CpInfo := pool [(1, u "java/io/Serializable"), (0, .class_ 1), (0, u "java/lang/Object"), (0, .class_ 3)] 3

/-- java/io/Serializable -/
def k5 : Class := { plain "java/io/Serializable" (some 0) with
  accessFlags := 1537
  interfaces := #[]
  cf := some (fileOf pool5 2 #[] #[] 1537 4 #[] #[])
  fields := #[]
  methods := #[]
  instanceTypes := #[]
  staticTypes := #[]
  resolved := Array.replicate 8 none
  statics := none }

/-- the primitive byte -/
def k6 : Class := { plain "byte" none with kind := .primitive 'B', accessFlags := 0x411 }
/-- [B -/
def k7 : Class := { plain "[B" (some 0) with kind := .array 6 .byte, interfaces := #[4, 5], accessFlags := 1041 }

/-- the primitive int -/
def k8 : Class := { plain "int" none with kind := .primitive 'I', accessFlags := 0x411 }
/-- [I -/
def k9 : Class := { plain "[I" (some 0) with kind := .array 8 .int, interfaces := #[4, 5], accessFlags := 1041 }

def heap : Heap := #[]
def classes : Array Class := #[k0, k1, k2, k3, k4, k5, k6, k7, k8, k9]
def interned : List (Array UInt16 × Addr) := []
def slotsUsed : Nat := 0
def theMethod : MethodId := ⟨1, 2⟩
def args0 : Array Value := #[.long 1, .long 7, .long 2, .long 8, .long 9, .int 3]
def aboutOver (below : List Frame) : State where
  vm := { classes := classes, interned := interned.toArray }
  heap := heap
  slotsUsed := slotsUsed
  threads := #[{ frames := .invoking theMethod args0 :: below }]
def below0 : List Frame := [.native { method := ⟨0, 0⟩, args := #[] }]
def about1 : State := aboutOver below0
def p0 : Program := .bare "" "" ""
def e0 : Env := launch0.env 0 0 0
theorem w_frames : about1.frames = Frame.invoking theMethod args0 :: below0 := rfl
set_option maxRecDepth 65536 in
theorem w_args : argsFit about1.vm theMethod args0 = true := by decide +kernel
set_option maxRecDepth 65536 in
theorem w_heap : heapFits about1 = true := by decide +kernel
set_option maxRecDepth 65536 in
theorem w_runnable : about1.curStatus? = some .runnable := by decide +kernel
set_option maxRecDepth 65536 in
theorem w_alone : about1.alone = true := by decide +kernel
set_option maxRecDepth 65536 in
theorem w_named : about1.methodNamed? x = some theMethod := by decide +kernel
set_option maxRecDepth 65536 in
theorem w_hears : about1.hears theMethod below0 = true := by decide +kernel
set_option maxRecDepth 65536 in
theorem w_ripe : about1.ripe theMethod args0 below0 = true := by decide +kernel
theorem w_running : about1.status = .running := rfl
set_option maxRecDepth 65536 in
theorem w_room : about1.hasRoom e0.platform room_1 = true :=
  launch0.hasRoom_least _ room_1 (by decide +kernel) (by decide +kernel) (by decide +kernel) (by decide +kernel) (by decide +kernel) (by decide +kernel)
theorem allAtoms_all (ts : List Jvm.Cond) (a : Array Jvm.Value) (st : Jvm.State) : (allAtoms ts).before a st = ts.all (fun c => c.before a st) := by
  induction ts with
  | nil => rfl
  | cons c t ih =>
    show (Jvm.Cond.and c (allAtoms t)).before a st = _
    rw [Jvm.Cond.before_and, ih, List.all_cons]
def words1 : List Jvm.Cond := Jvm.Cond.code x code maxLocals ret :: tables_1
/-- a 'code' word, met by the world's own term for the bytes: nothing is compared byte by byte -/
theorem code_word {y : MethodName} {bytes : ByteArray} {mx : Nat} {rt : Option FieldType} {a : Array Value} {s : State} {m : MethodId} {meth : Method} {c : Code} (h1 : s.methodNamed? y = some m) (h2 : s.vm.method? m = some meth) (h3 : meth.code = some c) (h4 : c.code = bytes)
    (h5 : (c.maxLocals == mx && c.exceptionTable.isEmpty && decide (c.maxStack ≤ mostOperands) && decide (meth.sig.returnType = rt) && !meth.locks && decide (parseMethodDescriptor y.desc = some meth.sig)) = true) : (Jvm.Cond.code y bytes mx rt).before a s = true := by
  simp only [Bool.and_eq_true, beq_iff_eq, Bool.not_eq_true', decide_eq_true_eq] at h5
  obtain ⟨⟨⟨⟨⟨g1, g2⟩, g3⟩, g4⟩, g5⟩, g6⟩ := h5
  simp [Cond.before, Cond.holds, Cond.value, h1, h2, h3, h4, g1, g2, g3, g4, g5, g6]
def isCode : Jvm.Cond → Bool
  | .code _ _ _ _ => true
  | _ => false
theorem all_split {L : List Jvm.Cond} {P : Jvm.Cond → Bool} (h1 : L.all (fun c => isCode c || P c) = true) (h2 : ∀ c ∈ L.filter isCode, P c = true) : L.all P = true := by
  refine List.all_eq_true.mpr fun c hc => ?_
  have h := List.all_eq_true.mp h1 c hc
  rcases Bool.eq_false_or_eq_true (isCode c) with hi | hi
  · exact h2 c (List.mem_filter.mpr ⟨hc, hi⟩)
  · simpa [hi] using h
set_option maxRecDepth 65536 in
theorem w_c0 : (Jvm.Cond.code x code maxLocals ret).before args0 about1 = true := code_word (m := ⟨1, 2⟩) (meth := k1m2) (c := k1c2) (by decide +kernel) rfl rfl rfl (by decide +kernel)
set_option maxRecDepth 65536 in
theorem w_c1 : (Jvm.Cond.code ({ cls := "java/lang/Math", name := "min", desc := "(JJ)J" } : Jvm.MethodName) jdk_29_method_70_code (4 : Nat) (Option.some Jvm.ClassFile.FieldType.long)).before args0 about1 = true := code_word (m := ⟨2, 1⟩) (meth := k2m1) (c := k2c1) (by decide +kernel) rfl rfl rfl (by decide +kernel)
set_option maxRecDepth 65536 in
theorem w_c2 : (Jvm.Cond.code ({ cls := "com/example/fit50/fit50/engine/Autoscaler", name := "<init>", desc := "(J)V" } : Jvm.MethodName) prog_3_method_1_code (3 : Nat) (Option.none : Option Jvm.ClassFile.FieldType)).before args0 about1 = true := code_word (m := ⟨3, 0⟩) (meth := k3m0) (c := k3c0) (by decide +kernel) rfl rfl rfl (by decide +kernel)
set_option maxRecDepth 65536 in
theorem w_c3 : (Jvm.Cond.code ({ cls := "java/lang/Object", name := "<init>", desc := "()V" } : Jvm.MethodName) object_method_1_code (1 : Nat) (Option.none : Option Jvm.ClassFile.FieldType)).before args0 about1 = true := code_word (m := ⟨0, 0⟩) (meth := k0m0) (c := k0c0) (by decide +kernel) rfl rfl rfl (by decide +kernel)
set_option maxRecDepth 65536 in
theorem w_c4 : (Jvm.Cond.code ({ cls := "com/example/fit50/fit50/engine/AutoscalerScalePinLaw", name := "target", desc := "(JJ)J" } : Jvm.MethodName) method_2_code (6 : Nat) (Option.some Jvm.ClassFile.FieldType.long)).before args0 about1 = true := code_word (m := ⟨1, 1⟩) (meth := k1m1) (c := k1c1) (by decide +kernel) rfl rfl rfl (by decide +kernel)
set_option maxRecDepth 65536 in
theorem w_c5 : (Jvm.Cond.code ({ cls := "com/example/fit50/fit50/engine/Autoscaler", name := "scale", desc := "(JJ)J" } : Jvm.MethodName) prog_3_method_3_code (9 : Nat) (Option.some Jvm.ClassFile.FieldType.long)).before args0 about1 = true := code_word (m := ⟨3, 2⟩) (meth := k3m2) (c := k3c2) (by decide +kernel) rfl rfl rfl (by decide +kernel)
set_option maxRecDepth 65536 in
theorem w_c6 : (Jvm.Cond.code ({ cls := "com/example/fit50/fit50/engine/Autoscaler", name := "slots", desc := "()J" } : Jvm.MethodName) prog_3_method_2_code (1 : Nat) (Option.some Jvm.ClassFile.FieldType.long)).before args0 about1 = true := code_word (m := ⟨3, 1⟩) (meth := k3m1) (c := k3c1) (by decide +kernel) rfl rfl rfl (by decide +kernel)
def codes1 : List Jvm.Cond := [Jvm.Cond.code x code maxLocals ret, Jvm.Cond.code ({ cls := "java/lang/Math", name := "min", desc := "(JJ)J" } : Jvm.MethodName) jdk_29_method_70_code (4 : Nat) (Option.some Jvm.ClassFile.FieldType.long), Jvm.Cond.code ({ cls := "com/example/fit50/fit50/engine/Autoscaler", name := "<init>", desc := "(J)V" } : Jvm.MethodName) prog_3_method_1_code (3 : Nat) (Option.none : Option Jvm.ClassFile.FieldType), Jvm.Cond.code ({ cls := "java/lang/Object", name := "<init>", desc := "()V" } : Jvm.MethodName) object_method_1_code (1 : Nat) (Option.none : Option Jvm.ClassFile.FieldType), Jvm.Cond.code ({ cls := "com/example/fit50/fit50/engine/AutoscalerScalePinLaw", name := "target", desc := "(JJ)J" } : Jvm.MethodName) method_2_code (6 : Nat) (Option.some Jvm.ClassFile.FieldType.long), Jvm.Cond.code ({ cls := "com/example/fit50/fit50/engine/Autoscaler", name := "scale", desc := "(JJ)J" } : Jvm.MethodName) prog_3_method_3_code (9 : Nat) (Option.some Jvm.ClassFile.FieldType.long), Jvm.Cond.code ({ cls := "com/example/fit50/fit50/engine/Autoscaler", name := "slots", desc := "()J" } : Jvm.MethodName) prog_3_method_2_code (1 : Nat) (Option.some Jvm.ClassFile.FieldType.long)]
set_option maxRecDepth 65536 in
theorem codes_eq : words1.filter isCode = codes1 := rfl
theorem w_codes : ∀ c ∈ words1.filter isCode, c.before args0 about1 = true := by
  rw [codes_eq]
  intro c hc
  simp only [codes1, List.mem_cons, List.not_mem_nil, or_false] at hc
  rcases hc with rfl | rfl | rfl | rfl | rfl | rfl | rfl
  · exact w_c0
  · exact w_c1
  · exact w_c2
  · exact w_c3
  · exact w_c4
  · exact w_c5
  · exact w_c6
set_option maxRecDepth 65536 in
theorem w_t1 : (words1.take 24).all (fun c => isCode c || c.before args0 about1) = true := by decide +kernel
set_option maxRecDepth 65536 in
theorem w_t2 : (words1.drop 24).all (fun c => isCode c || c.before args0 about1) = true := by decide +kernel
theorem w_tables : (allAtoms (Jvm.Cond.code x code maxLocals ret :: tables_1)).before args0 about1 = true := by
  rw [allAtoms_all]
  show words1.all (fun c => c.before args0 about1) = true
  refine all_split ?_ w_codes
  rw [← List.take_append_drop 24 words1, List.all_append, w_t1, w_t2]
  rfl
set_option maxRecDepth 65536 in
theorem w_case : (Jvm.Cond.and given_1 narrow_1).before args0 about1 = true := by decide +kernel
theorem w_applies : (headSpec (Jvm.Cond.code x code maxLocals ret :: tables_1) room_1).applies x e0.platform about1 = true :=
  (Spec.applies_iff w_frames).mpr ⟨w_running, w_runnable, w_alone, w_named, w_hears, w_ripe, w_room, w_tables⟩
theorem atStart : AtStart classFile x code maxLocals ret World_1 tables_1 room_1 Calls_1 rest_1 Pre_1 launch0 p0 e0 about1 theMethod args0 below0 :=
  ⟨lists_1, trivial, launch0.admits_env _ _ _, launch0.least_env, fairChoices_fair.cas, fairChoices_fair.clock, w_frames, w_args, w_heap, w_applies, trivial, trivial, w_case⟩
end start1
theorem witness_1 : WitnessClaimed_1 := ⟨start1.p0, start1.e0, start1.about1, start1.theMethod, start1.args0, start1.below0, start1.atStart⟩
end Jvm.Pilot.@@N@@
