import JvmDerived
import JvmDerived.Pilot.@@N@@Statement
import JvmDerived.Pilot.@@N@@Code
set_option linter.unusedVariables false
set_option linter.unusedSimpArgs false
namespace Jvm.Pilot.@@N@@
open Jvm Jvm.ClassFile Sem Op Lib Jvm.Free Jvm.Stand Jvm.LawKit Jvm.RoadKit Bundle Jvm.Pilot.@@N@@.Jvm.D
def own_G (p : Program) (e : Env) (below : List Frame) (s : State) (Q : Option Value → Heap → List Loc → Prop) (k n : Nat) (A : State) : Prop :=
  ∃ s₂ o, Steps p.tables e below A s₂ ∧ s₂.status = .running ∧ Ended s₂ below o ∧ ∃ v L, o = .returned v ∧ Q v s₂.heap L ∧ FrameEnd s o s₂ L k n
theorem own_st {p : Program} {e : Env} {below : List Frame} {s : State} {Q : Option Value → Heap → List Loc → Prop} {k n : Nat} {A B : State} (f : ∀ t, Steps p.tables e below B t → Steps p.tables e below A t) (h : own_G p e below s Q k n B) : own_G p e below s Q k n A := by
  obtain ⟨t, o, h1, h2⟩ := h; exact ⟨t, o, f t h1, h2⟩
theorem own_tr {p : Program} {e : Env} {below : List Frame} {s : State} {Q : Option Value → Heap → List Loc → Prop} {k n : Nat} {A B : State} (f : Steps p.tables e below A B) (h : own_G p e below s Q k n B) : own_G p e below s Q k n A := own_st (fun _ => f.trans) h
theorem own_cast {p : Program} {e : Env} {below : List Frame} {s T : State} {Q : Option Value → Heap → List Loc → Prop} {k n : Nat} {g g' : JFrame} (q : g = g') (h : own_G p e below s Q k n (T.setTop g')) : own_G p e below s Q k n (T.setTop g) := q ▸ h
section OwnSteps
variable {p : Program} {l : Launch} {e : Env} {R : Room} {s : State} {m : MethodId} {args : Array Value} {below : List Frame} {meth : Method} {c : Code} {T : State} {locs : List Loc} {cells slots : Nat} {Q : Option Value → Heap → List Loc → Prop} {k n : Nat} {code : ByteArray} {pc : Nat} {Ls : Array Slot} {st : List Value} {Z : State} {a0 : Array Value} {h : Heap}
theorem own_retI (X : Stand p l e R s m args below meth c T locs cells slots) (hx : p.tables.exec = Jvm.exec) (hby : c.code = code) (hlk : meth.locks = false) (hret : meth.sig.returnType = some .int) {z : Int32} (hd : decode code pc = .ok (.ireturn, 1)) (hk : cells ≤ k) (hn : slots ≤ n) (hQ : Q (some (.int z)) T.heap locs) : own_G p e below s Q k n (T.setTop (mkF m pc Ls (.int z :: st))) := by
  obtain ⟨fs, hr, hrun, hended, hW, hsame⟩ := X.leave (v := some (.int z)) (fun h => by rw [hret] at h; cases h) hlk
  exact ⟨_, _, retOut X hx (t := .int) hret rfl (Or.inl ⟨rfl, Or.inl rfl, z, rfl⟩) (hb hby hd) hr, hrun, hended, _, _, rfl, hQ, ⟨_, rfl⟩, hW, hsame.mono hk hn⟩
theorem own_retJ (X : Stand p l e R s m args below meth c T locs cells slots) (hx : p.tables.exec = Jvm.exec) (hby : c.code = code) (hlk : meth.locks = false) (hret : meth.sig.returnType = some .long) {z : Int64} (hd : decode code pc = .ok (.lreturn, 1)) (hk : cells ≤ k) (hn : slots ≤ n) (hQ : Q (some (.long z)) T.heap locs) : own_G p e below s Q k n (T.setTop (mkF m pc Ls (.long z :: st))) := by
  obtain ⟨fs, hr, hrun, hended, hW, hsame⟩ := X.leave (v := some (.long z)) (fun h => by rw [hret] at h; cases h) hlk
  exact ⟨_, _, retOut X hx (t := .long) hret rfl (Or.inr (Or.inl ⟨rfl, rfl, z, rfl⟩)) (hb hby hd) hr, hrun, hended, _, _, rfl, hQ, ⟨_, rfl⟩, hW, hsame.mono hk hn⟩
theorem own_retD (X : Stand p l e R s m args below meth c T locs cells slots) (hx : p.tables.exec = Jvm.exec) (hby : c.code = code) (hlk : meth.locks = false) (hret : meth.sig.returnType = some .double) {z : UInt64} (hd : decode code pc = .ok (.dreturn, 1)) (hk : cells ≤ k) (hn : slots ≤ n) (hQ : Q (some (.double z)) T.heap locs) : own_G p e below s Q k n (T.setTop (mkF m pc Ls (.double z :: st))) := by
  obtain ⟨fs, hr, hrun, hended, hW, hsame⟩ := X.leave (v := some (.double z)) (fun h => by rw [hret] at h; cases h) hlk
  exact ⟨_, _, retOut X hx (t := .double) hret rfl (Or.inr (Or.inr (Or.inl ⟨rfl, rfl, z, rfl⟩))) (hb hby hd) hr, hrun, hended, _, _, rfl, hQ, ⟨_, rfl⟩, hW, hsame.mono hk hn⟩
theorem own_retA (X : Stand p l e R s m args below meth c T locs cells slots) (hx : p.tables.exec = Jvm.exec) (hby : c.code = code) (hlk : meth.locks = false) {ty : FieldType} (hret : meth.sig.returnType = some ty) (hty : ty.isReference = true) {z : Value} (hz : z.isRef = true) (hnz : narrow ty z = z) (hd : decode code pc = .ok (.areturn, 1)) (hk : cells ≤ k) (hn : slots ≤ n) (hQ : Q (some z) T.heap locs) : own_G p e below s Q k n (T.setTop (mkF m pc Ls (z :: st))) := by
  obtain ⟨fs, hr, hrun, hended, hW, hsame⟩ := X.leave (v := some z) (fun h => by rw [hret] at h; cases h) hlk
  exact ⟨_, _, retOut X hx (t := ty) hret hnz (Or.inr (Or.inr (Or.inr (Or.inr ⟨rfl, hty, hz⟩)))) (hb hby hd) hr, hrun, hended, _, _, rfl, hQ, ⟨_, rfl⟩, hW, hsame.mono hk hn⟩
theorem own_retN (X : Stand p l e R s m args below meth c T locs cells slots) (hx : p.tables.exec = Jvm.exec) (hby : c.code = code) (hlk : meth.locks = false) {t : FieldType} (hret : meth.sig.returnType = some t) (ht : t = .boolean ∨ t = .byte ∨ t = .char ∨ t = .short) {z : Int32} (hd : decode code pc = .ok (.ireturn, 1)) (hk : cells ≤ k) (hn : slots ≤ n) (hQ : Q (some (.int (nar t z))) T.heap locs) : own_G p e below s Q k n (T.setTop (mkF m pc Ls (.int z :: st))) := by
  obtain ⟨fs, hr, hrun, hended, hW, hsame⟩ := X.leave (v := some (.int (nar t z))) (fun h => by rw [hret] at h; cases h) hlk
  exact ⟨_, _, retN X hx (t := t) hret ht (hb hby hd) hr, hrun, hended, _, _, rfl, hQ, ⟨_, rfl⟩, hW, hsame.mono hk hn⟩
theorem own_ret0 (X : Stand p l e R s m args below meth c T locs cells slots) (hx : p.tables.exec = Jvm.exec) (hby : c.code = code) (hlk : meth.locks = false) (hret : meth.sig.returnType = none) (hd : decode code pc = .ok (.return_, 1)) (hk : cells ≤ k) (hn : slots ≤ n) (hQ : Q none T.heap locs) : own_G p e below s Q k n (T.setTop (mkF m pc Ls [])) := by
  obtain ⟨fs, hr, hrun, hended, hW, hsame⟩ := X.leave (v := none) (fun _ => rfl) hlk
  exact ⟨_, _, X.returnOut hx hret (hb hby hd) hr, hrun, hended, _, _, rfl, hQ, ⟨_, rfl⟩, hW, hsame.mono hk hn⟩
theorem own_iloadN (X : Stand p l e R s m args below meth c T locs cells slots) (hx : p.tables.exec = Jvm.exec) (hby : c.code = code) {kk : Fin 4} {v : Int32} (hd : decode code pc = .ok (.iload_n kk, 1)) (hl : Ls[kk.val]? = some (.val (.int v))) (h : own_G p e below s Q k n (T.setTop (mkF m (pc + 1) Ls (.int v :: st)))) : own_G p e below s Q k n (T.setTop (mkF m pc Ls st)) := own_st (fun _ => XS.iloadN X.here hx rfl (hb hby hd) hl) h
theorem own_iload (X : Stand p l e R s m args below meth c T locs cells slots) (hx : p.tables.exec = Jvm.exec) (hby : c.code = code) {kk : Nat} {v : Int32} (hd : decode code pc = .ok (.iload kk, 2)) (hl : Ls[kk]? = some (.val (.int v))) (h : own_G p e below s Q k n (T.setTop (mkF m (pc + 2) Ls (.int v :: st)))) : own_G p e below s Q k n (T.setTop (mkF m pc Ls st)) := own_st (fun _ => XS.iload X.here hx rfl (hb hby hd) hl) h
theorem own_lloadN (X : Stand p l e R s m args below meth c T locs cells slots) (hx : p.tables.exec = Jvm.exec) (hby : c.code = code) {kk : Fin 4} {v : Int64} (hd : decode code pc = .ok (.lload_n kk, 1)) (hl : Ls[kk.val]? = some (.val (.long v))) (h : own_G p e below s Q k n (T.setTop (mkF m (pc + 1) Ls (.long v :: st)))) : own_G p e below s Q k n (T.setTop (mkF m pc Ls st)) := own_st (fun _ => XS.lloadN X.here hx rfl (hb hby hd) hl) h
theorem own_lload (X : Stand p l e R s m args below meth c T locs cells slots) (hx : p.tables.exec = Jvm.exec) (hby : c.code = code) {kk : Nat} {v : Int64} (hd : decode code pc = .ok (.lload kk, 2)) (hl : Ls[kk]? = some (.val (.long v))) (h : own_G p e below s Q k n (T.setTop (mkF m (pc + 2) Ls (.long v :: st)))) : own_G p e below s Q k n (T.setTop (mkF m pc Ls st)) := own_st (fun _ => XS.lload X.here hx rfl (hb hby hd) hl) h
theorem own_dloadN (X : Stand p l e R s m args below meth c T locs cells slots) (hx : p.tables.exec = Jvm.exec) (hby : c.code = code) {kk : Fin 4} {v : UInt64} (hd : decode code pc = .ok (.dload_n kk, 1)) (hl : Ls[kk.val]? = some (.val (.double v))) (h : own_G p e below s Q k n (T.setTop (mkF m (pc + 1) Ls (.double v :: st)))) : own_G p e below s Q k n (T.setTop (mkF m pc Ls st)) := own_st (fun _ => XS.dloadN X.here hx rfl (hb hby hd) hl) h
theorem own_dload (X : Stand p l e R s m args below meth c T locs cells slots) (hx : p.tables.exec = Jvm.exec) (hby : c.code = code) {kk : Nat} {v : UInt64} (hd : decode code pc = .ok (.dload kk, 2)) (hl : Ls[kk]? = some (.val (.double v))) (h : own_G p e below s Q k n (T.setTop (mkF m (pc + 2) Ls (.double v :: st)))) : own_G p e below s Q k n (T.setTop (mkF m pc Ls st)) := own_st (fun _ => XS.dload X.here hx rfl (hb hby hd) hl) h
theorem own_aloadN (X : Stand p l e R s m args below meth c T locs cells slots) (hx : p.tables.exec = Jvm.exec) (hby : c.code = code) {kk : Fin 4} {v : Value} (hd : decode code pc = .ok (.aload_n kk, 1)) (hl : Ls[kk.val]? = some (.val v)) (hv : v.isRef = true) (h : own_G p e below s Q k n (T.setTop (mkF m (pc + 1) Ls (v :: st)))) : own_G p e below s Q k n (T.setTop (mkF m pc Ls st)) := own_st (fun _ => XS.aloadN X.here hx rfl (hb hby hd) hl hv) h
theorem own_aload (X : Stand p l e R s m args below meth c T locs cells slots) (hx : p.tables.exec = Jvm.exec) (hby : c.code = code) {kk : Nat} {v : Value} (hd : decode code pc = .ok (.aload kk, 2)) (hl : Ls[kk]? = some (.val v)) (hv : v.isRef = true) (h : own_G p e below s Q k n (T.setTop (mkF m (pc + 2) Ls (v :: st)))) : own_G p e below s Q k n (T.setTop (mkF m pc Ls st)) := own_st (fun _ => XS.aload X.here hx rfl (hb hby hd) hl hv) h
theorem own_istoreN (X : Stand p l e R s m args below meth c T locs cells slots) (hx : p.tables.exec = Jvm.exec) (hby : c.code = code) {kk : Fin 4} {v : Int32} {l' : Array Slot} (hd : decode code pc = .ok (.istore_n kk, 1)) (hl : storeLocals Ls kk.val (.int v) = some l') (h : own_G p e below s Q k n (T.setTop (mkF m (pc + 1) l' st))) : own_G p e below s Q k n (T.setTop (mkF m pc Ls (.int v :: st))) := own_st (fun _ => XS.istoreN X.here hx rfl (hb hby hd) rfl hl) h
theorem own_istore (X : Stand p l e R s m args below meth c T locs cells slots) (hx : p.tables.exec = Jvm.exec) (hby : c.code = code) {kk : Nat} {v : Int32} {l' : Array Slot} (hd : decode code pc = .ok (.istore kk, 2)) (hl : storeLocals Ls kk (.int v) = some l') (h : own_G p e below s Q k n (T.setTop (mkF m (pc + 2) l' st))) : own_G p e below s Q k n (T.setTop (mkF m pc Ls (.int v :: st))) := own_st (fun _ => XS.istore X.here hx rfl (hb hby hd) rfl hl) h
theorem own_lstoreN (X : Stand p l e R s m args below meth c T locs cells slots) (hx : p.tables.exec = Jvm.exec) (hby : c.code = code) {kk : Fin 4} {v : Int64} {l' : Array Slot} (hd : decode code pc = .ok (.lstore_n kk, 1)) (hl : storeLocals Ls kk.val (.long v) = some l') (h : own_G p e below s Q k n (T.setTop (mkF m (pc + 1) l' st))) : own_G p e below s Q k n (T.setTop (mkF m pc Ls (.long v :: st))) := own_st (fun _ => XS.lstoreN X.here hx rfl (hb hby hd) rfl hl) h
theorem own_lstore (X : Stand p l e R s m args below meth c T locs cells slots) (hx : p.tables.exec = Jvm.exec) (hby : c.code = code) {kk : Nat} {v : Int64} {l' : Array Slot} (hd : decode code pc = .ok (.lstore kk, 2)) (hl : storeLocals Ls kk (.long v) = some l') (h : own_G p e below s Q k n (T.setTop (mkF m (pc + 2) l' st))) : own_G p e below s Q k n (T.setTop (mkF m pc Ls (.long v :: st))) := own_st (fun _ => XS.lstore X.here hx rfl (hb hby hd) rfl hl) h
theorem own_dstoreN (X : Stand p l e R s m args below meth c T locs cells slots) (hx : p.tables.exec = Jvm.exec) (hby : c.code = code) {kk : Fin 4} {v : UInt64} {l' : Array Slot} (hd : decode code pc = .ok (.dstore_n kk, 1)) (hl : storeLocals Ls kk.val (.double v) = some l') (h : own_G p e below s Q k n (T.setTop (mkF m (pc + 1) l' st))) : own_G p e below s Q k n (T.setTop (mkF m pc Ls (.double v :: st))) := own_st (fun _ => XS.dstoreN X.here hx rfl (hb hby hd) rfl hl) h
theorem own_dstore (X : Stand p l e R s m args below meth c T locs cells slots) (hx : p.tables.exec = Jvm.exec) (hby : c.code = code) {kk : Nat} {v : UInt64} {l' : Array Slot} (hd : decode code pc = .ok (.dstore kk, 2)) (hl : storeLocals Ls kk (.double v) = some l') (h : own_G p e below s Q k n (T.setTop (mkF m (pc + 2) l' st))) : own_G p e below s Q k n (T.setTop (mkF m pc Ls (.double v :: st))) := own_st (fun _ => XS.dstore X.here hx rfl (hb hby hd) rfl hl) h
theorem own_astoreN (X : Stand p l e R s m args below meth c T locs cells slots) (hx : p.tables.exec = Jvm.exec) (hby : c.code = code) {kk : Fin 4} {v : Value} {l' : Array Slot} (hd : decode code pc = .ok (.astore_n kk, 1)) (hv : v.isRef = true) (hl : storeLocals Ls kk.val v = some l') (h : own_G p e below s Q k n (T.setTop (mkF m (pc + 1) l' st))) : own_G p e below s Q k n (T.setTop (mkF m pc Ls (v :: st))) := own_st (fun _ => XS.astoreN X.here hx rfl (hb hby hd) rfl hv hl) h
theorem own_astore (X : Stand p l e R s m args below meth c T locs cells slots) (hx : p.tables.exec = Jvm.exec) (hby : c.code = code) {kk : Nat} {v : Value} {l' : Array Slot} (hd : decode code pc = .ok (.astore kk, 2)) (hv : v.isRef = true) (hl : storeLocals Ls kk v = some l') (h : own_G p e below s Q k n (T.setTop (mkF m (pc + 2) l' st))) : own_G p e below s Q k n (T.setTop (mkF m pc Ls (v :: st))) := own_st (fun _ => XS.astore X.here hx rfl (hb hby hd) rfl hv hl) h
theorem own_iconst (X : Stand p l e R s m args below meth c T locs cells slots) (hx : p.tables.exec = Jvm.exec) (hby : c.code = code) {i : Int} (hd : decode code pc = .ok (.iconst i, 1))  (h : own_G p e below s Q k n (T.setTop (mkF m (pc + 1) Ls (.int (Int32.ofInt i) :: st)))) : own_G p e below s Q k n (T.setTop (mkF m pc Ls st)) := own_st (fun _ => XS.iconst X.here hx rfl (hb hby hd)) h
theorem own_bipush (X : Stand p l e R s m args below meth c T locs cells slots) (hx : p.tables.exec = Jvm.exec) (hby : c.code = code) {i : Int} (hd : decode code pc = .ok (.bipush i, 2))  (h : own_G p e below s Q k n (T.setTop (mkF m (pc + 2) Ls (.int (Int8.ofInt i).toInt32 :: st)))) : own_G p e below s Q k n (T.setTop (mkF m pc Ls st)) := own_st (fun _ => XS.bipush X.here hx rfl (hb hby hd)) h
theorem own_sipush (X : Stand p l e R s m args below meth c T locs cells slots) (hx : p.tables.exec = Jvm.exec) (hby : c.code = code) {i : Int} (hd : decode code pc = .ok (.sipush i, 3))  (h : own_G p e below s Q k n (T.setTop (mkF m (pc + 3) Ls (.int (Int16.ofInt i).toInt32 :: st)))) : own_G p e below s Q k n (T.setTop (mkF m pc Ls st)) := own_st (fun _ => XS.sipush X.here hx rfl (hb hby hd)) h
theorem own_lconst (X : Stand p l e R s m args below meth c T locs cells slots) (hx : p.tables.exec = Jvm.exec) (hby : c.code = code) {i : Fin 2} (hd : decode code pc = .ok (.lconst i, 1))  (h : own_G p e below s Q k n (T.setTop (mkF m (pc + 1) Ls (.long (Int64.ofNat i) :: st)))) : own_G p e below s Q k n (T.setTop (mkF m pc Ls st)) := own_st (fun _ => XS.lconst X.here hx rfl (hb hby hd)) h
theorem own_aconst_null (X : Stand p l e R s m args below meth c T locs cells slots) (hx : p.tables.exec = Jvm.exec) (hby : c.code = code)  (hd : decode code pc = .ok (.aconst_null, 1))  (h : own_G p e below s Q k n (T.setTop (mkF m (pc + 1) Ls (.null :: st)))) : own_G p e below s Q k n (T.setTop (mkF m pc Ls st)) := own_st (fun _ => XS.aconstNull X.here hx rfl (hb hby hd)) h
theorem own_iadd (X : Stand p l e R s m args below meth c T locs cells slots) (hx : p.tables.exec = Jvm.exec) (hby : c.code = code) {x y : Int32} (hd : decode code pc = .ok (.iadd, 1))  (h : own_G p e below s Q k n (T.setTop (mkF m (pc + 1) Ls (.int (x + y) :: st)))) : own_G p e below s Q k n (T.setTop (mkF m pc Ls (.int y :: .int x :: st))) := own_st (fun _ => XS.iadd X.here hx rfl (hb hby hd) rfl) h
theorem own_isub (X : Stand p l e R s m args below meth c T locs cells slots) (hx : p.tables.exec = Jvm.exec) (hby : c.code = code) {x y : Int32} (hd : decode code pc = .ok (.isub, 1))  (h : own_G p e below s Q k n (T.setTop (mkF m (pc + 1) Ls (.int (x - y) :: st)))) : own_G p e below s Q k n (T.setTop (mkF m pc Ls (.int y :: .int x :: st))) := own_st (fun _ => XS.isub X.here hx rfl (hb hby hd) rfl) h
theorem own_imul (X : Stand p l e R s m args below meth c T locs cells slots) (hx : p.tables.exec = Jvm.exec) (hby : c.code = code) {x y : Int32} (hd : decode code pc = .ok (.imul, 1))  (h : own_G p e below s Q k n (T.setTop (mkF m (pc + 1) Ls (.int (x * y) :: st)))) : own_G p e below s Q k n (T.setTop (mkF m pc Ls (.int y :: .int x :: st))) := own_st (fun _ => XS.imul X.here hx rfl (hb hby hd) rfl) h
theorem own_iand (X : Stand p l e R s m args below meth c T locs cells slots) (hx : p.tables.exec = Jvm.exec) (hby : c.code = code) {x y : Int32} (hd : decode code pc = .ok (.iand, 1))  (h : own_G p e below s Q k n (T.setTop (mkF m (pc + 1) Ls (.int (x &&& y) :: st)))) : own_G p e below s Q k n (T.setTop (mkF m pc Ls (.int y :: .int x :: st))) := own_st (fun _ => XS.iand X.here hx rfl (hb hby hd) rfl) h
theorem own_ior (X : Stand p l e R s m args below meth c T locs cells slots) (hx : p.tables.exec = Jvm.exec) (hby : c.code = code) {x y : Int32} (hd : decode code pc = .ok (.ior, 1))  (h : own_G p e below s Q k n (T.setTop (mkF m (pc + 1) Ls (.int (x ||| y) :: st)))) : own_G p e below s Q k n (T.setTop (mkF m pc Ls (.int y :: .int x :: st))) := own_st (fun _ => XS.ior X.here hx rfl (hb hby hd) rfl) h
theorem own_ixor (X : Stand p l e R s m args below meth c T locs cells slots) (hx : p.tables.exec = Jvm.exec) (hby : c.code = code) {x y : Int32} (hd : decode code pc = .ok (.ixor, 1))  (h : own_G p e below s Q k n (T.setTop (mkF m (pc + 1) Ls (.int (x ^^^ y) :: st)))) : own_G p e below s Q k n (T.setTop (mkF m pc Ls (.int y :: .int x :: st))) := own_st (fun _ => XS.ixor X.here hx rfl (hb hby hd) rfl) h
theorem own_ishl (X : Stand p l e R s m args below meth c T locs cells slots) (hx : p.tables.exec = Jvm.exec) (hby : c.code = code) {x y : Int32} (hd : decode code pc = .ok (.ishl, 1))  (h : own_G p e below s Q k n (T.setTop (mkF m (pc + 1) Ls (.int (x <<< (y &&& 31)) :: st)))) : own_G p e below s Q k n (T.setTop (mkF m pc Ls (.int y :: .int x :: st))) := own_st (fun _ => XS.ishl X.here hx rfl (hb hby hd) rfl) h
theorem own_ishr (X : Stand p l e R s m args below meth c T locs cells slots) (hx : p.tables.exec = Jvm.exec) (hby : c.code = code) {x y : Int32} (hd : decode code pc = .ok (.ishr, 1))  (h : own_G p e below s Q k n (T.setTop (mkF m (pc + 1) Ls (.int (x >>> (y &&& 31)) :: st)))) : own_G p e below s Q k n (T.setTop (mkF m pc Ls (.int y :: .int x :: st))) := own_st (fun _ => XS.ishr X.here hx rfl (hb hby hd) rfl) h
theorem own_iushr (X : Stand p l e R s m args below meth c T locs cells slots) (hx : p.tables.exec = Jvm.exec) (hby : c.code = code) {x y : Int32} (hd : decode code pc = .ok (.iushr, 1))  (h : own_G p e below s Q k n (T.setTop (mkF m (pc + 1) Ls (.int ((x.toUInt32 >>> (y &&& 31).toUInt32).toInt32) :: st)))) : own_G p e below s Q k n (T.setTop (mkF m pc Ls (.int y :: .int x :: st))) := own_st (fun _ => XS.iushr X.here hx rfl (hb hby hd) rfl) h
theorem own_ladd (X : Stand p l e R s m args below meth c T locs cells slots) (hx : p.tables.exec = Jvm.exec) (hby : c.code = code) {x y : Int64} (hd : decode code pc = .ok (.ladd, 1))  (h : own_G p e below s Q k n (T.setTop (mkF m (pc + 1) Ls (.long (x + y) :: st)))) : own_G p e below s Q k n (T.setTop (mkF m pc Ls (.long y :: .long x :: st))) := own_st (fun _ => XS.ladd X.here hx rfl (hb hby hd) rfl) h
theorem own_lsub (X : Stand p l e R s m args below meth c T locs cells slots) (hx : p.tables.exec = Jvm.exec) (hby : c.code = code) {x y : Int64} (hd : decode code pc = .ok (.lsub, 1))  (h : own_G p e below s Q k n (T.setTop (mkF m (pc + 1) Ls (.long (x - y) :: st)))) : own_G p e below s Q k n (T.setTop (mkF m pc Ls (.long y :: .long x :: st))) := own_st (fun _ => XS.lsub X.here hx rfl (hb hby hd) rfl) h
theorem own_lmul (X : Stand p l e R s m args below meth c T locs cells slots) (hx : p.tables.exec = Jvm.exec) (hby : c.code = code) {x y : Int64} (hd : decode code pc = .ok (.lmul, 1))  (h : own_G p e below s Q k n (T.setTop (mkF m (pc + 1) Ls (.long (x * y) :: st)))) : own_G p e below s Q k n (T.setTop (mkF m pc Ls (.long y :: .long x :: st))) := own_st (fun _ => XS.lmul X.here hx rfl (hb hby hd) rfl) h
theorem own_land (X : Stand p l e R s m args below meth c T locs cells slots) (hx : p.tables.exec = Jvm.exec) (hby : c.code = code) {x y : Int64} (hd : decode code pc = .ok (.land, 1))  (h : own_G p e below s Q k n (T.setTop (mkF m (pc + 1) Ls (.long (x &&& y) :: st)))) : own_G p e below s Q k n (T.setTop (mkF m pc Ls (.long y :: .long x :: st))) := own_st (fun _ => XS.land X.here hx rfl (hb hby hd) rfl) h
theorem own_lor (X : Stand p l e R s m args below meth c T locs cells slots) (hx : p.tables.exec = Jvm.exec) (hby : c.code = code) {x y : Int64} (hd : decode code pc = .ok (.lor, 1))  (h : own_G p e below s Q k n (T.setTop (mkF m (pc + 1) Ls (.long (x ||| y) :: st)))) : own_G p e below s Q k n (T.setTop (mkF m pc Ls (.long y :: .long x :: st))) := own_st (fun _ => XS.lor X.here hx rfl (hb hby hd) rfl) h
theorem own_lxor (X : Stand p l e R s m args below meth c T locs cells slots) (hx : p.tables.exec = Jvm.exec) (hby : c.code = code) {x y : Int64} (hd : decode code pc = .ok (.lxor, 1))  (h : own_G p e below s Q k n (T.setTop (mkF m (pc + 1) Ls (.long (x ^^^ y) :: st)))) : own_G p e below s Q k n (T.setTop (mkF m pc Ls (.long y :: .long x :: st))) := own_st (fun _ => XS.lxor X.here hx rfl (hb hby hd) rfl) h
theorem own_lshl (X : Stand p l e R s m args below meth c T locs cells slots) (hx : p.tables.exec = Jvm.exec) (hby : c.code = code) {x : Int64} {y : Int32} (hd : decode code pc = .ok (.lshl, 1))  (h : own_G p e below s Q k n (T.setTop (mkF m (pc + 1) Ls (.long (x <<< (y &&& 0x3f).toInt64) :: st)))) : own_G p e below s Q k n (T.setTop (mkF m pc Ls (.int y :: .long x :: st))) := own_st (fun _ => XS.lshl X.here hx rfl (hb hby hd) rfl) h
theorem own_lshr (X : Stand p l e R s m args below meth c T locs cells slots) (hx : p.tables.exec = Jvm.exec) (hby : c.code = code) {x : Int64} {y : Int32} (hd : decode code pc = .ok (.lshr, 1))  (h : own_G p e below s Q k n (T.setTop (mkF m (pc + 1) Ls (.long (x >>> (y &&& 0x3f).toInt64) :: st)))) : own_G p e below s Q k n (T.setTop (mkF m pc Ls (.int y :: .long x :: st))) := own_st (fun _ => XS.lshr X.here hx rfl (hb hby hd) rfl) h
theorem own_lushr (X : Stand p l e R s m args below meth c T locs cells slots) (hx : p.tables.exec = Jvm.exec) (hby : c.code = code) {x : Int64} {y : Int32} (hd : decode code pc = .ok (.lushr, 1))  (h : own_G p e below s Q k n (T.setTop (mkF m (pc + 1) Ls (.long ((x.toUInt64 >>> (y &&& 0x3f).toInt64.toUInt64).toInt64) :: st)))) : own_G p e below s Q k n (T.setTop (mkF m pc Ls (.int y :: .long x :: st))) := own_st (fun _ => XS.lushr X.here hx rfl (hb hby hd) rfl) h
theorem own_idiv (X : Stand p l e R s m args below meth c T locs cells slots) (hx : p.tables.exec = Jvm.exec) (hby : c.code = code) {x y : Int32} (hd : decode code pc = .ok (.idiv, 1)) (hy : y ≠ 0) (h : own_G p e below s Q k n (T.setTop (mkF m (pc + 1) Ls (.int (x / y) :: st)))) : own_G p e below s Q k n (T.setTop (mkF m pc Ls (.int y :: .int x :: st))) := own_st (fun _ => XS.idiv X.here hx rfl (hb hby hd) rfl hy) h
theorem own_irem (X : Stand p l e R s m args below meth c T locs cells slots) (hx : p.tables.exec = Jvm.exec) (hby : c.code = code) {x y : Int32} (hd : decode code pc = .ok (.irem, 1)) (hy : y ≠ 0) (h : own_G p e below s Q k n (T.setTop (mkF m (pc + 1) Ls (.int (x % y) :: st)))) : own_G p e below s Q k n (T.setTop (mkF m pc Ls (.int y :: .int x :: st))) := own_st (fun _ => iremM X hx rfl (hb hby hd) rfl hy) h
theorem own_ldiv (X : Stand p l e R s m args below meth c T locs cells slots) (hx : p.tables.exec = Jvm.exec) (hby : c.code = code) {x y : Int64} (hd : decode code pc = .ok (.ldiv, 1)) (hy : y ≠ 0) (h : own_G p e below s Q k n (T.setTop (mkF m (pc + 1) Ls (.long (x / y) :: st)))) : own_G p e below s Q k n (T.setTop (mkF m pc Ls (.long y :: .long x :: st))) := own_st (fun _ => XS.ldiv X.here hx rfl (hb hby hd) rfl hy) h
theorem own_lrem (X : Stand p l e R s m args below meth c T locs cells slots) (hx : p.tables.exec = Jvm.exec) (hby : c.code = code) {x y : Int64} (hd : decode code pc = .ok (.lrem, 1)) (hy : y ≠ 0) (h : own_G p e below s Q k n (T.setTop (mkF m (pc + 1) Ls (.long (x % y) :: st)))) : own_G p e below s Q k n (T.setTop (mkF m pc Ls (.long y :: .long x :: st))) := own_st (fun _ hr => XS.lrem X.here hx rfl (hb hby hd) rfl hy (by rw [lrem_mod]; exact hr)) h
theorem own_ineg (X : Stand p l e R s m args below meth c T locs cells slots) (hx : p.tables.exec = Jvm.exec) (hby : c.code = code) {x : Int32} (hd : decode code pc = .ok (.ineg, 1))  (h : own_G p e below s Q k n (T.setTop (mkF m (pc + 1) Ls (.int (-x) :: st)))) : own_G p e below s Q k n (T.setTop (mkF m pc Ls (.int x :: st))) := own_st (fun _ => XS.ineg X.here hx rfl (hb hby hd) rfl) h
theorem own_lneg (X : Stand p l e R s m args below meth c T locs cells slots) (hx : p.tables.exec = Jvm.exec) (hby : c.code = code) {x : Int64} (hd : decode code pc = .ok (.lneg, 1))  (h : own_G p e below s Q k n (T.setTop (mkF m (pc + 1) Ls (.long (-x) :: st)))) : own_G p e below s Q k n (T.setTop (mkF m pc Ls (.long x :: st))) := own_st (fun _ => XS.lneg X.here hx rfl (hb hby hd) rfl) h
theorem own_i2l (X : Stand p l e R s m args below meth c T locs cells slots) (hx : p.tables.exec = Jvm.exec) (hby : c.code = code) {x : Int32} (hd : decode code pc = .ok (.i2l, 1))  (h : own_G p e below s Q k n (T.setTop (mkF m (pc + 1) Ls (.long (x.toInt64) :: st)))) : own_G p e below s Q k n (T.setTop (mkF m pc Ls (.int x :: st))) := own_st (fun _ => XS.i2l X.here hx rfl (hb hby hd) rfl) h
theorem own_l2i (X : Stand p l e R s m args below meth c T locs cells slots) (hx : p.tables.exec = Jvm.exec) (hby : c.code = code) {x : Int64} (hd : decode code pc = .ok (.l2i, 1))  (h : own_G p e below s Q k n (T.setTop (mkF m (pc + 1) Ls (.int (x.toInt32) :: st)))) : own_G p e below s Q k n (T.setTop (mkF m pc Ls (.long x :: st))) := own_st (fun _ => XS.l2i X.here hx rfl (hb hby hd) rfl) h
theorem own_i2b (X : Stand p l e R s m args below meth c T locs cells slots) (hx : p.tables.exec = Jvm.exec) (hby : c.code = code) {x : Int32} (hd : decode code pc = .ok (.i2b, 1))  (h : own_G p e below s Q k n (T.setTop (mkF m (pc + 1) Ls (.int (x.toInt8.toInt32) :: st)))) : own_G p e below s Q k n (T.setTop (mkF m pc Ls (.int x :: st))) := own_st (fun _ => XS.i2b X.here hx rfl (hb hby hd) rfl) h
theorem own_i2s (X : Stand p l e R s m args below meth c T locs cells slots) (hx : p.tables.exec = Jvm.exec) (hby : c.code = code) {x : Int32} (hd : decode code pc = .ok (.i2s, 1))  (h : own_G p e below s Q k n (T.setTop (mkF m (pc + 1) Ls (.int (x.toInt16.toInt32) :: st)))) : own_G p e below s Q k n (T.setTop (mkF m pc Ls (.int x :: st))) := own_st (fun _ => XS.i2s X.here hx rfl (hb hby hd) rfl) h
theorem own_i2c (X : Stand p l e R s m args below meth c T locs cells slots) (hx : p.tables.exec = Jvm.exec) (hby : c.code = code) {x : Int32} (hd : decode code pc = .ok (.i2c, 1))  (h : own_G p e below s Q k n (T.setTop (mkF m (pc + 1) Ls (.int (x.toUInt32.toUInt16.toUInt32.toInt32) :: st)))) : own_G p e below s Q k n (T.setTop (mkF m pc Ls (.int x :: st))) := own_st (fun _ => XS.i2c X.here hx rfl (hb hby hd) rfl) h
theorem own_dup (X : Stand p l e R s m args below meth c T locs cells slots) (hx : p.tables.exec = Jvm.exec) (hby : c.code = code) {v : Value} (hd : decode code pc = .ok (.dup, 1)) (hc : v.category = 1) (h : own_G p e below s Q k n (T.setTop (mkF m (pc + 1) Ls (v :: v :: st)))) : own_G p e below s Q k n (T.setTop (mkF m pc Ls (v :: st))) := own_st (fun _ => XS.dup X.here hx rfl (hb hby hd) rfl hc) h
theorem own_dup_x1 (X : Stand p l e R s m args below meth c T locs cells slots) (hx : p.tables.exec = Jvm.exec) (hby : c.code = code) {v w : Value} (hd : decode code pc = .ok (.dup_x1, 1)) (hc : v.category = 1) (hc' : w.category = 1) (h : own_G p e below s Q k n (T.setTop (mkF m (pc + 1) Ls (v :: w :: v :: st)))) : own_G p e below s Q k n (T.setTop (mkF m pc Ls (v :: w :: st))) := own_st (fun _ => XS.dupX1 X.here hx rfl (hb hby hd) rfl hc hc') h
theorem own_dup2 (X : Stand p l e R s m args below meth c T locs cells slots) (hx : p.tables.exec = Jvm.exec) (hby : c.code = code) {v w : Value} (hd : decode code pc = .ok (.dup2, 1)) (hc : v.category = 1) (hc' : w.category = 1) (h : own_G p e below s Q k n (T.setTop (mkF m (pc + 1) Ls (v :: w :: v :: w :: st)))) : own_G p e below s Q k n (T.setTop (mkF m pc Ls (v :: w :: st))) := own_st (fun _ => Jvm.Free.XT.dup2 X.here hx rfl (hb hby hd) rfl hc hc') h
theorem own_dup2L (X : Stand p l e R s m args below meth c T locs cells slots) (hx : p.tables.exec = Jvm.exec) (hby : c.code = code) {v : Int64} (hd : decode code pc = .ok (.dup2, 1))  (h : own_G p e below s Q k n (T.setTop (mkF m (pc + 1) Ls (.long v :: .long v :: st)))) : own_G p e below s Q k n (T.setTop (mkF m pc Ls (.long v :: st))) := own_st (fun _ => Jvm.Free.XT.dup2L X.here hx rfl (hb hby hd) rfl) h
theorem own_pop (X : Stand p l e R s m args below meth c T locs cells slots) (hx : p.tables.exec = Jvm.exec) (hby : c.code = code) {v : Value} (hd : decode code pc = .ok (.pop, 1)) (hc : v.category = 1) (h : own_G p e below s Q k n (T.setTop (mkF m (pc + 1) Ls st))) : own_G p e below s Q k n (T.setTop (mkF m pc Ls (v :: st))) := own_st (fun _ => XS.pop X.here hx rfl (hb hby hd) rfl hc) h
theorem own_iinc (X : Stand p l e R s m args below meth c T locs cells slots) (hx : p.tables.exec = Jvm.exec) (hby : c.code = code) {kk : Nat} {cst : Int} {x : Int32} {l' : Array Slot} (hd : decode code pc = .ok (.iinc kk cst, 3)) (hl : Ls[kk]? = some (.val (.int x))) (hl' : storeLocals Ls kk (.int (x + Int32.ofInt cst)) = some l') (h : own_G p e below s Q k n (T.setTop (mkF m (pc + 3) l' st))) : own_G p e below s Q k n (T.setTop (mkF m pc Ls st)) := own_st (fun _ => XS.iinc X.here hx rfl (hb hby hd) hl hl') h
theorem own_goto (X : Stand p l e R s m args below meth c T locs cells slots) (hx : p.tables.exec = Jvm.exec) (hby : c.code = code) {o : Int} {pc' : Nat} (hd : decode code pc = .ok (.goto o, 3)) (ho : 0 ≤ (pc : Int) + o) (hp : ((pc : Int) + o).toNat = pc') (h : own_G p e below s Q k n (T.setTop (mkF m pc' Ls st))) : own_G p e below s Q k n (T.setTop (mkF m pc Ls st)) := own_st (fun _ => XS.goto X.here hx rfl rfl (hb hby hd) ho hp) h
theorem own_icmp_eq (X : Stand p l e R s m args below meth c T locs cells slots) (hx : p.tables.exec = Jvm.exec) (hby : c.code = code) {x y : Int32} {o : Int} {pc' : Nat} (hd : decode code pc = .ok (.if_icmp .eq o, 3)) (ho : 0 ≤ (pc : Int) + o) (hp : ((pc : Int) + o).toNat = pc') (hY : x = y → own_G p e below s Q k n (T.setTop (mkF m pc' Ls st))) (hN : ¬ x = y → own_G p e below s Q k n (T.setTop (mkF m (pc + 3) Ls st))) : own_G p e below s Q k n (T.setTop (mkF m pc Ls (.int y :: .int x :: st))) := by
  by_cases q : x = y
  · exact own_st (fun _ => XS.icmpYes X.here hx rfl rfl (hb hby hd) rfl (teq q).1 ho hp) (hY q)
  · exact own_st (fun _ => XS.icmpNo X.here hx rfl (hb hby hd) rfl (feq q).1) (hN q)
theorem own_if_eq (X : Stand p l e R s m args below meth c T locs cells slots) (hx : p.tables.exec = Jvm.exec) (hby : c.code = code) {x : Int32} {o : Int} {pc' : Nat} (hd : decode code pc = .ok (.ifCond .eq o, 3)) (ho : 0 ≤ (pc : Int) + o) (hp : ((pc : Int) + o).toNat = pc') (hY : x = 0 → own_G p e below s Q k n (T.setTop (mkF m pc' Ls st))) (hN : ¬ x = 0 → own_G p e below s Q k n (T.setTop (mkF m (pc + 3) Ls st))) : own_G p e below s Q k n (T.setTop (mkF m pc Ls (.int x :: st))) := by
  by_cases q : x = 0
  · exact own_st (fun _ => XS.ifYes X.here hx rfl rfl (hb hby hd) rfl ((if0 _ _).trans (teq q).1) ho hp) (hY q)
  · exact own_st (fun _ => XS.ifNo X.here hx rfl (hb hby hd) rfl ((if0 _ _).trans (feq q).1)) (hN q)
theorem own_lcmp_eq (X : Stand p l e R s m args below meth c T locs cells slots) (hx : p.tables.exec = Jvm.exec) (hby : c.code = code) {x y : Int64} {o : Int} {pc' : Nat} (hd : decode code pc = .ok (.lcmp, 1)) (hd2 : decode code (pc + 1) = .ok (.ifCond .eq o, 3)) (ho : 0 ≤ ((pc + 1 : Nat) : Int) + o) (hp : (((pc + 1 : Nat) : Int) + o).toNat = pc') (hY : x = y → own_G p e below s Q k n (T.setTop (mkF m pc' Ls st))) (hN : ¬ x = y → own_G p e below s Q k n (T.setTop (mkF m (pc + 4) Ls st))) : own_G p e below s Q k n (T.setTop (mkF m pc Ls (.long y :: .long x :: st))) := by
  refine own_st (fun _ => XS.lcmp X.here hx rfl (hb hby hd) rfl) ?_
  exact own_if_eq (x := lcmpW x y) X hx hby hd2 ho hp (fun q => hY ((lw_eq x y).mp q)) (fun q => hN (fun z => q ((lw_eq x y).mpr z)))
theorem own_icmp_ne (X : Stand p l e R s m args below meth c T locs cells slots) (hx : p.tables.exec = Jvm.exec) (hby : c.code = code) {x y : Int32} {o : Int} {pc' : Nat} (hd : decode code pc = .ok (.if_icmp .ne o, 3)) (ho : 0 ≤ (pc : Int) + o) (hp : ((pc : Int) + o).toNat = pc') (hY : ¬ x = y → own_G p e below s Q k n (T.setTop (mkF m pc' Ls st))) (hN : x = y → own_G p e below s Q k n (T.setTop (mkF m (pc + 3) Ls st))) : own_G p e below s Q k n (T.setTop (mkF m pc Ls (.int y :: .int x :: st))) := by
  by_cases q : x = y
  · exact own_st (fun _ => XS.icmpNo X.here hx rfl (hb hby hd) rfl (teq q).2) (hN q)
  · exact own_st (fun _ => XS.icmpYes X.here hx rfl rfl (hb hby hd) rfl (feq q).2 ho hp) (hY q)
theorem own_if_ne (X : Stand p l e R s m args below meth c T locs cells slots) (hx : p.tables.exec = Jvm.exec) (hby : c.code = code) {x : Int32} {o : Int} {pc' : Nat} (hd : decode code pc = .ok (.ifCond .ne o, 3)) (ho : 0 ≤ (pc : Int) + o) (hp : ((pc : Int) + o).toNat = pc') (hY : ¬ x = 0 → own_G p e below s Q k n (T.setTop (mkF m pc' Ls st))) (hN : x = 0 → own_G p e below s Q k n (T.setTop (mkF m (pc + 3) Ls st))) : own_G p e below s Q k n (T.setTop (mkF m pc Ls (.int x :: st))) := by
  by_cases q : x = 0
  · exact own_st (fun _ => XS.ifNo X.here hx rfl (hb hby hd) rfl ((if0 _ _).trans (teq q).2)) (hN q)
  · exact own_st (fun _ => XS.ifYes X.here hx rfl rfl (hb hby hd) rfl ((if0 _ _).trans (feq q).2) ho hp) (hY q)
theorem own_lcmp_ne (X : Stand p l e R s m args below meth c T locs cells slots) (hx : p.tables.exec = Jvm.exec) (hby : c.code = code) {x y : Int64} {o : Int} {pc' : Nat} (hd : decode code pc = .ok (.lcmp, 1)) (hd2 : decode code (pc + 1) = .ok (.ifCond .ne o, 3)) (ho : 0 ≤ ((pc + 1 : Nat) : Int) + o) (hp : (((pc + 1 : Nat) : Int) + o).toNat = pc') (hY : ¬ x = y → own_G p e below s Q k n (T.setTop (mkF m pc' Ls st))) (hN : x = y → own_G p e below s Q k n (T.setTop (mkF m (pc + 4) Ls st))) : own_G p e below s Q k n (T.setTop (mkF m pc Ls (.long y :: .long x :: st))) := by
  refine own_st (fun _ => XS.lcmp X.here hx rfl (hb hby hd) rfl) ?_
  exact own_if_ne (x := lcmpW x y) X hx hby hd2 ho hp (fun q => hY (fun z => q ((lw_eq x y).mpr z))) (fun q => hN ((lw_eq x y).mp q))
theorem own_icmp_lt (X : Stand p l e R s m args below meth c T locs cells slots) (hx : p.tables.exec = Jvm.exec) (hby : c.code = code) {x y : Int32} {o : Int} {pc' : Nat} (hd : decode code pc = .ok (.if_icmp .lt o, 3)) (ho : 0 ≤ (pc : Int) + o) (hp : ((pc : Int) + o).toNat = pc') (hY : x < y → own_G p e below s Q k n (T.setTop (mkF m pc' Ls st))) (hN : ¬ x < y → own_G p e below s Q k n (T.setTop (mkF m (pc + 3) Ls st))) : own_G p e below s Q k n (T.setTop (mkF m pc Ls (.int y :: .int x :: st))) := by
  by_cases q : x < y
  · exact own_st (fun _ => XS.icmpYes X.here hx rfl rfl (hb hby hd) rfl (tlt q).1 ho hp) (hY q)
  · exact own_st (fun _ => XS.icmpNo X.here hx rfl (hb hby hd) rfl (flt q).1) (hN q)
theorem own_if_lt (X : Stand p l e R s m args below meth c T locs cells slots) (hx : p.tables.exec = Jvm.exec) (hby : c.code = code) {x : Int32} {o : Int} {pc' : Nat} (hd : decode code pc = .ok (.ifCond .lt o, 3)) (ho : 0 ≤ (pc : Int) + o) (hp : ((pc : Int) + o).toNat = pc') (hY : x < 0 → own_G p e below s Q k n (T.setTop (mkF m pc' Ls st))) (hN : ¬ x < 0 → own_G p e below s Q k n (T.setTop (mkF m (pc + 3) Ls st))) : own_G p e below s Q k n (T.setTop (mkF m pc Ls (.int x :: st))) := by
  by_cases q : x < 0
  · exact own_st (fun _ => XS.ifYes X.here hx rfl rfl (hb hby hd) rfl ((if0 _ _).trans (tlt q).1) ho hp) (hY q)
  · exact own_st (fun _ => XS.ifNo X.here hx rfl (hb hby hd) rfl ((if0 _ _).trans (flt q).1)) (hN q)
theorem own_lcmp_lt (X : Stand p l e R s m args below meth c T locs cells slots) (hx : p.tables.exec = Jvm.exec) (hby : c.code = code) {x y : Int64} {o : Int} {pc' : Nat} (hd : decode code pc = .ok (.lcmp, 1)) (hd2 : decode code (pc + 1) = .ok (.ifCond .lt o, 3)) (ho : 0 ≤ ((pc + 1 : Nat) : Int) + o) (hp : (((pc + 1 : Nat) : Int) + o).toNat = pc') (hY : x < y → own_G p e below s Q k n (T.setTop (mkF m pc' Ls st))) (hN : ¬ x < y → own_G p e below s Q k n (T.setTop (mkF m (pc + 4) Ls st))) : own_G p e below s Q k n (T.setTop (mkF m pc Ls (.long y :: .long x :: st))) := by
  refine own_st (fun _ => XS.lcmp X.here hx rfl (hb hby hd) rfl) ?_
  exact own_if_lt (x := lcmpW x y) X hx hby hd2 ho hp (fun q => hY ((lw_lt x y).mp q)) (fun q => hN (fun z => q ((lw_lt x y).mpr z)))
theorem own_icmp_ge (X : Stand p l e R s m args below meth c T locs cells slots) (hx : p.tables.exec = Jvm.exec) (hby : c.code = code) {x y : Int32} {o : Int} {pc' : Nat} (hd : decode code pc = .ok (.if_icmp .ge o, 3)) (ho : 0 ≤ (pc : Int) + o) (hp : ((pc : Int) + o).toNat = pc') (hY : ¬ x < y → own_G p e below s Q k n (T.setTop (mkF m pc' Ls st))) (hN : x < y → own_G p e below s Q k n (T.setTop (mkF m (pc + 3) Ls st))) : own_G p e below s Q k n (T.setTop (mkF m pc Ls (.int y :: .int x :: st))) := by
  by_cases q : x < y
  · exact own_st (fun _ => XS.icmpNo X.here hx rfl (hb hby hd) rfl (tlt q).2.1) (hN q)
  · exact own_st (fun _ => XS.icmpYes X.here hx rfl rfl (hb hby hd) rfl (flt q).2.1 ho hp) (hY q)
theorem own_if_ge (X : Stand p l e R s m args below meth c T locs cells slots) (hx : p.tables.exec = Jvm.exec) (hby : c.code = code) {x : Int32} {o : Int} {pc' : Nat} (hd : decode code pc = .ok (.ifCond .ge o, 3)) (ho : 0 ≤ (pc : Int) + o) (hp : ((pc : Int) + o).toNat = pc') (hY : ¬ x < 0 → own_G p e below s Q k n (T.setTop (mkF m pc' Ls st))) (hN : x < 0 → own_G p e below s Q k n (T.setTop (mkF m (pc + 3) Ls st))) : own_G p e below s Q k n (T.setTop (mkF m pc Ls (.int x :: st))) := by
  by_cases q : x < 0
  · exact own_st (fun _ => XS.ifNo X.here hx rfl (hb hby hd) rfl ((if0 _ _).trans (tlt q).2.1)) (hN q)
  · exact own_st (fun _ => XS.ifYes X.here hx rfl rfl (hb hby hd) rfl ((if0 _ _).trans (flt q).2.1) ho hp) (hY q)
theorem own_lcmp_ge (X : Stand p l e R s m args below meth c T locs cells slots) (hx : p.tables.exec = Jvm.exec) (hby : c.code = code) {x y : Int64} {o : Int} {pc' : Nat} (hd : decode code pc = .ok (.lcmp, 1)) (hd2 : decode code (pc + 1) = .ok (.ifCond .ge o, 3)) (ho : 0 ≤ ((pc + 1 : Nat) : Int) + o) (hp : (((pc + 1 : Nat) : Int) + o).toNat = pc') (hY : ¬ x < y → own_G p e below s Q k n (T.setTop (mkF m pc' Ls st))) (hN : x < y → own_G p e below s Q k n (T.setTop (mkF m (pc + 4) Ls st))) : own_G p e below s Q k n (T.setTop (mkF m pc Ls (.long y :: .long x :: st))) := by
  refine own_st (fun _ => XS.lcmp X.here hx rfl (hb hby hd) rfl) ?_
  exact own_if_ge (x := lcmpW x y) X hx hby hd2 ho hp (fun q => hY (fun z => q ((lw_lt x y).mpr z))) (fun q => hN ((lw_lt x y).mp q))
theorem own_icmp_gt (X : Stand p l e R s m args below meth c T locs cells slots) (hx : p.tables.exec = Jvm.exec) (hby : c.code = code) {x y : Int32} {o : Int} {pc' : Nat} (hd : decode code pc = .ok (.if_icmp .gt o, 3)) (ho : 0 ≤ (pc : Int) + o) (hp : ((pc : Int) + o).toNat = pc') (hY : y < x → own_G p e below s Q k n (T.setTop (mkF m pc' Ls st))) (hN : ¬ y < x → own_G p e below s Q k n (T.setTop (mkF m (pc + 3) Ls st))) : own_G p e below s Q k n (T.setTop (mkF m pc Ls (.int y :: .int x :: st))) := by
  by_cases q : y < x
  · exact own_st (fun _ => XS.icmpYes X.here hx rfl rfl (hb hby hd) rfl (tlt q).2.2.1 ho hp) (hY q)
  · exact own_st (fun _ => XS.icmpNo X.here hx rfl (hb hby hd) rfl (flt q).2.2.1) (hN q)
theorem own_if_gt (X : Stand p l e R s m args below meth c T locs cells slots) (hx : p.tables.exec = Jvm.exec) (hby : c.code = code) {x : Int32} {o : Int} {pc' : Nat} (hd : decode code pc = .ok (.ifCond .gt o, 3)) (ho : 0 ≤ (pc : Int) + o) (hp : ((pc : Int) + o).toNat = pc') (hY : 0 < x → own_G p e below s Q k n (T.setTop (mkF m pc' Ls st))) (hN : ¬ 0 < x → own_G p e below s Q k n (T.setTop (mkF m (pc + 3) Ls st))) : own_G p e below s Q k n (T.setTop (mkF m pc Ls (.int x :: st))) := by
  by_cases q : 0 < x
  · exact own_st (fun _ => XS.ifYes X.here hx rfl rfl (hb hby hd) rfl ((if0 _ _).trans (tlt q).2.2.1) ho hp) (hY q)
  · exact own_st (fun _ => XS.ifNo X.here hx rfl (hb hby hd) rfl ((if0 _ _).trans (flt q).2.2.1)) (hN q)
theorem own_lcmp_gt (X : Stand p l e R s m args below meth c T locs cells slots) (hx : p.tables.exec = Jvm.exec) (hby : c.code = code) {x y : Int64} {o : Int} {pc' : Nat} (hd : decode code pc = .ok (.lcmp, 1)) (hd2 : decode code (pc + 1) = .ok (.ifCond .gt o, 3)) (ho : 0 ≤ ((pc + 1 : Nat) : Int) + o) (hp : (((pc + 1 : Nat) : Int) + o).toNat = pc') (hY : y < x → own_G p e below s Q k n (T.setTop (mkF m pc' Ls st))) (hN : ¬ y < x → own_G p e below s Q k n (T.setTop (mkF m (pc + 4) Ls st))) : own_G p e below s Q k n (T.setTop (mkF m pc Ls (.long y :: .long x :: st))) := by
  refine own_st (fun _ => XS.lcmp X.here hx rfl (hb hby hd) rfl) ?_
  exact own_if_gt (x := lcmpW x y) X hx hby hd2 ho hp (fun q => hY ((lw_gt x y).mp q)) (fun q => hN (fun z => q ((lw_gt x y).mpr z)))
theorem own_icmp_le (X : Stand p l e R s m args below meth c T locs cells slots) (hx : p.tables.exec = Jvm.exec) (hby : c.code = code) {x y : Int32} {o : Int} {pc' : Nat} (hd : decode code pc = .ok (.if_icmp .le o, 3)) (ho : 0 ≤ (pc : Int) + o) (hp : ((pc : Int) + o).toNat = pc') (hY : ¬ y < x → own_G p e below s Q k n (T.setTop (mkF m pc' Ls st))) (hN : y < x → own_G p e below s Q k n (T.setTop (mkF m (pc + 3) Ls st))) : own_G p e below s Q k n (T.setTop (mkF m pc Ls (.int y :: .int x :: st))) := by
  by_cases q : y < x
  · exact own_st (fun _ => XS.icmpNo X.here hx rfl (hb hby hd) rfl (tlt q).2.2.2) (hN q)
  · exact own_st (fun _ => XS.icmpYes X.here hx rfl rfl (hb hby hd) rfl (flt q).2.2.2 ho hp) (hY q)
theorem own_if_le (X : Stand p l e R s m args below meth c T locs cells slots) (hx : p.tables.exec = Jvm.exec) (hby : c.code = code) {x : Int32} {o : Int} {pc' : Nat} (hd : decode code pc = .ok (.ifCond .le o, 3)) (ho : 0 ≤ (pc : Int) + o) (hp : ((pc : Int) + o).toNat = pc') (hY : ¬ 0 < x → own_G p e below s Q k n (T.setTop (mkF m pc' Ls st))) (hN : 0 < x → own_G p e below s Q k n (T.setTop (mkF m (pc + 3) Ls st))) : own_G p e below s Q k n (T.setTop (mkF m pc Ls (.int x :: st))) := by
  by_cases q : 0 < x
  · exact own_st (fun _ => XS.ifNo X.here hx rfl (hb hby hd) rfl ((if0 _ _).trans (tlt q).2.2.2)) (hN q)
  · exact own_st (fun _ => XS.ifYes X.here hx rfl rfl (hb hby hd) rfl ((if0 _ _).trans (flt q).2.2.2) ho hp) (hY q)
theorem own_lcmp_le (X : Stand p l e R s m args below meth c T locs cells slots) (hx : p.tables.exec = Jvm.exec) (hby : c.code = code) {x y : Int64} {o : Int} {pc' : Nat} (hd : decode code pc = .ok (.lcmp, 1)) (hd2 : decode code (pc + 1) = .ok (.ifCond .le o, 3)) (ho : 0 ≤ ((pc + 1 : Nat) : Int) + o) (hp : (((pc + 1 : Nat) : Int) + o).toNat = pc') (hY : ¬ y < x → own_G p e below s Q k n (T.setTop (mkF m pc' Ls st))) (hN : y < x → own_G p e below s Q k n (T.setTop (mkF m (pc + 4) Ls st))) : own_G p e below s Q k n (T.setTop (mkF m pc Ls (.long y :: .long x :: st))) := by
  refine own_st (fun _ => XS.lcmp X.here hx rfl (hb hby hd) rfl) ?_
  exact own_if_le (x := lcmpW x y) X hx hby hd2 ho hp (fun q => hY (fun z => q ((lw_gt x y).mpr z))) (fun q => hN ((lw_gt x y).mp q))
theorem own_acmp_eq (X : Stand p l e R s m args below meth c T locs cells slots) (hx : p.tables.exec = Jvm.exec) (hby : c.code = code) {x y : Value} {o : Int} {pc' : Nat} (hx1 : x.isRef = true) (hy1 : y.isRef = true) (hd : decode code pc = .ok (.if_acmp .eq o, 3)) (ho : 0 ≤ (pc : Int) + o) (hp : ((pc : Int) + o).toNat = pc') (hY : x = y → own_G p e below s Q k n (T.setTop (mkF m pc' Ls st))) (hN : ¬ x = y → own_G p e below s Q k n (T.setTop (mkF m (pc + 3) Ls st))) : own_G p e below s Q k n (T.setTop (mkF m pc Ls (y :: x :: st))) := by
  by_cases q : x = y
  · exact own_st (fun _ => Jvm.Free.XT.acmpYes X.here hx rfl rfl (hb hby hd) rfl hx1 hy1 (decide_eq_true q) ho hp) (hY q)
  · exact own_st (fun _ => Jvm.Free.XT.acmpNo X.here hx rfl (hb hby hd) rfl hx1 hy1 (decide_eq_false q)) (hN q)
theorem own_acmp_ne (X : Stand p l e R s m args below meth c T locs cells slots) (hx : p.tables.exec = Jvm.exec) (hby : c.code = code) {x y : Value} {o : Int} {pc' : Nat} (hx1 : x.isRef = true) (hy1 : y.isRef = true) (hd : decode code pc = .ok (.if_acmp .ne o, 3)) (ho : 0 ≤ (pc : Int) + o) (hp : ((pc : Int) + o).toNat = pc') (hY : ¬ x = y → own_G p e below s Q k n (T.setTop (mkF m pc' Ls st))) (hN : x = y → own_G p e below s Q k n (T.setTop (mkF m (pc + 3) Ls st))) : own_G p e below s Q k n (T.setTop (mkF m pc Ls (y :: x :: st))) := by
  by_cases q : x = y
  · exact own_st (fun _ => Jvm.Free.XT.acmpNo X.here hx rfl (hb hby hd) rfl hx1 hy1 (decide_eq_false (fun z => z q))) (hN q)
  · exact own_st (fun _ => Jvm.Free.XT.acmpYes X.here hx rfl rfl (hb hby hd) rfl hx1 hy1 (decide_eq_true q) ho hp) (hY q)
theorem own_ifnullY (X : Stand p l e R s m args below meth c T locs cells slots) (hx : p.tables.exec = Jvm.exec) (hby : c.code = code) {o : Int} {pc' : Nat} (hd : decode code pc = .ok (.ifnull o, 3)) (ho : 0 ≤ (pc : Int) + o) (hp : ((pc : Int) + o).toNat = pc') (h : own_G p e below s Q k n (T.setTop (mkF m pc' Ls st))) : own_G p e below s Q k n (T.setTop (mkF m pc Ls (.null :: st))) := own_st (fun _ => XS.ifnullYes X.here hx rfl rfl (hb hby hd) rfl ho hp) h
theorem own_ifnullN (X : Stand p l e R s m args below meth c T locs cells slots) (hx : p.tables.exec = Jvm.exec) (hby : c.code = code) {o : Int} {b : Addr} (hd : decode code pc = .ok (.ifnull o, 3)) (h : own_G p e below s Q k n (T.setTop (mkF m (pc + 3) Ls st))) : own_G p e below s Q k n (T.setTop (mkF m pc Ls (.ref b :: st))) := own_st (fun _ => XS.ifnullNo X.here hx rfl (hb hby hd) rfl) h
theorem own_ifnonnullY (X : Stand p l e R s m args below meth c T locs cells slots) (hx : p.tables.exec = Jvm.exec) (hby : c.code = code) {o : Int} {b : Addr} {pc' : Nat} (hd : decode code pc = .ok (.ifnonnull o, 3)) (ho : 0 ≤ (pc : Int) + o) (hp : ((pc : Int) + o).toNat = pc') (h : own_G p e below s Q k n (T.setTop (mkF m pc' Ls st))) : own_G p e below s Q k n (T.setTop (mkF m pc Ls (.ref b :: st))) := own_st (fun _ => XS.ifnonnullYes X.here hx rfl rfl (hb hby hd) rfl ho hp) h
theorem own_ifnonnullN (X : Stand p l e R s m args below meth c T locs cells slots) (hx : p.tables.exec = Jvm.exec) (hby : c.code = code) {o : Int} (hd : decode code pc = .ok (.ifnonnull o, 3)) (h : own_G p e below s Q k n (T.setTop (mkF m (pc + 3) Ls st))) : own_G p e below s Q k n (T.setTop (mkF m pc Ls (.null :: st))) := own_st (fun _ => XS.ifnonnullNo X.here hx rfl (hb hby hd) rfl) h
theorem own_tswIn (X : Stand p l e R s m args below meth c T locs cells slots) (hx : p.tables.exec = Jvm.exec) (hby : c.code = code) {dflt low high : Int} {offs : Array Int} {len : Nat} {o : Int} {pc' : Nat} {i : Int32} (hd : decode code pc = .ok (.tableswitch dflt low high offs, len)) (hin : ¬ (i.toInt < low ∨ i.toInt > high)) (hoff : offs[(i.toInt - low).toNat]? = some o) (ho : 0 ≤ (pc : Int) + o) (hp : ((pc : Int) + o).toNat = pc') (h : own_G p e below s Q k n (T.setTop (mkF m pc' Ls st))) : own_G p e below s Q k n (T.setTop (mkF m pc Ls (.int i :: st))) := own_st (fun _ => XS.tswIn (g := mkF m pc Ls (.int i :: st)) (pc0 := pc) X.here hx rfl rfl (hb hby hd) rfl hin hoff ho hp) h
theorem own_ldcI (X : Stand p l e R s m args below meth c T locs cells slots) (hx : p.tables.exec = Jvm.exec) (hby : c.code = code) (hZ : Z.Warmed39 s.vm) {own : String} {i : Nat} {v : Int32} (hown : s.vm.findClass own = some m.cls) (w : (Cond.constant own i v).before a0 Z = true) (hd : decode code pc = .ok (.ldc i, 2)) (h : own_G p e below s Q k n (T.setTop (mkF m (pc + 2) Ls (.int v :: st)))) : own_G p e below s Q k n (T.setTop (mkF m pc Ls st)) := own_st (X.ldcInt hx hown (mvT hZ w) rfl (hb hby hd)) h
theorem own_ldcJ (X : Stand p l e R s m args below meth c T locs cells slots) (hx : p.tables.exec = Jvm.exec) (hby : c.code = code) (hZ : Z.Warmed39 s.vm) {own : String} {i : Nat} {v : Int64} (hown : s.vm.findClass own = some m.cls) (w : (Cond.constantLong own i v).before a0 Z = true) (hd : decode code pc = .ok (.ldc2_w i, 3)) (h : own_G p e below s Q k n (T.setTop (mkF m (pc + 3) Ls (.long v :: st)))) : own_G p e below s Q k n (T.setTop (mkF m pc Ls st)) := own_st (X.ldc2Long hx hown (mvT hZ w) rfl (hb hby hd)) h
theorem own_instNull (X : Stand p l e R s m args below meth c T locs cells slots) (hx : p.tables.exec = Jvm.exec) (hby : c.code = code) {i : Nat} (hd : decode code pc = .ok (.instanceof i, 3)) (h : own_G p e below s Q k n (T.setTop (mkF m (pc + 3) Ls (.int 0 :: st)))) : own_G p e below s Q k n (T.setTop (mkF m pc Ls (.null :: st))) := own_st (X.instanceofNull hx rfl rfl (hb hby hd)) h
theorem own_castNull (X : Stand p l e R s m args below meth c T locs cells slots) (hx : p.tables.exec = Jvm.exec) (hby : c.code = code) {i : Nat} (hd : decode code pc = .ok (.checkcast i, 3)) (h : own_G p e below s Q k n (T.setTop (mkF m (pc + 3) Ls (.null :: st)))) : own_G p e below s Q k n (T.setTop (mkF m pc Ls (.null :: st))) := own_st (X.checkcastNull hx rfl rfl (hb hby hd)) h
def own_Ar (Z : State) (h : Heap) (a : Addr) (ty : FieldType) (n : Nat) (f : Nat → Value) : Prop := ∃ c : Cell, Arr Z h a c ty ∧ c.slots.size = n ∧ n < 2 ^ 31 ∧ ∀ j, j < n → c.slots[j]? = some (f j)
def own_set (f : Nat → Value) (j : Nat) (v : Value) : Nat → Value := fun i => if i = j then v else f i
theorem own_set_same (f : Nat → Value) (j : Nat) (v : Value) : own_set f j v j = v := if_pos rfl
theorem own_set_ne (f : Nat → Value) {i j : Nat} (v : Value) (q : i ≠ j) : own_set f j v i = f i := if_neg q
theorem own_Ar.lt {a : Addr} {ty : FieldType} {N : Nat} {f : Nat → Value} (F : own_Ar Z h a ty N f) : a < h.size := by obtain ⟨c, A, -⟩ := F; exact A.lt
theorem own_Ar.small {a : Addr} {ty : FieldType} {N : Nat} {f : Nat → Value} (F : own_Ar Z h a ty N f) : N < 2 ^ 31 := by obtain ⟨c, -, -, q, -⟩ := F; exact q
theorem own_Ar.ext {h' : Heap} {a : Addr} {ty : FieldType} {N : Nat} {f : Nat → Value} (F : own_Ar Z h a ty N f) (E : Ext h h') : own_Ar Z h' a ty N f := by obtain ⟨c, A, r⟩ := F; exact ⟨c, A.ext E, r⟩
theorem own_Ar.other {h' : Heap} {a b : Addr} {sl : Nat} {v : Value} {ty : FieldType} {N : Nat} {f : Nat → Value} (F : own_Ar Z h b ty N f) (W : Wr h h' a sl v) (q : b ≠ a) : own_Ar Z h' b ty N f := by obtain ⟨c, A, r⟩ := F; exact ⟨c, A.other W q, r⟩
theorem own_Ar.keep {h' : Heap} {a : Addr} {ws : List Addr} {ty : FieldType} {N : Nat} {f : Nat → Value} (F : own_Ar Z h a ty N f) (K : Keep h h' ws) (q : a ∉ ws) : own_Ar Z h' a ty N f := by obtain ⟨c, A, r⟩ := F; exact ⟨c, ⟨K.2.1 a c A.1 q, A.2⟩, r⟩
theorem own_Ar.fn {a : Addr} {ty : FieldType} {N : Nat} {f g : Nat → Value} (F : own_Ar Z h a ty N f) (q : ∀ j, j < N → f j = g j) : own_Ar Z h a ty N g := by obtain ⟨c, A, r1, r2, r3⟩ := F; exact ⟨c, A, r1, r2, fun j hj => by rw [r3 j hj, q j hj]⟩
theorem own_Ar.store {h' : Heap} {a : Addr} {c : Cell} {ty : FieldType} {N j : Nat} {f : Nat → Value} {v : Value} (A : Arr Z h a c ty) (r1 : c.slots.size = N) (r2 : N < 2 ^ 31) (r3 : ∀ j, j < N → c.slots[j]? = some (f j)) (W : Wr h h' a j v) : own_Ar Z h' a ty N (own_set f j v) := by
  refine ⟨_, A.same W, by rw [sz_set]; exact r1, r2, fun i hi => ?_⟩
  by_cases e : i = j
  · subst e; rw [own_set_same]; simp [Cell.setSlot, r1, hi]
  · rw [own_set_ne _ _ e, ← r3 i hi]; exact Array.getElem?_setIfInBounds_ne (fun q => e q.symm)
theorem own_Ar.new {a : Addr} {ty : FieldType} {kc : ClassId} {z : Int32} (A : Arr Z h a (newA kc ty z) ty) (q : ¬ z < 0) : own_Ar Z h a ty z.toNatClampNeg (fun _ => defaultValue ty) :=
  ⟨_, A, sz_new _ _ _, (back32 q).2, fun j hj => by simp [newA, hj]⟩
theorem own_inb {N : Nat} {j : Int32} {i : Nat} (hj : j.toInt = i) (hi : i < N) : ¬ (j < 0 ∨ N ≤ j.toNatClampNeg) ∧ j.toNatClampNeg = i := by
  have q : j.toNatClampNeg = i := by simp only [Int32.toNatClampNeg, hj]; omega
  refine ⟨?_, q⟩
  rw [q]; simp only [Int32.lt_iff_toInt_lt, hj, Int32.reduceToInt]; omega
def own_Ov (Z : State) (h : Heap) (a : Addr) (C : String) : Prop := ∃ cell : Cell, h[a]? = some cell ∧ Ovr Z cell.cls C
theorem own_Ov.ext {h' : Heap} {a : Addr} {C : String} (F : own_Ov Z h a C) (E : Ext h h') : own_Ov Z h' a C := by obtain ⟨c, h1, h2⟩ := F; exact ⟨c, E.2 _ _ h1, h2⟩
theorem own_Ov.wr {h' : Heap} {a b : Addr} {sl : Nat} {v : Value} {C : String} (F : own_Ov Z h a C) (W : Wr h h' b sl v) : own_Ov Z h' a C := by obtain ⟨c, h1, h2⟩ := F; obtain ⟨c', e1, e2, -⟩ := wr_at W h1; exact ⟨c', e1, by rw [e2]; exact h2⟩
theorem own_Ov.keep {h' : Heap} {a : Addr} {ws : List Addr} {C : String} (F : own_Ov Z h a C) (K : Keep h h' ws) : own_Ov Z h' a C := by obtain ⟨c, h1, h2⟩ := F; obtain ⟨c', e1, e2, -⟩ := K.2.2 _ _ h1; exact ⟨c', e1, by rw [e2]; exact h2⟩
theorem own_sto {a y : Addr} {ty : FieldType} {N : Nat} {f : Nat → Value} {C : String} (F : own_Ar Z h a ty N f) (V : own_Ov Z h a C) (I : Ins Z h y C true) : Sto Z h a (.ref y) := by
  obtain ⟨c, A, -⟩ := F; obtain ⟨c', h1, h2⟩ := V; cases A.1.symm.trans h1; exact Sto.of A h2 I
theorem own_alen (X : Stand p l e R s m args below meth c T locs cells slots) (hx : p.tables.exec = Jvm.exec) (hby : c.code = code) (hZ : Z.Warmed39 s.vm) (eT : T.heap = h) {a : Addr} {ty : FieldType} {N : Nat} {f : Nat → Value} (F : own_Ar Z h a ty N f) (hd : decode code pc = .ok (.arraylength, 1)) (h2 : own_G p e below s Q k n (T.setTop (mkF m (pc + 1) Ls (.int N.toInt32 :: st)))) : own_G p e below s Q k n (T.setTop (mkF m pc Ls (.ref a :: st))) := by
  obtain ⟨cl, A, r1, r2, r3⟩ := F
  refine own_st (fun _ => X.arraylength hx (by rw [eT]; exact A.1) (State.isArrayOf_alike hZ.alike A.2.1) (g := mkF m pc Ls (.ref a :: st)) rfl rfl (hb hby hd) _) ?_
  rw [r1]; exact h2
theorem own_iaload (X : Stand p l e R s m args below meth c T locs cells slots) (hx : p.tables.exec = Jvm.exec) (hby : c.code = code) (hZ : Z.Warmed39 s.vm) (eT : T.heap = h) {a : Addr} {N : Nat} {f : Nat → Value} (F : own_Ar Z h a .int N f) {j : Int32} {i : Nat} (hj : j.toInt = i) (hi : i < N) (hd : decode code pc = .ok (.iaload, 1)) (h2 : own_G p e below s Q k n (T.setTop (mkF m (pc + 1) Ls (f i :: st)))) : own_G p e below s Q k n (T.setTop (mkF m pc Ls (.int j :: .ref a :: st))) := by
  obtain ⟨cl, A, r1, r2, r3⟩ := F
  obtain ⟨q1, q2⟩ := own_inb hj hi
  exact own_st (fun _ => X.iaload hx (v := f i) (by rw [eT]; exact A.1) (State.isArrayOf_alike hZ.alike A.2.1) A.2.2 (j := j) (by rw [r1]; exact q1) (by rw [q2]; exact r3 i hi) (g := mkF m pc Ls (.int j :: .ref a :: st)) rfl rfl (hb hby hd) _) h2
theorem own_laload (X : Stand p l e R s m args below meth c T locs cells slots) (hx : p.tables.exec = Jvm.exec) (hby : c.code = code) (hZ : Z.Warmed39 s.vm) (eT : T.heap = h) {a : Addr} {N : Nat} {f : Nat → Value} (F : own_Ar Z h a .long N f) {j : Int32} {i : Nat} (hj : j.toInt = i) (hi : i < N) (hd : decode code pc = .ok (.laload, 1)) (h2 : own_G p e below s Q k n (T.setTop (mkF m (pc + 1) Ls (f i :: st)))) : own_G p e below s Q k n (T.setTop (mkF m pc Ls (.int j :: .ref a :: st))) := by
  obtain ⟨cl, A, r1, r2, r3⟩ := F
  obtain ⟨q1, q2⟩ := own_inb hj hi
  exact own_st (fun _ => X.laload hx (v := f i) (by rw [eT]; exact A.1) (State.isArrayOf_alike hZ.alike A.2.1) A.2.2 (j := j) (by rw [r1]; exact q1) (by rw [q2]; exact r3 i hi) (g := mkF m pc Ls (.int j :: .ref a :: st)) rfl rfl (hb hby hd) _) h2
theorem own_baload (X : Stand p l e R s m args below meth c T locs cells slots) (hx : p.tables.exec = Jvm.exec) (hby : c.code = code) (hZ : Z.Warmed39 s.vm) (eT : T.heap = h) {a : Addr} {N : Nat} {f : Nat → Value} (F : own_Ar Z h a .byte N f) {j : Int32} {i : Nat} (hj : j.toInt = i) (hi : i < N) (hd : decode code pc = .ok (.baload, 1)) (h2 : own_G p e below s Q k n (T.setTop (mkF m (pc + 1) Ls (f i :: st)))) : own_G p e below s Q k n (T.setTop (mkF m pc Ls (.int j :: .ref a :: st))) := by
  obtain ⟨cl, A, r1, r2, r3⟩ := F
  obtain ⟨q1, q2⟩ := own_inb hj hi
  exact own_st (fun _ => X.baloadBytes hx (v := f i) (by rw [eT]; exact A.1) (State.isArrayOf_alike hZ.alike A.2.1) A.2.2 (j := j) (by rw [r1]; exact q1) (by rw [q2]; exact r3 i hi) (g := mkF m pc Ls (.int j :: .ref a :: st)) rfl rfl (hb hby hd) _) h2
theorem own_caload (X : Stand p l e R s m args below meth c T locs cells slots) (hx : p.tables.exec = Jvm.exec) (hby : c.code = code) (hZ : Z.Warmed39 s.vm) (eT : T.heap = h) {a : Addr} {N : Nat} {f : Nat → Value} (F : own_Ar Z h a .char N f) {j : Int32} {i : Nat} (hj : j.toInt = i) (hi : i < N) (hd : decode code pc = .ok (.caload, 1)) (h2 : own_G p e below s Q k n (T.setTop (mkF m (pc + 1) Ls (f i :: st)))) : own_G p e below s Q k n (T.setTop (mkF m pc Ls (.int j :: .ref a :: st))) := by
  obtain ⟨cl, A, r1, r2, r3⟩ := F
  obtain ⟨q1, q2⟩ := own_inb hj hi
  exact own_st (fun _ => X.caload hx (v := f i) (by rw [eT]; exact A.1) (State.isArrayOf_alike hZ.alike A.2.1) A.2.2 (j := j) (by rw [r1]; exact q1) (by rw [q2]; exact r3 i hi) (g := mkF m pc Ls (.int j :: .ref a :: st)) rfl rfl (hb hby hd) _) h2
theorem own_aaload (X : Stand p l e R s m args below meth c T locs cells slots) (hx : p.tables.exec = Jvm.exec) (hby : c.code = code) (hZ : Z.Warmed39 s.vm) (eT : T.heap = h) {a : Addr} {ty : FieldType} {N : Nat} {f : Nat → Value} (F : own_Ar Z h a ty N f) (hty : ty.isReference = true) {j : Int32} {i : Nat} (hj : j.toInt = i) (hi : i < N) (hd : decode code pc = .ok (.aaload, 1)) (h2 : own_G p e below s Q k n (T.setTop (mkF m (pc + 1) Ls (f i :: st)))) : own_G p e below s Q k n (T.setTop (mkF m pc Ls (.int j :: .ref a :: st))) := by
  obtain ⟨cl, A, r1, r2, r3⟩ := F
  obtain ⟨q1, q2⟩ := own_inb hj hi
  exact own_st (fun _ => X.aaload hx (v := f i) (by rw [eT]; exact A.1) (State.isArrayOf_alike hZ.alike A.2.1) hty A.2.2 (j := j) (by rw [r1]; exact q1) (by rw [q2]; exact r3 i hi) (g := mkF m pc Ls (.int j :: .ref a :: st)) rfl rfl (hb hby hd) _) h2
theorem own_iastore (X : Stand p l e R s m args below meth c T locs cells slots) (hx : p.tables.exec = Jvm.exec) (hby : c.code = code) (hZ : Z.Warmed39 s.vm) (eT : T.heap = h) {a : Addr} {N : Nat} {f : Nat → Value} (F : own_Ar Z h a .int N f) {j : Int32} {i : Nat} (hj : j.toInt = i) (hi : i < N) {x : Int32} (hd : decode code pc = .ok (.iastore, 1)) : ∃ T' h', Stand p l e R s m args below meth c T' (locs ++ [⟨a, i⟩]) cells slots ∧ T'.heap = h' ∧ Wr h h' a i (.int x) ∧ own_Ar Z h' a .int N (own_set f i (.int x)) ∧ ∀ target, Steps p.tables e below (T'.setTop (mkF m (pc + 1) Ls st)) target → Steps p.tables e below (T.setTop (mkF m pc Ls (.int x :: .int j :: .ref a :: st))) target := by
  obtain ⟨cl, A, r1, r2, r3⟩ := F
  obtain ⟨q1, q2⟩ := own_inb hj hi
  obtain ⟨T', h', X', e', W, stp⟩ := stI X hx hZ eT A (j := j) (by rw [r1]; exact q1) (g := mkF m pc Ls (.int x :: .int j :: .ref a :: st)) rfl rfl (hb hby hd)
  rw [q2] at X' W
  exact ⟨T', h', X', e', W, own_Ar.store A r1 r2 r3 W, stp⟩
theorem own_lastore (X : Stand p l e R s m args below meth c T locs cells slots) (hx : p.tables.exec = Jvm.exec) (hby : c.code = code) (hZ : Z.Warmed39 s.vm) (eT : T.heap = h) {a : Addr} {N : Nat} {f : Nat → Value} (F : own_Ar Z h a .long N f) {j : Int32} {i : Nat} (hj : j.toInt = i) (hi : i < N) {x : Int64} (hd : decode code pc = .ok (.lastore, 1)) : ∃ T' h', Stand p l e R s m args below meth c T' (locs ++ [⟨a, i⟩]) cells slots ∧ T'.heap = h' ∧ Wr h h' a i (.long x) ∧ own_Ar Z h' a .long N (own_set f i (.long x)) ∧ ∀ target, Steps p.tables e below (T'.setTop (mkF m (pc + 1) Ls st)) target → Steps p.tables e below (T.setTop (mkF m pc Ls (.long x :: .int j :: .ref a :: st))) target := by
  obtain ⟨cl, A, r1, r2, r3⟩ := F
  obtain ⟨q1, q2⟩ := own_inb hj hi
  obtain ⟨T', h', X', e', W, stp⟩ := stJ X hx hZ eT A (j := j) (by rw [r1]; exact q1) (g := mkF m pc Ls (.long x :: .int j :: .ref a :: st)) rfl rfl (hb hby hd)
  rw [q2] at X' W
  exact ⟨T', h', X', e', W, own_Ar.store A r1 r2 r3 W, stp⟩
theorem own_bastore (X : Stand p l e R s m args below meth c T locs cells slots) (hx : p.tables.exec = Jvm.exec) (hby : c.code = code) (hZ : Z.Warmed39 s.vm) (eT : T.heap = h) {a : Addr} {N : Nat} {f : Nat → Value} (F : own_Ar Z h a .byte N f) {j : Int32} {i : Nat} (hj : j.toInt = i) (hi : i < N) {x : Int32} (hd : decode code pc = .ok (.bastore, 1)) : ∃ T' h', Stand p l e R s m args below meth c T' (locs ++ [⟨a, i⟩]) cells slots ∧ T'.heap = h' ∧ Wr h h' a i (.int (nar .byte x)) ∧ own_Ar Z h' a .byte N (own_set f i (.int (nar .byte x))) ∧ ∀ target, Steps p.tables e below (T'.setTop (mkF m (pc + 1) Ls st)) target → Steps p.tables e below (T.setTop (mkF m pc Ls (.int x :: .int j :: .ref a :: st))) target := by
  obtain ⟨cl, A, r1, r2, r3⟩ := F
  obtain ⟨q1, q2⟩ := own_inb hj hi
  obtain ⟨T', h', X', e', W, stp⟩ := stB X hx hZ eT A (j := j) (by rw [r1]; exact q1) (g := mkF m pc Ls (.int x :: .int j :: .ref a :: st)) rfl rfl (hb hby hd)
  rw [q2] at X' W
  exact ⟨T', h', X', e', W, own_Ar.store A r1 r2 r3 W, stp⟩
theorem own_castore (X : Stand p l e R s m args below meth c T locs cells slots) (hx : p.tables.exec = Jvm.exec) (hby : c.code = code) (hZ : Z.Warmed39 s.vm) (eT : T.heap = h) {a : Addr} {N : Nat} {f : Nat → Value} (F : own_Ar Z h a .char N f) {j : Int32} {i : Nat} (hj : j.toInt = i) (hi : i < N) {x : Int32} (hd : decode code pc = .ok (.castore, 1)) : ∃ T' h', Stand p l e R s m args below meth c T' (locs ++ [⟨a, i⟩]) cells slots ∧ T'.heap = h' ∧ Wr h h' a i (.int (nar .char x)) ∧ own_Ar Z h' a .char N (own_set f i (.int (nar .char x))) ∧ ∀ target, Steps p.tables e below (T'.setTop (mkF m (pc + 1) Ls st)) target → Steps p.tables e below (T.setTop (mkF m pc Ls (.int x :: .int j :: .ref a :: st))) target := by
  obtain ⟨cl, A, r1, r2, r3⟩ := F
  obtain ⟨q1, q2⟩ := own_inb hj hi
  obtain ⟨T', h', X', e', W, stp⟩ := stC X hx hZ eT A (j := j) (by rw [r1]; exact q1) (g := mkF m pc Ls (.int x :: .int j :: .ref a :: st)) rfl rfl (hb hby hd)
  rw [q2] at X' W
  exact ⟨T', h', X', e', W, own_Ar.store A r1 r2 r3 W, stp⟩
theorem own_dastore (X : Stand p l e R s m args below meth c T locs cells slots) (hx : p.tables.exec = Jvm.exec) (hby : c.code = code) (hZ : Z.Warmed39 s.vm) (eT : T.heap = h) {a : Addr} {N : Nat} {f : Nat → Value} (F : own_Ar Z h a .double N f) {j : Int32} {i : Nat} (hj : j.toInt = i) (hi : i < N) {x : UInt64} (hd : decode code pc = .ok (.dastore, 1)) : ∃ T' h', Stand p l e R s m args below meth c T' (locs ++ [⟨a, i⟩]) cells slots ∧ T'.heap = h' ∧ Wr h h' a i (.double x) ∧ own_Ar Z h' a .double N (own_set f i (.double x)) ∧ ∀ target, Steps p.tables e below (T'.setTop (mkF m (pc + 1) Ls st)) target → Steps p.tables e below (T.setTop (mkF m pc Ls (.double x :: .int j :: .ref a :: st))) target := by
  obtain ⟨cl, A, r1, r2, r3⟩ := F
  obtain ⟨q1, q2⟩ := own_inb hj hi
  obtain ⟨T', h', X', e', W, stp⟩ := stD X hx hZ eT A (j := j) (by rw [r1]; exact q1) (g := mkF m pc Ls (.double x :: .int j :: .ref a :: st)) rfl rfl (hb hby hd)
  rw [q2] at X' W
  exact ⟨T', h', X', e', W, own_Ar.store A r1 r2 r3 W, stp⟩
theorem own_aastore (X : Stand p l e R s m args below meth c T locs cells slots) (hx : p.tables.exec = Jvm.exec) (hby : c.code = code) (hZ : Z.Warmed39 s.vm) (eT : T.heap = h) {a : Addr} {ty : FieldType} {N : Nat} {f : Nat → Value} (F : own_Ar Z h a ty N f) (hty : ty.isReference = true) {j : Int32} {i : Nat} (hj : j.toInt = i) (hi : i < N) {v : Value} (S : Sto Z h a v) (hd : decode code pc = .ok (.aastore, 1)) : ∃ T' h', Stand p l e R s m args below meth c T' (locs ++ [⟨a, i⟩]) cells slots ∧ T'.heap = h' ∧ Wr h h' a i v ∧ own_Ar Z h' a ty N (own_set f i v) ∧ ∀ target, Steps p.tables e below (T'.setTop (mkF m (pc + 1) Ls st)) target → Steps p.tables e below (T.setTop (mkF m pc Ls (v :: .int j :: .ref a :: st))) target := by
  obtain ⟨cl, A, r1, r2, r3⟩ := F
  obtain ⟨q1, q2⟩ := own_inb hj hi
  obtain ⟨T', h', X', e', W, stp⟩ := stR X hx hZ eT A (j := j) (by rw [r1]; exact q1) hty S (g := mkF m pc Ls (v :: .int j :: .ref a :: st)) rfl rfl (hb hby hd)
  rw [q2] at X' W
  exact ⟨T', h', X', e', W, own_Ar.store A r1 r2 r3 W, stp⟩
end OwnSteps
theorem own_narR {C : String} {v : Value} (h : v.isRef = true) : narrow (.object C) v = v := by rcases ref_cases h with rfl | ⟨z, rfl⟩ <;> rfl
theorem own_catR {v : Value} (h : v.isRef = true) : v.category = 1 := by rcases ref_cases h with rfl | ⟨z, rfl⟩ <;> rfl
theorem own_fitR {C : String} {v : Value} (h : v.isRef = true) : fits (.object C) v = true := by rcases ref_cases h with rfl | ⟨z, rfl⟩ <;> rfl
theorem own_irr {x : Int32} : ¬ x < x := by rw [Int32.lt_iff_toInt_lt]; omega
theorem own_irrL {x : Int64} : ¬ x < x := by rw [Int64.lt_iff_toInt_lt]; omega
theorem own_w0 {Z : State} {a0 : Array Value} (hw : ∀ d ∈ tables_1, d.before a0 Z = true) : (Jvm.Cond.arrayClass Jvm.ClassFile.FieldType.int).before a0 Z = true := hw _ (List.mem_of_getElem? (i := 0) rfl)
theorem own_w1 {Z : State} {a0 : Array Value} (hw : ∀ d ∈ tables_1, d.before a0 Z = true) : (Jvm.Cond.classLink "com/example/tuck/tuck/ListMarksDifferencesPinLaw" (7 : Nat) "com/example/tuck/tuck/ListMarks").before a0 Z = true := hw _ (List.mem_of_getElem? (i := 1) rfl)
theorem own_w2 {Z : State} {a0 : Array Value} (hw : ∀ d ∈ tables_1, d.before a0 Z = true) : (Jvm.Cond.instantiable "com/example/tuck/tuck/ListMarks" (3 : Nat)).before a0 Z = true := hw _ (List.mem_of_getElem? (i := 2) rfl)
theorem own_w3 {Z : State} {a0 : Array Value} (hw : ∀ d ∈ tables_1, d.before a0 Z = true) : (Jvm.Cond.initialized "com/example/tuck/tuck/ListMarks").before a0 Z = true := hw _ (List.mem_of_getElem? (i := 3) rfl)
theorem own_w4 {Z : State} {a0 : Array Value} (hw : ∀ d ∈ tables_1, d.before a0 Z = true) : (Jvm.Cond.methodLink "com/example/tuck/tuck/ListMarksDifferencesPinLaw" (9 : Nat) ({ cls := "com/example/tuck/tuck/ListMarks", name := "<init>", desc := "(I)V" } : Jvm.MethodName)).before a0 Z = true := hw _ (List.mem_of_getElem? (i := 4) rfl)
theorem own_w5 {Z : State} {a0 : Array Value} (hw : ∀ d ∈ tables_1, d.before a0 Z = true) : (Jvm.Cond.instanceMethod ({ cls := "com/example/tuck/tuck/ListMarks", name := "<init>", desc := "(I)V" } : Jvm.MethodName)).before a0 Z = true := hw _ (List.mem_of_getElem? (i := 5) rfl)
theorem own_w6 {Z : State} {a0 : Array Value} (hw : ∀ d ∈ tables_1, d.before a0 Z = true) : (Jvm.Cond.code ({ cls := "com/example/tuck/tuck/ListMarks", name := "<init>", desc := "(I)V" } : Jvm.MethodName) prog_47_method_1_code (2 : Nat) (Option.none : Option Jvm.ClassFile.FieldType)).before a0 Z = true := hw _ (List.mem_of_getElem? (i := 6) rfl)
theorem own_w7 {Z : State} {a0 : Array Value} (hw : ∀ d ∈ tables_1, d.before a0 Z = true) : (Jvm.Cond.methodLink "com/example/tuck/tuck/ListMarks" (1 : Nat) ({ cls := "java/lang/Object", name := "<init>", desc := "()V" } : Jvm.MethodName)).before a0 Z = true := hw _ (List.mem_of_getElem? (i := 7) rfl)
theorem own_w8 {Z : State} {a0 : Array Value} (hw : ∀ d ∈ tables_1, d.before a0 Z = true) : (Jvm.Cond.instanceMethod ({ cls := "java/lang/Object", name := "<init>", desc := "()V" } : Jvm.MethodName)).before a0 Z = true := hw _ (List.mem_of_getElem? (i := 8) rfl)
theorem own_w9 {Z : State} {a0 : Array Value} (hw : ∀ d ∈ tables_1, d.before a0 Z = true) : (Jvm.Cond.code ({ cls := "java/lang/Object", name := "<init>", desc := "()V" } : Jvm.MethodName) object_method_1_code (1 : Nat) (Option.none : Option Jvm.ClassFile.FieldType)).before a0 Z = true := hw _ (List.mem_of_getElem? (i := 9) rfl)
theorem own_w10 {Z : State} {a0 : Array Value} (hw : ∀ d ∈ tables_1, d.before a0 Z = true) : (Jvm.Cond.fieldLink "com/example/tuck/tuck/ListMarks" (7 : Nat) "com/example/tuck/tuck/ListMarks" "marks" "[I").before a0 Z = true := hw _ (List.mem_of_getElem? (i := 10) rfl)
theorem own_w11 {Z : State} {a0 : Array Value} (hw : ∀ d ∈ tables_1, d.before a0 Z = true) : (Jvm.Cond.laysFinal "com/example/tuck/tuck/ListMarks" "com/example/tuck/tuck/ListMarks" "marks" "[I").before a0 Z = true := hw _ (List.mem_of_getElem? (i := 11) rfl)
theorem own_w12 {Z : State} {a0 : Array Value} (hw : ∀ d ∈ tables_1, d.before a0 Z = true) : (Jvm.Cond.methodLink "com/example/tuck/tuck/ListMarksDifferencesPinLaw" (12 : Nat) ({ cls := "com/example/tuck/tuck/ListMarks", name := "mark", desc := "([III)V" } : Jvm.MethodName)).before a0 Z = true := hw _ (List.mem_of_getElem? (i := 12) rfl)
theorem own_w13 {Z : State} {a0 : Array Value} (hw : ∀ d ∈ tables_1, d.before a0 Z = true) : (Jvm.Cond.declares ({ cls := "com/example/tuck/tuck/ListMarks", name := "mark", desc := "([III)V" } : Jvm.MethodName)).before a0 Z = true := hw _ (List.mem_of_getElem? (i := 13) rfl)
theorem own_w14 {Z : State} {a0 : Array Value} (hw : ∀ d ∈ tables_1, d.before a0 Z = true) : (Jvm.Cond.instanceMethod ({ cls := "com/example/tuck/tuck/ListMarks", name := "mark", desc := "([III)V" } : Jvm.MethodName)).before a0 Z = true := hw _ (List.mem_of_getElem? (i := 14) rfl)
theorem own_w15 {Z : State} {a0 : Array Value} (hw : ∀ d ∈ tables_1, d.before a0 Z = true) : (Jvm.Cond.selects "com/example/tuck/tuck/ListMarks" ({ cls := "com/example/tuck/tuck/ListMarks", name := "mark", desc := "([III)V" } : Jvm.MethodName) ({ cls := "com/example/tuck/tuck/ListMarks", name := "mark", desc := "([III)V" } : Jvm.MethodName)).before a0 Z = true := hw _ (List.mem_of_getElem? (i := 15) rfl)
theorem own_w16 {Z : State} {a0 : Array Value} (hw : ∀ d ∈ tables_1, d.before a0 Z = true) : (Jvm.Cond.code ({ cls := "com/example/tuck/tuck/ListMarks", name := "mark", desc := "([III)V" } : Jvm.MethodName) prog_47_method_2_code (5 : Nat) (Option.none : Option Jvm.ClassFile.FieldType)).before a0 Z = true := hw _ (List.mem_of_getElem? (i := 16) rfl)
theorem own_w17 {Z : State} {a0 : Array Value} (hw : ∀ d ∈ tables_1, d.before a0 Z = true) : (Jvm.Cond.fieldLink "com/example/tuck/tuck/ListMarks" (13 : Nat) "com/example/tuck/tuck/ListMarks" "mark" "I").before a0 Z = true := hw _ (List.mem_of_getElem? (i := 17) rfl)
theorem own_w18 {Z : State} {a0 : Array Value} (hw : ∀ d ∈ tables_1, d.before a0 Z = true) : (Jvm.Cond.lays "com/example/tuck/tuck/ListMarks" "com/example/tuck/tuck/ListMarks" "mark" "I").before a0 Z = true := hw _ (List.mem_of_getElem? (i := 18) rfl)
theorem own_w19 {Z : State} {a0 : Array Value} (hw : ∀ d ∈ tables_1, d.before a0 Z = true) : (Jvm.Cond.constant "com/example/tuck/tuck/ListMarks" (19 : Nat) (2147483647 : Int32)).before a0 Z = true := hw _ (List.mem_of_getElem? (i := 19) rfl)
theorem own_w20 {Z : State} {a0 : Array Value} (hw : ∀ d ∈ tables_1, d.before a0 Z = true) : (Jvm.Cond.fieldLink "com/example/tuck/tuck/ListMarks" (26 : Nat) "com/example/tuck/tuck/ListMarks" "length" "I").before a0 Z = true := hw _ (List.mem_of_getElem? (i := 20) rfl)
theorem own_w21 {Z : State} {a0 : Array Value} (hw : ∀ d ∈ tables_1, d.before a0 Z = true) : (Jvm.Cond.lays "com/example/tuck/tuck/ListMarks" "com/example/tuck/tuck/ListMarks" "length" "I").before a0 Z = true := hw _ (List.mem_of_getElem? (i := 21) rfl)
theorem own_w22 {Z : State} {a0 : Array Value} (hw : ∀ d ∈ tables_1, d.before a0 Z = true) : (Jvm.Cond.methodLink "com/example/tuck/tuck/ListMarksDifferencesPinLaw" (19 : Nat) ({ cls := "com/example/tuck/tuck/ListMarksDifferencesPinLaw", name := "bits", desc := "(I)I" } : Jvm.MethodName)).before a0 Z = true := hw _ (List.mem_of_getElem? (i := 22) rfl)
theorem own_w23 {Z : State} {a0 : Array Value} (hw : ∀ d ∈ tables_1, d.before a0 Z = true) : (Jvm.Cond.static ({ cls := "com/example/tuck/tuck/ListMarksDifferencesPinLaw", name := "bits", desc := "(I)I" } : Jvm.MethodName)).before a0 Z = true := hw _ (List.mem_of_getElem? (i := 23) rfl)
theorem own_w24 {Z : State} {a0 : Array Value} (hw : ∀ d ∈ tables_1, d.before a0 Z = true) : (Jvm.Cond.initialized "com/example/tuck/tuck/ListMarksDifferencesPinLaw").before a0 Z = true := hw _ (List.mem_of_getElem? (i := 24) rfl)
theorem own_w25 {Z : State} {a0 : Array Value} (hw : ∀ d ∈ tables_1, d.before a0 Z = true) : (Jvm.Cond.code ({ cls := "com/example/tuck/tuck/ListMarksDifferencesPinLaw", name := "bits", desc := "(I)I" } : Jvm.MethodName) method_2_code (1 : Nat) (Option.some Jvm.ClassFile.FieldType.int)).before a0 Z = true := hw _ (List.mem_of_getElem? (i := 25) rfl)
theorem own_w26 {Z : State} {a0 : Array Value} (hw : ∀ d ∈ tables_1, d.before a0 Z = true) : (Jvm.Cond.methodLink "com/example/tuck/tuck/ListMarksDifferencesPinLaw" (25 : Nat) ({ cls := "com/example/tuck/tuck/ListMarks", name := "differences", desc := "([IIII)I" } : Jvm.MethodName)).before a0 Z = true := hw _ (List.mem_of_getElem? (i := 26) rfl)
theorem own_w27 {Z : State} {a0 : Array Value} (hw : ∀ d ∈ tables_1, d.before a0 Z = true) : (Jvm.Cond.declares ({ cls := "com/example/tuck/tuck/ListMarks", name := "differences", desc := "([IIII)I" } : Jvm.MethodName)).before a0 Z = true := hw _ (List.mem_of_getElem? (i := 27) rfl)
theorem own_w28 {Z : State} {a0 : Array Value} (hw : ∀ d ∈ tables_1, d.before a0 Z = true) : (Jvm.Cond.instanceMethod ({ cls := "com/example/tuck/tuck/ListMarks", name := "differences", desc := "([IIII)I" } : Jvm.MethodName)).before a0 Z = true := hw _ (List.mem_of_getElem? (i := 28) rfl)
theorem own_w29 {Z : State} {a0 : Array Value} (hw : ∀ d ∈ tables_1, d.before a0 Z = true) : (Jvm.Cond.selects "com/example/tuck/tuck/ListMarks" ({ cls := "com/example/tuck/tuck/ListMarks", name := "differences", desc := "([IIII)I" } : Jvm.MethodName) ({ cls := "com/example/tuck/tuck/ListMarks", name := "differences", desc := "([IIII)I" } : Jvm.MethodName)).before a0 Z = true := hw _ (List.mem_of_getElem? (i := 29) rfl)
theorem own_w30 {Z : State} {a0 : Array Value} (hw : ∀ d ∈ tables_1, d.before a0 Z = true) : (Jvm.Cond.code ({ cls := "com/example/tuck/tuck/ListMarks", name := "differences", desc := "([IIII)I" } : Jvm.MethodName) prog_47_method_5_code (7 : Nat) (Option.some Jvm.ClassFile.FieldType.int)).before a0 Z = true := hw _ (List.mem_of_getElem? (i := 30) rfl)
theorem own_w31 {Z : State} {a0 : Array Value} (hw : ∀ d ∈ tables_1, d.before a0 Z = true) : (Jvm.Cond.methodLink "com/example/tuck/tuck/ListMarksDifferencesPinLaw" (16 : Nat) ({ cls := "com/example/tuck/tuck/ListMarks", name := "unmark", desc := "(I)V" } : Jvm.MethodName)).before a0 Z = true := hw _ (List.mem_of_getElem? (i := 31) rfl)
theorem own_w32 {Z : State} {a0 : Array Value} (hw : ∀ d ∈ tables_1, d.before a0 Z = true) : (Jvm.Cond.declares ({ cls := "com/example/tuck/tuck/ListMarks", name := "unmark", desc := "(I)V" } : Jvm.MethodName)).before a0 Z = true := hw _ (List.mem_of_getElem? (i := 32) rfl)
theorem own_w33 {Z : State} {a0 : Array Value} (hw : ∀ d ∈ tables_1, d.before a0 Z = true) : (Jvm.Cond.instanceMethod ({ cls := "com/example/tuck/tuck/ListMarks", name := "unmark", desc := "(I)V" } : Jvm.MethodName)).before a0 Z = true := hw _ (List.mem_of_getElem? (i := 33) rfl)
theorem own_w34 {Z : State} {a0 : Array Value} (hw : ∀ d ∈ tables_1, d.before a0 Z = true) : (Jvm.Cond.selects "com/example/tuck/tuck/ListMarks" ({ cls := "com/example/tuck/tuck/ListMarks", name := "unmark", desc := "(I)V" } : Jvm.MethodName) ({ cls := "com/example/tuck/tuck/ListMarks", name := "unmark", desc := "(I)V" } : Jvm.MethodName)).before a0 Z = true := hw _ (List.mem_of_getElem? (i := 34) rfl)
theorem own_w35 {Z : State} {a0 : Array Value} (hw : ∀ d ∈ tables_1, d.before a0 Z = true) : (Jvm.Cond.code ({ cls := "com/example/tuck/tuck/ListMarks", name := "unmark", desc := "(I)V" } : Jvm.MethodName) prog_47_method_3_code (2 : Nat) (Option.none : Option Jvm.ClassFile.FieldType)).before a0 Z = true := hw _ (List.mem_of_getElem? (i := 35) rfl)
theorem own_d1_0 : decode prog_47_method_1_code 0 = .ok (.aload_n 0, 1) := by decide +kernel
theorem own_d1_1 : decode prog_47_method_1_code 1 = .ok (.invokespecial 1, 3) := by decide +kernel
theorem own_d1_4 : decode prog_47_method_1_code 4 = .ok (.aload_n 0, 1) := by decide +kernel
theorem own_d1_5 : decode prog_47_method_1_code 5 = .ok (.iload_n 1, 1) := by decide +kernel
theorem own_d1_6 : decode prog_47_method_1_code 6 = .ok (.newarray .int, 2) := by decide +kernel
theorem own_d1_8 : decode prog_47_method_1_code 8 = .ok (.putfield 7, 3) := by decide +kernel
theorem own_d1_11 : decode prog_47_method_1_code 11 = .ok (.return_, 1) := by decide +kernel
theorem own_d3_0 : decode prog_47_method_2_code 0 = .ok (.aload_n 0, 1) := by decide +kernel
theorem own_d3_1 : decode prog_47_method_2_code 1 = .ok (.getfield 13, 3) := by decide +kernel
theorem own_d3_4 : decode prog_47_method_2_code 4 = .ok (.ldc 19, 2) := by decide +kernel
theorem own_d3_6 : decode prog_47_method_2_code 6 = .ok (.if_icmp .ne 16, 3) := by decide +kernel
theorem own_d3_22 : decode prog_47_method_2_code 22 = .ok (.aload_n 0, 1) := by decide +kernel
theorem own_d3_23 : decode prog_47_method_2_code 23 = .ok (.dup, 1) := by decide +kernel
theorem own_d3_24 : decode prog_47_method_2_code 24 = .ok (.getfield 13, 3) := by decide +kernel
theorem own_d3_27 : decode prog_47_method_2_code 27 = .ok (.iconst 1, 1) := by decide +kernel
theorem own_d3_28 : decode prog_47_method_2_code 28 = .ok (.iadd, 1) := by decide +kernel
theorem own_d3_29 : decode prog_47_method_2_code 29 = .ok (.putfield 13, 3) := by decide +kernel
theorem own_d3_32 : decode prog_47_method_2_code 32 = .ok (.iload_n 2, 1) := by decide +kernel
theorem own_d3_33 : decode prog_47_method_2_code 33 = .ok (.istore 4, 2) := by decide +kernel
theorem own_d3_35 : decode prog_47_method_2_code 35 = .ok (.iload 4, 2) := by decide +kernel
theorem own_d3_37 : decode prog_47_method_2_code 37 = .ok (.iload_n 3, 1) := by decide +kernel
theorem own_d3_38 : decode prog_47_method_2_code 38 = .ok (.if_icmp .ge 22, 3) := by decide +kernel
theorem own_d3_41 : decode prog_47_method_2_code 41 = .ok (.aload_n 0, 1) := by decide +kernel
theorem own_d3_42 : decode prog_47_method_2_code 42 = .ok (.getfield 7, 3) := by decide +kernel
theorem own_d3_45 : decode prog_47_method_2_code 45 = .ok (.aload_n 1, 1) := by decide +kernel
theorem own_d3_46 : decode prog_47_method_2_code 46 = .ok (.iload 4, 2) := by decide +kernel
theorem own_d3_48 : decode prog_47_method_2_code 48 = .ok (.iaload, 1) := by decide +kernel
theorem own_d3_49 : decode prog_47_method_2_code 49 = .ok (.aload_n 0, 1) := by decide +kernel
theorem own_d3_50 : decode prog_47_method_2_code 50 = .ok (.getfield 13, 3) := by decide +kernel
theorem own_d3_53 : decode prog_47_method_2_code 53 = .ok (.iastore, 1) := by decide +kernel
theorem own_d3_54 : decode prog_47_method_2_code 54 = .ok (.iinc 4 1, 3) := by decide +kernel
theorem own_d3_57 : decode prog_47_method_2_code 57 = .ok (.goto (-22), 3) := by decide +kernel
theorem own_d3_60 : decode prog_47_method_2_code 60 = .ok (.aload_n 0, 1) := by decide +kernel
theorem own_d3_61 : decode prog_47_method_2_code 61 = .ok (.iload_n 3, 1) := by decide +kernel
theorem own_d3_62 : decode prog_47_method_2_code 62 = .ok (.iload_n 2, 1) := by decide +kernel
theorem own_d3_63 : decode prog_47_method_2_code 63 = .ok (.isub, 1) := by decide +kernel
theorem own_d3_64 : decode prog_47_method_2_code 64 = .ok (.putfield 26, 3) := by decide +kernel
theorem own_d3_67 : decode prog_47_method_2_code 67 = .ok (.return_, 1) := by decide +kernel
theorem own_d4_0 : decode method_2_code 0 = .ok (.iload_n 0, 1) := by decide +kernel
theorem own_d4_1 : decode method_2_code 1 = .ok (.iconst 1, 1) := by decide +kernel
theorem own_d4_2 : decode method_2_code 2 = .ok (.iand, 1) := by decide +kernel
theorem own_d4_3 : decode method_2_code 3 = .ok (.iload_n 0, 1) := by decide +kernel
theorem own_d4_4 : decode method_2_code 4 = .ok (.iconst 1, 1) := by decide +kernel
theorem own_d4_5 : decode method_2_code 5 = .ok (.ishr, 1) := by decide +kernel
theorem own_d4_6 : decode method_2_code 6 = .ok (.iconst 1, 1) := by decide +kernel
theorem own_d4_7 : decode method_2_code 7 = .ok (.iand, 1) := by decide +kernel
theorem own_d4_8 : decode method_2_code 8 = .ok (.iadd, 1) := by decide +kernel
theorem own_d4_9 : decode method_2_code 9 = .ok (.iload_n 0, 1) := by decide +kernel
theorem own_d4_10 : decode method_2_code 10 = .ok (.iconst 2, 1) := by decide +kernel
theorem own_d4_11 : decode method_2_code 11 = .ok (.ishr, 1) := by decide +kernel
theorem own_d4_12 : decode method_2_code 12 = .ok (.iconst 1, 1) := by decide +kernel
theorem own_d4_13 : decode method_2_code 13 = .ok (.iand, 1) := by decide +kernel
theorem own_d4_14 : decode method_2_code 14 = .ok (.iadd, 1) := by decide +kernel
theorem own_d4_15 : decode method_2_code 15 = .ok (.iload_n 0, 1) := by decide +kernel
theorem own_d4_16 : decode method_2_code 16 = .ok (.iconst 3, 1) := by decide +kernel
theorem own_d4_17 : decode method_2_code 17 = .ok (.ishr, 1) := by decide +kernel
theorem own_d4_18 : decode method_2_code 18 = .ok (.iconst 1, 1) := by decide +kernel
theorem own_d4_19 : decode method_2_code 19 = .ok (.iand, 1) := by decide +kernel
theorem own_d4_20 : decode method_2_code 20 = .ok (.iadd, 1) := by decide +kernel
theorem own_d4_21 : decode method_2_code 21 = .ok (.ireturn, 1) := by decide +kernel
theorem own_d5_0 : decode prog_47_method_5_code 0 = .ok (.aload_n 0, 1) := by decide +kernel
theorem own_d5_1 : decode prog_47_method_5_code 1 = .ok (.getfield 26, 3) := by decide +kernel
theorem own_d5_4 : decode prog_47_method_5_code 4 = .ok (.iload_n 3, 1) := by decide +kernel
theorem own_d5_5 : decode prog_47_method_5_code 5 = .ok (.iload_n 2, 1) := by decide +kernel
theorem own_d5_6 : decode prog_47_method_5_code 6 = .ok (.isub, 1) := by decide +kernel
theorem own_d5_7 : decode prog_47_method_5_code 7 = .ok (.isub, 1) := by decide +kernel
theorem own_d5_8 : decode prog_47_method_5_code 8 = .ok (.istore 5, 2) := by decide +kernel
theorem own_d5_10 : decode prog_47_method_5_code 10 = .ok (.iload_n 2, 1) := by decide +kernel
theorem own_d5_11 : decode prog_47_method_5_code 11 = .ok (.istore 6, 2) := by decide +kernel
theorem own_d5_13 : decode prog_47_method_5_code 13 = .ok (.iload 6, 2) := by decide +kernel
theorem own_d5_15 : decode prog_47_method_5_code 15 = .ok (.iload_n 3, 1) := by decide +kernel
theorem own_d5_16 : decode prog_47_method_5_code 16 = .ok (.if_icmp .ge 38, 3) := by decide +kernel
theorem own_d5_19 : decode prog_47_method_5_code 19 = .ok (.aload_n 0, 1) := by decide +kernel
theorem own_d5_20 : decode prog_47_method_5_code 20 = .ok (.getfield 7, 3) := by decide +kernel
theorem own_d5_23 : decode prog_47_method_5_code 23 = .ok (.aload_n 1, 1) := by decide +kernel
theorem own_d5_24 : decode prog_47_method_5_code 24 = .ok (.iload 6, 2) := by decide +kernel
theorem own_d5_26 : decode prog_47_method_5_code 26 = .ok (.iaload, 1) := by decide +kernel
theorem own_d5_27 : decode prog_47_method_5_code 27 = .ok (.iaload, 1) := by decide +kernel
theorem own_d5_28 : decode prog_47_method_5_code 28 = .ok (.aload_n 0, 1) := by decide +kernel
theorem own_d5_29 : decode prog_47_method_5_code 29 = .ok (.getfield 13, 3) := by decide +kernel
theorem own_d5_32 : decode prog_47_method_5_code 32 = .ok (.if_icmp .eq 16, 3) := by decide +kernel
theorem own_d5_35 : decode prog_47_method_5_code 35 = .ok (.iinc 5 2, 3) := by decide +kernel
theorem own_d5_38 : decode prog_47_method_5_code 38 = .ok (.iload 5, 2) := by decide +kernel
theorem own_d5_40 : decode prog_47_method_5_code 40 = .ok (.iload 4, 2) := by decide +kernel
theorem own_d5_42 : decode prog_47_method_5_code 42 = .ok (.if_icmp .lt 6, 3) := by decide +kernel
theorem own_d5_45 : decode prog_47_method_5_code 45 = .ok (.iload 5, 2) := by decide +kernel
theorem own_d5_47 : decode prog_47_method_5_code 47 = .ok (.ireturn, 1) := by decide +kernel
theorem own_d5_48 : decode prog_47_method_5_code 48 = .ok (.iinc 6 1, 3) := by decide +kernel
theorem own_d5_51 : decode prog_47_method_5_code 51 = .ok (.goto (-38), 3) := by decide +kernel
theorem own_d5_54 : decode prog_47_method_5_code 54 = .ok (.iload 5, 2) := by decide +kernel
theorem own_d5_56 : decode prog_47_method_5_code 56 = .ok (.ireturn, 1) := by decide +kernel
theorem own_d6_0 : decode prog_47_method_3_code 0 = .ok (.aload_n 0, 1) := by decide +kernel
theorem own_d6_1 : decode prog_47_method_3_code 1 = .ok (.getfield 7, 3) := by decide +kernel
theorem own_d6_4 : decode prog_47_method_3_code 4 = .ok (.iload_n 1, 1) := by decide +kernel
theorem own_d6_5 : decode prog_47_method_3_code 5 = .ok (.iconst 0, 1) := by decide +kernel
theorem own_d6_6 : decode prog_47_method_3_code 6 = .ok (.iastore, 1) := by decide +kernel
theorem own_d6_7 : decode prog_47_method_3_code 7 = .ok (.aload_n 0, 1) := by decide +kernel
theorem own_d6_8 : decode prog_47_method_3_code 8 = .ok (.dup, 1) := by decide +kernel
theorem own_d6_9 : decode prog_47_method_3_code 9 = .ok (.getfield 26, 3) := by decide +kernel
theorem own_d6_12 : decode prog_47_method_3_code 12 = .ok (.iconst 1, 1) := by decide +kernel
theorem own_d6_13 : decode prog_47_method_3_code 13 = .ok (.isub, 1) := by decide +kernel
theorem own_d6_14 : decode prog_47_method_3_code 14 = .ok (.putfield 26, 3) := by decide +kernel
theorem own_d6_17 : decode prog_47_method_3_code 17 = .ok (.return_, 1) := by decide +kernel
theorem own_pd0 : parseMethodDescriptor "(I)V" = some ⟨[.int], none⟩ := by decide +kernel
theorem own_pd1 : parseMethodDescriptor "(I)I" = some ⟨[.int], some .int⟩ := by decide +kernel
theorem own_pd2 : parseMethodDescriptor "([IIII)I" = some ⟨[(.array .int), .int, .int, .int], some .int⟩ := by decide +kernel
theorem own_pd3 : parseMethodDescriptor "([III)V" = some ⟨[(.array .int), .int, .int], none⟩ := by decide +kernel
theorem own_pn0 : plainName "com/example/tuck/tuck/ListMarks" = true := by first | (simp [plainName, overriddenIn]; done) | decide +kernel
theorem own_pn1 : plainName "com/example/tuck/tuck/ListMarksDifferencesPinLaw" = true := by first | (simp [plainName, overriddenIn]; done) | decide +kernel
def own_up (f : Nat → Int32) (p : Nat) (v : Int32) : Nat → Int32 := fun j => if j = p then v else f j
def own_s0 : List Int32 := []
def own_s1 (ra : Int32) (b0 : Bool) : List Int32 := own_s0 ++ (if b0 then [(0 : Int32) ^^^ ra] else [])
def own_s2 (ra : Int32) (b0 b1 : Bool) : List Int32 := own_s1 ra b0 ++ (if b1 then [(1 : Int32) ^^^ ra] else [])
def own_s3 (ra : Int32) (b0 b1 b2 : Bool) : List Int32 := own_s2 ra b0 b1 ++ (if b2 then [(2 : Int32) ^^^ ra] else [])
def own_s4 (ra : Int32) (b0 b1 b2 b3 : Bool) : List Int32 := own_s3 ra b0 b1 b2 ++ (if b3 then [(3 : Int32) ^^^ ra] else [])
theorem own_l0 : own_s0.length ≤ 0 := by decide
theorem own_l1 (ra : Int32) (b0 : Bool) : (own_s1 ra b0).length ≤ 1 := by cases b0 <;> simp [own_s1, own_s0]
theorem own_l2 (ra : Int32) (b0 b1 : Bool) : (own_s2 ra b0 b1).length ≤ 2 := by have := own_l1 ra b0; cases b1 <;> simp [own_s2] <;> omega
theorem own_l3 (ra : Int32) (b0 b1 b2 : Bool) : (own_s3 ra b0 b1 b2).length ≤ 3 := by have := own_l2 ra b0 b1; cases b2 <;> simp [own_s3] <;> omega
theorem own_l4 (ra : Int32) (b0 b1 b2 b3 : Bool) : (own_s4 ra b0 b1 b2 b3).length ≤ 4 := by have := own_l3 ra b0 b1 b2; cases b3 <;> simp [own_s4] <;> omega
def own_mask (L : List Int32) : Int32 := L.foldl (fun m v => m ||| ((1 : Int32) <<< (v &&& 31))) 0
theorem own_mask_push (L : List Int32) (v : Int32) : own_mask (L ++ [v]) = own_mask L ||| ((1 : Int32) <<< (v &&& 31)) := by simp [own_mask, List.foldl_append]
def own_ag (f : Nat → Int32) (off : Nat) (L : List Int32) : Prop := ∀ (j : Nat) (h : j < L.length), f (off + j) = L[j]
theorem own_ag_nil (f : Nat → Int32) (off : Nat) : own_ag f off own_s0 := fun j h => absurd h (Nat.not_lt_zero _)
theorem own_ag_push {f : Nat → Int32} {off : Nat} {L : List Int32} (h : own_ag f off L) (v : Int32) : own_ag (own_up f (off + L.length) v) off (L ++ [v]) := fun j hj => by
  by_cases e : j = L.length
  · subst e; simp [own_up]
  · have hj' : j < L.length := by simp at hj; omega
    rw [List.getElem_append_left hj', ← h j hj']; exact if_neg (by omega)
theorem own_ag_up {f : Nat → Int32} {off p : Nat} {L : List Int32} (h : own_ag f off L) (v : Int32) (q : off + L.length ≤ p) : own_ag (own_up f p v) off L := fun j hj => by
  rw [← h j hj]; exact if_neg (by omega)
theorem own_kpush {k : Int32} {off : Nat} {L : List Int32} (h : k.toInt = ((off + L.length : Nat) : Int)) (v : Int32) (q : off + L.length < 100) : (k + (1 : Int32)).toInt = ((off + (L ++ [v]).length : Nat) : Int) := by
  have a := c_iadd k (1 : Int32); have r := rng32 (k + (1 : Int32))
  simp only [Int32.reduceToInt] at a
  simp only [List.length_append, List.length_cons, List.length_nil]; omega
def own_upd (M G : Nat → Int32) (F : Nat) (c : Int32) : Nat → (Nat → Int32)
  | 0 => M
  | n + 1 => own_up (own_upd M G F c n) (G (F + n)).toInt.toNat c
def own_has (v : Nat) (L : List Int32) : Bool := L.any (fun x => decide (x.toInt.toNat = v))
theorem own_upd_has {M f : Nat → Int32} {off : Nat} {L : List Int32} {c : Int32} (h : own_ag f off L) (v : Nat) : own_upd M f off c L.length v = if own_has v L = true then c else M v := by
  have key : ∀ n, (hn : n ≤ L.length) → own_upd M f off c n v = if own_has v (L.take n) = true then c else M v := by
    intro n
    induction n with
    | zero => intro _; simp [own_upd, own_has]
    | succ n ih =>
      intro hn
      have hlt : n < L.length := by omega
      have e1 : L.take (n + 1) = L.take n ++ [L[n]] := by rw [List.take_append_getElem hlt]
      rw [e1]
      show own_up (own_upd M f off c n) (f (off + n)).toInt.toNat c v = _
      rw [h n hlt]
      by_cases e : v = (L[n]).toInt.toNat
      · rw [show own_up (own_upd M f off c n) (L[n]).toInt.toNat c v = c from if_pos e]
        have : own_has v (L.take n ++ [L[n]]) = true := by
          simp only [own_has, List.any_append, List.any_cons, List.any_nil, Bool.or_false]
          rw [decide_eq_true e.symm, Bool.or_true]
        rw [if_pos this]
      · rw [show own_up (own_upd M f off c n) (L[n]).toInt.toNat c v = own_upd M f off c n v from if_neg e, ih (by omega)]
        have e2 : own_has v (L.take n ++ [L[n]]) = own_has v (L.take n) := by
          simp only [own_has, List.any_append, List.any_cons, List.any_nil, Bool.or_false]
          have : decide ((L[n]).toInt.toNat = v) = false := decide_eq_false (fun q => e q.symm)
          rw [this, Bool.or_false]
        rw [e2]
  have := key L.length (Nat.le_refl _)
  rw [List.take_length] at this; exact this
def own_bits (x : Int32) : Int32 := (x &&& (1 : Int32)) + ((x >>> ((1 : Int32) &&& 31)) &&& (1 : Int32)) + ((x >>> ((2 : Int32) &&& 31)) &&& (1 : Int32)) + ((x >>> ((3 : Int32) &&& 31)) &&& (1 : Int32))
def own_run : List Bool → Int32 → Int32 → Int32
  | [], least, _ => least
  | true :: xs, least, bd => own_run xs least bd
  | false :: xs, least, bd => if least + (2 : Int32) < bd then own_run xs (least + (2 : Int32)) bd else least + (2 : Int32)
def own_bl (M G : Nat → Int32) (u : Int32) (F : Nat) : Nat → List Bool
  | 0 => []
  | n + 1 => decide (M (G F).toInt.toNat = u) :: own_bl M G u (F + 1) n
theorem own_bl_map {M f : Nat → Int32} {u : Int32} : ∀ {off : Nat} {L : List Int32}, own_ag f off L → own_bl M f u off L.length = L.map (fun x => decide (M x.toInt.toNat = u))
  | _, [], _ => rfl
  | off, x :: L, h => by
    have h0 : f off = x := h 0 (by simp)
    have h1 : own_ag f (off + 1) L := fun j hj => by have := h (j + 1) (by simpa using hj); rw [show off + 1 + j = off + (j + 1) by omega]; simpa using this
    show decide (M (f off).toInt.toNat = u) :: own_bl M f u (off + 1) L.length = _
    rw [own_bl_map h1, h0]; rfl
def own_cf : List Bool → Nat
  | [] => 0
  | true :: xs => own_cf xs
  | false :: xs => own_cf xs + 1
theorem own_run_law : ∀ (xs : List Bool) (a bd : Int32), -100 ≤ a.toInt → a.toInt + 2 * (own_cf xs : Int) ≤ 100 → ((a.toInt + 2 * (own_cf xs : Int) < bd.toInt → (own_run xs a bd).toInt = a.toInt + 2 * (own_cf xs : Int)) ∧ (bd.toInt ≤ a.toInt + 2 * (own_cf xs : Int) → bd.toInt ≤ (own_run xs a bd).toInt ∧ (own_run xs a bd).toInt ≤ a.toInt + 2 * (own_cf xs : Int)))
  | [], a, bd, _, _ => by simp only [own_run, own_cf]; omega
  | true :: xs, a, bd, h1, h2 => own_run_law xs a bd h1 h2
  | false :: xs, a, bd, h1, h2 => by
    have q := c_iadd a (2 : Int32); have r := rng32 (a + (2 : Int32)); have r2 := rng32 bd
    simp only [Int32.reduceToInt] at q
    have h2' : a.toInt + 2 * ((own_cf xs : Int) + 1) ≤ 100 := by simpa [own_cf] using h2
    have c0 : (0 : Int) ≤ own_cf xs := Int.ofNat_nonneg _
    have e : (a + (2 : Int32)).toInt = a.toInt + 2 := by omega
    have ih := own_run_law xs (a + (2 : Int32)) bd (by omega) (by omega)
    simp only [own_run, own_cf, Int.natCast_add, Int.natCast_one]
    by_cases g : a + (2 : Int32) < bd
    · rw [if_pos g]; rw [e] at ih; omega
    · rw [if_neg g]; rw [Int32.lt_iff_toInt_lt] at g; omega
def own_pm (p0 p1 p2 p3 : Bool) : Int32 := (if p0 then 1 else 0) + (if p1 then 2 else 0) + (if p2 then 4 else 0) + (if p3 then 8 else 0)
def own_ct (p0 p1 p2 p3 : Bool) : Int32 := (if p0 then 1 else 0) + (if p1 then 1 else 0) + (if p2 then 1 else 0) + (if p3 then 1 else 0)
def own_at (p0 p1 p2 p3 : Bool) (v : Nat) : Bool := if v = 0 then p0 else if v = 1 then p1 else if v = 2 then p2 else p3
def own_four : List Int32 := [0, 1, 2, 3]
def own_two : List Bool := [true, false]
theorem own_Lfacts : ∀ ra ∈ own_four, ∀ b0 ∈ own_two, ∀ b1 ∈ own_two, ∀ b2 ∈ own_two, ∀ b3 ∈ own_two, own_mask (own_s4 ra b0 b1 b2 b3) = own_pm (own_has 0 (own_s4 ra b0 b1 b2 b3)) (own_has 1 (own_s4 ra b0 b1 b2 b3)) (own_has 2 (own_s4 ra b0 b1 b2 b3)) (own_has 3 (own_s4 ra b0 b1 b2 b3)) ∧ (own_s4 ra b0 b1 b2 b3).length.toInt32 = own_ct (own_has 0 (own_s4 ra b0 b1 b2 b3)) (own_has 1 (own_s4 ra b0 b1 b2 b3)) (own_has 2 (own_s4 ra b0 b1 b2 b3)) (own_has 3 (own_s4 ra b0 b1 b2 b3)) ∧ (∀ x ∈ own_s4 ra b0 b1 b2 b3, 0 ≤ x.toInt ∧ x.toInt < 4) := by decide +kernel
theorem own_Lhead : ∀ ra ∈ own_four, ∀ b0 ∈ own_two, ∀ b1 ∈ own_two, ∀ b2 ∈ own_two, ∀ b3 ∈ own_two, ∀ x ∈ (own_s4 ra b0 b1 b2 b3).head?, (own_mask (own_s4 ra b0 b1 b2 b3) &&& (((1 : Int32) <<< (x &&& 31)) ^^^ (-1 : Int32))) = own_pm (own_has 0 (own_s4 ra b0 b1 b2 b3) && !decide (x.toInt.toNat = 0)) (own_has 1 (own_s4 ra b0 b1 b2 b3) && !decide (x.toInt.toNat = 1)) (own_has 2 (own_s4 ra b0 b1 b2 b3) && !decide (x.toInt.toNat = 2)) (own_has 3 (own_s4 ra b0 b1 b2 b3) && !decide (x.toInt.toNat = 3)) ∧ (own_s4 ra b0 b1 b2 b3).length.toInt32 - (1 : Int32) = own_ct (own_has 0 (own_s4 ra b0 b1 b2 b3) && !decide (x.toInt.toNat = 0)) (own_has 1 (own_s4 ra b0 b1 b2 b3) && !decide (x.toInt.toNat = 1)) (own_has 2 (own_s4 ra b0 b1 b2 b3) && !decide (x.toInt.toNat = 2)) (own_has 3 (own_s4 ra b0 b1 b2 b3) && !decide (x.toInt.toNat = 3)) := by decide +kernel
theorem own_final : ∀ ra ∈ own_four, ∀ b0 ∈ own_two, ∀ b1 ∈ own_two, ∀ b2 ∈ own_two, ∀ b3 ∈ own_two, ∀ p0 ∈ own_two, ∀ p1 ∈ own_two, ∀ p2 ∈ own_two, ∀ p3 ∈ own_two, (own_bits (own_pm p0 p1 p2 p3 ^^^ own_mask (own_s4 ra b0 b1 b2 b3))).toInt = (own_ct p0 p1 p2 p3 - (own_s4 ra b0 b1 b2 b3).length.toInt32).toInt + 2 * (own_cf ((own_s4 ra b0 b1 b2 b3).map (fun x => own_at p0 p1 p2 p3 x.toInt.toNat)) : Int) ∧ -100 ≤ (own_ct p0 p1 p2 p3 - (own_s4 ra b0 b1 b2 b3).length.toInt32).toInt ∧ (own_bits (own_pm p0 p1 p2 p3 ^^^ own_mask (own_s4 ra b0 b1 b2 b3))).toInt ≤ 100 := by decide +kernel
theorem own_two_all (b : Bool) : b ∈ own_two := by cases b <;> decide
theorem own_and3 (x : Int32) : (x &&& (3 : Int32)) ∈ own_four := by
  have h := c_and x (3 : Int32) (by decide)
  have : (x &&& (3 : Int32)) = 0 ∨ (x &&& (3 : Int32)) = 1 ∨ (x &&& (3 : Int32)) = 2 ∨ (x &&& (3 : Int32)) = 3 := by simp only [← Int32.toInt_inj, Int32.reduceToInt] at h ⊢; omega
  simpa [own_four] using this
/-- what the marks say of the list marked: the vertices 0 to 3 that are in it -/
def own_H (M : Nat → Int32) (u ln S : Int32) : Prop := ∃ p0 p1 p2 p3 : Bool, S = own_pm p0 p1 p2 p3 ∧ ln = own_ct p0 p1 p2 p3 ∧ ∀ v, v < 4 → decide (M v = u) = own_at p0 p1 p2 p3 v
theorem own_at_has (L : List Int32) (v : Nat) (h : v < 4) : own_at (own_has 0 L) (own_has 1 L) (own_has 2 L) (own_has 3 L) v = own_has v L := by
  have : v = 0 ∨ v = 1 ∨ v = 2 ∨ v = 3 := by omega
  rcases this with rfl | rfl | rfl | rfl <;> rfl
theorem own_H_mark {M f : Nat → Int32} {u ra : Int32} {b0 b1 b2 b3 : Bool} (hra : ra ∈ own_four) (hM : ∀ v, v < 4 → M v ≠ u) (hf : own_ag f 0 (own_s4 ra b0 b1 b2 b3)) : own_H (own_upd M f 0 u (own_s4 ra b0 b1 b2 b3).length) u (own_s4 ra b0 b1 b2 b3).length.toInt32 (own_mask (own_s4 ra b0 b1 b2 b3)) := by
  obtain ⟨h1, h2, -⟩ := own_Lfacts ra hra b0 (own_two_all _) b1 (own_two_all _) b2 (own_two_all _) b3 (own_two_all _)
  refine ⟨_, _, _, _, h1, h2, fun v hv => ?_⟩
  rw [own_at_has _ v hv, own_upd_has hf]
  by_cases q : own_has v (own_s4 ra b0 b1 b2 b3) = true
  · rw [if_pos q, q]; simp
  · rw [if_neg q]; have := hM v hv; simp [this, q]
theorem own_H_drop {M f : Nat → Int32} {u ra : Int32} {b0 b1 b2 b3 : Bool} (hra : ra ∈ own_four) (hM : ∀ v, v < 4 → M v ≠ u) (hu : ¬ (0 : Int32) = u) (hf : own_ag f 0 (own_s4 ra b0 b1 b2 b3)) (hne : 0 < (own_s4 ra b0 b1 b2 b3).length) :
    own_H (own_up (own_upd M f 0 u (own_s4 ra b0 b1 b2 b3).length) (f 0).toInt.toNat 0) u ((own_s4 ra b0 b1 b2 b3).length.toInt32 - (1 : Int32)) (own_mask (own_s4 ra b0 b1 b2 b3) &&& (((1 : Int32) <<< ((f 0) &&& 31)) ^^^ (-1 : Int32))) := by
  have e0 : (own_s4 ra b0 b1 b2 b3).head? = some (f 0) := by
    have := hf 0 hne
    rw [Nat.zero_add] at this; rw [this, List.head?_eq_getElem?, List.getElem?_eq_getElem hne]
  obtain ⟨h1, h2⟩ := own_Lhead ra hra b0 (own_two_all _) b1 (own_two_all _) b2 (own_two_all _) b3 (own_two_all _) (f 0) (by rw [e0]; rfl)
  refine ⟨_, _, _, _, h1, h2, fun v hv => ?_⟩
  have e1 : own_at (own_has 0 (own_s4 ra b0 b1 b2 b3) && !decide ((f 0).toInt.toNat = 0)) (own_has 1 (own_s4 ra b0 b1 b2 b3) && !decide ((f 0).toInt.toNat = 1)) (own_has 2 (own_s4 ra b0 b1 b2 b3) && !decide ((f 0).toInt.toNat = 2)) (own_has 3 (own_s4 ra b0 b1 b2 b3) && !decide ((f 0).toInt.toNat = 3)) v = (own_has v (own_s4 ra b0 b1 b2 b3) && !decide ((f 0).toInt.toNat = v)) := by
    have : v = 0 ∨ v = 1 ∨ v = 2 ∨ v = 3 := by omega
    rcases this with rfl | rfl | rfl | rfl <;> rfl
  rw [e1]
  unfold own_up
  by_cases q : v = (f 0).toInt.toNat
  · rw [if_pos q]; subst q; simp [hu]
  · rw [if_neg q, own_upd_has hf]
    have q' : ¬ (f 0).toInt.toNat = v := fun z => q z.symm
    by_cases g : own_has v (own_s4 ra b0 b1 b2 b3) = true
    · rw [if_pos g, g, decide_eq_false q']; simp
    · rw [if_neg g]; have := hM v hv; simp [this, g]
theorem own_law {M f : Nat → Int32} {u ln S rb : Int32} {c0 c1 c2 c3 : Bool} (hrb : rb ∈ own_four) (H : own_H M u ln S) (hf : own_ag f 4 (own_s4 rb c0 c1 c2 c3)) (bd : Int32) :
    let d := own_bits (S ^^^ own_mask (own_s4 rb c0 c1 c2 c3)); let r := own_run (own_bl M f u 4 (own_s4 rb c0 c1 c2 c3).length) (ln - (own_s4 rb c0 c1 c2 c3).length.toInt32) bd
    (d < bd → r = d) ∧ (¬ d < bd → ¬ r < bd ∧ ¬ d < r) := by
  obtain ⟨p0, p1, p2, p3, rfl, rfl, hM⟩ := H
  obtain ⟨h1, h2, h3⟩ := own_final rb hrb c0 (own_two_all _) c1 (own_two_all _) c2 (own_two_all _) c3 (own_two_all _) p0 (own_two_all _) p1 (own_two_all _) p2 (own_two_all _) p3 (own_two_all _)
  obtain ⟨-, -, hr⟩ := own_Lfacts rb hrb c0 (own_two_all _) c1 (own_two_all _) c2 (own_two_all _) c3 (own_two_all _)
  have e : own_bl M f u 4 (own_s4 rb c0 c1 c2 c3).length = (own_s4 rb c0 c1 c2 c3).map (fun x => own_at p0 p1 p2 p3 x.toInt.toNat) := by
    rw [own_bl_map hf]; refine List.map_congr_left fun x hx => hM _ ?_
    have := hr x hx; omega
  have q := own_run_law ((own_s4 rb c0 c1 c2 c3).map (fun x => own_at p0 p1 p2 p3 x.toInt.toNat)) (own_ct p0 p1 p2 p3 - (own_s4 rb c0 c1 c2 c3).length.toInt32) bd h2 (by rw [← h1]; exact h3)
  simp only [e, Int32.lt_iff_toInt_lt, ← Int32.toInt_inj]
  rw [← h1] at q; omega
theorem own_inc {k : Int32} {F i : Nat} (h : k.toInt = ((F + i : Nat) : Int)) (q : F + i < 100) : (k + (1 : Int32)).toInt = ((F + (i + 1) : Nat) : Int) := by
  have a := c_iadd k (1 : Int32); have r := rng32 (k + (1 : Int32))
  simp only [Int32.reduceToInt] at a; omega
theorem own_rng {f : Nat → Int32} {off : Nat} {ra : Int32} {b0 b1 b2 b3 : Bool} (hra : ra ∈ own_four) (hk : True) (hf : own_ag f off (own_s4 ra b0 b1 b2 b3)) {j : Nat} (h1 : off ≤ j) (h2 : j < off + (own_s4 ra b0 b1 b2 b3).length) : 0 ≤ (f j).toInt ∧ (f j).toInt < 4 := by
  have e := hf (j - off) (by omega)
  rw [show off + (j - off) = j by omega] at e
  rw [e]
  exact (own_Lfacts ra hra b0 (own_two_all _) b1 (own_two_all _) b2 (own_two_all _) b3 (own_two_all _)).2.2 _ (List.getElem_mem _)

def own_rmI_Q (Z : State) (a : Addr)  (h0 : Heap) (n0 : Nat) : Option Value → Heap → List Loc → Prop := fun v h L => v = none ∧ Fr n0 L ∧ Keep h0 h [a] ∧ Exa Z h a "com/example/tuck/tuck/ListMarks" ∧ ∃ k, n0 ≤ k ∧ h0.size ≤ k ∧ Fld Z h a "com/example/tuck/tuck/ListMarks" "marks" "[I" (.ref k) ∧ Fld Z h a "com/example/tuck/tuck/ListMarks" "mark" "I" (.int (0 : Int32)) ∧ Fld Z h a "com/example/tuck/tuck/ListMarks" "length" "I" (.int (0 : Int32)) ∧ own_Ar Z h k .int 4 (fun _ => .int (0 : Int32))
theorem own_rmI_ef (m : MethodId) (a : Addr)  : entryFrame m #[(Value.ref a), (Value.int (4 : Int32))] 2 = mkF m 0 #[.val (Value.ref a), .val (Value.int (4 : Int32))] [] := by first | (simp [entryFrame, mkF, argsToLocals, Value.category]; done) | rfl
set_option maxRecDepth 65536 in
set_option maxHeartbeats 40000000 in
theorem own_rmI (l : Launch) (Z : State) (a0 : Array Value) (hw : ∀ d ∈ tables_1, d.before a0 Z = true) (ws : List Jvm.Cond) (a : Addr)  (h0 : Heap) (n0 : Nat) (O0 : Old Z n0 h0) (E_a : Exa Z h0 a "com/example/tuck/tuck/ListMarks") (F_a_marks : Fld Z h0 a "com/example/tuck/tuck/ListMarks" "marks" "[I" Value.null) (F_a_mark : Fld Z h0 a "com/example/tuck/tuck/ListMarks" "mark" "I" (Value.int (0 : Int32))) (F_a_length : Fld Z h0 a "com/example/tuck/tuck/ListMarks" "length" "I" (Value.int (0 : Int32))) (g_a : n0 ≤ a) :
    MetFree l (⟨"com/example/tuck/tuck/ListMarks", "<init>", "(I)V"⟩ : MethodName) (head1 (Jvm.Cond.code (⟨"com/example/tuck/tuck/ListMarks", "<init>", "(I)V"⟩ : MethodName) prog_47_method_1_code 2 none :: ws) ({ frames := 1, cells := 1, slots := 4, locals := 12 } : Room)) (fun aa_ U => aa_ = #[(Value.ref a), (Value.int (4 : Int32))] ∧ Z.Warmed39 U.vm ∧ U.heap = h0) (fun _ _ _ _ _ => True) (fun _ UU_ oo_ UX_ => ∃ vv_ LL_, oo_ = .returned vv_ ∧ (own_rmI_Q Z a h0 n0) vv_ UX_.heap LL_ ∧ FrameEnd UU_ oo_ UX_ LL_ ({ frames := 1, cells := 1, slots := 4, locals := 12 } : Room).cells ({ frames := 1, cells := 1, slots := 4, locals := 12 } : Room).slots) := by
  refine MetFree.of_bodySF (plainFor_of_name own_pn0) hisR ?_
  intro p e s m args below meth c s₁ Bd hml0 hP hK
  obtain ⟨rfl, hZ, hh⟩ := hP
  have hx := Bd.exec
  have hby := Bd.bytes
  have hml : c.maxLocals = 2 := hml0
  have hown : s.vm.findClass "com/example/tuck/tuck/ListMarks" = some m.cls := findClass_of_methodNamed Bd.named
  have hnm := (name_of_methodNamed Bd.named Bd.method).1
  have hlk : meth.locks = false := BodyLoose.notSynchronized Bd
  have X0 : Stand p l e ({ frames := 1, cells := 1, slots := 4, locals := 12 } : Room) s m #[(Value.ref a), (Value.int (4 : Int32))] below meth c s₁ [] 0 0 := Stand.of_body Bd
  have e0 : s₁.heap = h0 := by rw [← hh, Bd.state]; rfl
  have N0 := Fr.nil n0
  show own_G p e below s (own_rmI_Q Z a h0 n0) ({ frames := 1, cells := 1, slots := 4, locals := 12 } : Room).cells ({ frames := 1, cells := 1, slots := 4, locals := 12 } : Room).slots (s₁.setTop (entryFrame m #[(Value.ref a), (Value.int (4 : Int32))] 2))
  refine own_cast (own_rmI_ef m a ) ?_
  show own_G p e below s _ _ _ (s₁.setTop (mkF m 0 #[.val (Value.ref a), .val (Value.int (4 : Int32))] []))
  refine own_aloadN X0 hx hby own_d1_0 rfl rfl ?_
  show own_G p e below s _ _ _ (s₁.setTop (mkF m 1 #[.val (Value.ref a), .val (Value.int (4 : Int32))] [(Value.ref a)]))
  obtain ⟨T1, X1, e1, st1⟩ := initO X0 hx hZ hown (own_w7 hw) (own_w8 hw) (own_w9 hw) e0 (g := (mkF m 1 #[.val (Value.ref a), .val (Value.int (4 : Int32))] [(Value.ref a)])) rfl (by rw [hml]; rfl) rfl (hb hby own_d1_1) (by decide) (W := 0) (by show 2 * 0 + _ ≤ _; exact Nat.le_of_eq rfl) (by decide)
  refine own_st st1 ?_
  show own_G p e below s _ _ _ (T1.setTop (mkF m 4 #[.val (Value.ref a), .val (Value.int (4 : Int32))] []))
  refine own_aloadN X1 hx hby own_d1_4 rfl rfl ?_
  show own_G p e below s _ _ _ (T1.setTop (mkF m 5 #[.val (Value.ref a), .val (Value.int (4 : Int32))] [(Value.ref a)]))
  refine own_iloadN X1 hx hby own_d1_5 rfl ?_
  show own_G p e below s _ _ _ (T1.setTop (mkF m 6 #[.val (Value.ref a), .val (Value.int (4 : Int32))] [(Value.int (4 : Int32)), (Value.ref a)]))
  obtain ⟨T2, h2, k2, X2, e2, E2, A2, st2⟩ := newP X1 hx hZ (aty := .int) (own_w0 hw) e1 (g := (mkF m 6 #[.val (Value.ref a), .val (Value.int (4 : Int32))] [(Value.int (4 : Int32)), (Value.ref a)])) rfl (hb hby own_d1_6) rfl (by decide) (cap := 4) (by decide) (by decide) (by decide) (by decide)
  obtain ⟨ad2, g2⟩ : ∃ z, z = h0.size := ⟨_, rfl⟩
  rw [← g2] at A2 st2
  have ne2_a : a ≠ ad2 := by rw [g2]; exact Nat.ne_of_lt F_a_marks.lt
  have F3_a_marks := Fld.ext E2 F_a_marks
  have F3_a_mark := Fld.ext E2 F_a_mark
  have F3_a_length := Fld.ext E2 F_a_length
  have E3_a := Exa.ext E2 E_a
  have O3 := Old.ext O0 E2
  have g2n : n0 ≤ ad2 := by rw [g2]; exact O0.1 ▸ O0.2.1
  have z2n : h0.size ≤ ad2 := by rw [g2]; exact ((Keep.refl h0 [a])).1
  have A2v : own_Ar Z h2 ad2 .int 4 (fun _ => (.int (0 : Int32))) := own_Ar.new A2 (by decide)
  have K2 := Keep.ext (Keep.refl h0 [a]) E2
  refine own_st st2 ?_
  show own_G p e below s _ _ _ (T2.setTop (mkF m 8 #[.val (Value.ref a), .val (Value.int (4 : Int32))] [(Value.ref ad2), (Value.ref a)]))
  obtain ⟨T4, h4, X4, e4, W4, st4⟩ := putF X2 hx hZ hown (host := "") (Or.inl (own_w10 hw)) Via.refl e2 F3_a_marks E3_a (Or.inr ⟨(own_w11 hw), rfl, hnm⟩) (own_w2 hw) (ty := (.array .int)) (by decide) rfl rfl (g := (mkF m 8 #[.val (Value.ref a), .val (Value.int (4 : Int32))] [(Value.ref ad2), (Value.ref a)])) rfl rfl (hb hby own_d1_8)
  have F5_a_mark := Fld.other W4 F3_a_mark (Or.inr (slot_ne (C := "com/example/tuck/tuck/ListMarks") (Or.inl (own_w18 hw)) (Or.inr (own_w11 hw)) (by decide) (t := .int) (t' := (.array .int)) (by decide) (by decide)))
  have F5_a_length := Fld.other W4 F3_a_length (Or.inr (slot_ne (C := "com/example/tuck/tuck/ListMarks") (Or.inl (own_w21 hw)) (Or.inr (own_w11 hw)) (by decide) (t := .int) (t' := (.array .int)) (by decide) (by decide)))
  have E5_a := Exa.wr W4 E3_a
  have A5_ad2 := own_Ar.other A2v W4 (Ne.symm ne2_a)
  have O5 := Old.wr O3 W4 g_a
  have F4w := Fld.same W4 F3_a_marks
  have K4 := Keep.wr K2 W4 (Or.inl (List.mem_of_getElem? (i := 0) rfl))
  have N4 := Fr.snoc X4 N0 g_a
  refine own_st st4 ?_
  show own_G p e below s _ _ _ (T4.setTop (mkF m 11 #[.val (Value.ref a), .val (Value.int (4 : Int32))] []))
  refine own_ret0 X4 hx hby hlk Bd.returns own_d1_11 (by decide) (by decide) ?_
  show own_rmI_Q Z a h0 n0 _ T4.heap _
  rw [e4]
  exact ⟨rfl, N4, K4, E5_a, ad2, g2n, z2n, F4w, F5_a_mark, F5_a_length, A5_ad2⟩
def own_rmK_Q (Z : State) (a : Addr) (b : Addr) (x2 : Int32) (x3 : Int32) (k : Addr) (u0 u1 : Int32) (M G : Nat → Int32) (F N : Nat) (h0 : Heap) (n0 : Nat) : Option Value → Heap → List Loc → Prop := fun v h L => v = none ∧ Fr n0 L ∧ Keep h0 h [a, k] ∧ Fld Z h a "com/example/tuck/tuck/ListMarks" "marks" "[I" (Value.ref k) ∧ Fld Z h a "com/example/tuck/tuck/ListMarks" "mark" "I" (Value.int (u0 + (1 : Int32))) ∧ Fld Z h a "com/example/tuck/tuck/ListMarks" "length" "I" (Value.int (x3 - x2)) ∧ own_Ar Z h k .int 4 (fun j => .int ((own_upd M G F (u0 + (1 : Int32)) N) j))
theorem own_rmK_ef (m : MethodId) (a : Addr) (b : Addr) (x2 : Int32) (x3 : Int32)  : entryFrame m #[(Value.ref a), (Value.ref b), (Value.int x2), (Value.int x3)] 5 = mkF m 0 #[.val (Value.ref a), .val (Value.ref b), .val (Value.int x2), .val (Value.int x3), .unset] [] := by first | (simp [entryFrame, mkF, argsToLocals, Value.category]; done) | rfl
set_option maxRecDepth 65536 in
set_option maxHeartbeats 40000000 in
theorem own_rmK (l : Launch) (Z : State) (a0 : Array Value) (hw : ∀ d ∈ tables_1, d.before a0 Z = true) (ws : List Jvm.Cond) (a : Addr) (b : Addr) (x2 : Int32) (x3 : Int32) (k : Addr) (u0 u1 : Int32) (M G : Nat → Int32) (F N : Nat) (h0 : Heap) (n0 : Nat) (O0 : Old Z n0 h0) (E_a : Exa Z h0 a "com/example/tuck/tuck/ListMarks") (F_a_marks : Fld Z h0 a "com/example/tuck/tuck/ListMarks" "marks" "[I" (Value.ref k)) (F_a_mark : Fld Z h0 a "com/example/tuck/tuck/ListMarks" "mark" "I" (Value.int u0)) (F_a_length : Fld Z h0 a "com/example/tuck/tuck/ListMarks" "length" "I" (Value.int u1)) (g_a : n0 ≤ a) (A_k : own_Ar Z h0 k .int 4 (fun j => .int (M j))) (A_b : own_Ar Z h0 b .int 8 (fun j => .int (G j))) (g_k : n0 ≤ k) (nkb : b ≠ k) (nka : a ≠ k) (nba : a ≠ b) (hF : x2.toInt = (F : Int)) (hN : x3.toInt = ((F + N : Nat) : Int)) (hFN : F + N ≤ 8) (hG : ∀ j, F ≤ j → j < F + N → 0 ≤ (G j).toInt ∧ (G j).toInt < 4) (hmx : ¬ u0 = (2147483647 : Int32)) :
    MetFree l (⟨"com/example/tuck/tuck/ListMarks", "mark", "([III)V"⟩ : MethodName) (head1 (Jvm.Cond.code (⟨"com/example/tuck/tuck/ListMarks", "mark", "([III)V"⟩ : MethodName) prog_47_method_2_code 5 none :: ws) ({ frames := 0, cells := 0, slots := 0, locals := 0 } : Room)) (fun aa_ U => aa_ = #[(Value.ref a), (Value.ref b), (Value.int x2), (Value.int x3)] ∧ Z.Warmed39 U.vm ∧ U.heap = h0) (fun _ _ _ _ _ => True) (fun _ UU_ oo_ UX_ => ∃ vv_ LL_, oo_ = .returned vv_ ∧ (own_rmK_Q Z a b x2 x3 k u0 u1 M G F N h0 n0) vv_ UX_.heap LL_ ∧ FrameEnd UU_ oo_ UX_ LL_ ({ frames := 0, cells := 0, slots := 0, locals := 0 } : Room).cells ({ frames := 0, cells := 0, slots := 0, locals := 0 } : Room).slots) := by
  refine MetFree.of_bodySF (plainFor_of_name own_pn0) hisR ?_
  intro p e s m args below meth c s₁ Bd hml0 hP hK
  obtain ⟨rfl, hZ, hh⟩ := hP
  have hx := Bd.exec
  have hby := Bd.bytes
  have hml : c.maxLocals = 5 := hml0
  have hown : s.vm.findClass "com/example/tuck/tuck/ListMarks" = some m.cls := findClass_of_methodNamed Bd.named
  have hnm := (name_of_methodNamed Bd.named Bd.method).1
  have hlk : meth.locks = false := BodyLoose.notSynchronized Bd
  have X0 : Stand p l e ({ frames := 0, cells := 0, slots := 0, locals := 0 } : Room) s m #[(Value.ref a), (Value.ref b), (Value.int x2), (Value.int x3)] below meth c s₁ [] 0 0 := Stand.of_body Bd
  have e0 : s₁.heap = h0 := by rw [← hh, Bd.state]; rfl
  have N0 := Fr.nil n0
  show own_G p e below s (own_rmK_Q Z a b x2 x3 k u0 u1 M G F N h0 n0) ({ frames := 0, cells := 0, slots := 0, locals := 0 } : Room).cells ({ frames := 0, cells := 0, slots := 0, locals := 0 } : Room).slots (s₁.setTop (entryFrame m #[(Value.ref a), (Value.ref b), (Value.int x2), (Value.int x3)] 5))
  refine own_cast (own_rmK_ef m a b x2 x3 ) ?_
  show own_G p e below s _ _ _ (s₁.setTop (mkF m 0 #[.val (Value.ref a), .val (Value.ref b), .val (Value.int x2), .val (Value.int x3), .unset] []))
  refine own_aloadN X0 hx hby own_d3_0 rfl rfl ?_
  show own_G p e below s _ _ _ (s₁.setTop (mkF m 1 #[.val (Value.ref a), .val (Value.ref b), .val (Value.int x2), .val (Value.int x3), .unset] [(Value.ref a)]))
  obtain ⟨T1, X1, e1, st1⟩ := getF X0 hx hZ hown (host := "") (Or.inl (own_w17 hw)) Via.refl e0 F_a_mark (g := (mkF m 1 #[.val (Value.ref a), .val (Value.ref b), .val (Value.int x2), .val (Value.int x3), .unset] [(Value.ref a)])) rfl rfl (hb hby own_d3_1)
  refine own_st st1 ?_
  show own_G p e below s _ _ _ (T1.setTop (mkF m 4 #[.val (Value.ref a), .val (Value.ref b), .val (Value.int x2), .val (Value.int x3), .unset] [(Value.int u0)]))
  refine own_ldcI X1 hx hby hZ hown (own_w19 hw) own_d3_4 ?_
  show own_G p e below s _ _ _ (T1.setTop (mkF m 6 #[.val (Value.ref a), .val (Value.ref b), .val (Value.int x2), .val (Value.int x3), .unset] [(Value.int (2147483647 : Int32)), (Value.int u0)]))
  refine own_icmp_ne X1 hx hby own_d3_6 (pc' := 22) (by decide) (by decide) (fun hb2 => ?_) (fun hb2 => by exfalso; exact hmx hb2)
  show own_G p e below s _ _ _ (T1.setTop (mkF m 22 #[.val (Value.ref a), .val (Value.ref b), .val (Value.int x2), .val (Value.int x3), .unset] []))
  refine own_aloadN X1 hx hby own_d3_22 rfl rfl ?_
  show own_G p e below s _ _ _ (T1.setTop (mkF m 23 #[.val (Value.ref a), .val (Value.ref b), .val (Value.int x2), .val (Value.int x3), .unset] [(Value.ref a)]))
  refine own_dup X1 hx hby own_d3_23 rfl ?_
  show own_G p e below s _ _ _ (T1.setTop (mkF m 24 #[.val (Value.ref a), .val (Value.ref b), .val (Value.int x2), .val (Value.int x3), .unset] [(Value.ref a), (Value.ref a)]))
  obtain ⟨T3, X3, e3, st3⟩ := getF X1 hx hZ hown (host := "") (Or.inl (own_w17 hw)) Via.refl e1 F_a_mark (g := (mkF m 24 #[.val (Value.ref a), .val (Value.ref b), .val (Value.int x2), .val (Value.int x3), .unset] [(Value.ref a), (Value.ref a)])) rfl rfl (hb hby own_d3_24)
  refine own_st st3 ?_
  show own_G p e below s _ _ _ (T3.setTop (mkF m 27 #[.val (Value.ref a), .val (Value.ref b), .val (Value.int x2), .val (Value.int x3), .unset] [(Value.int u0), (Value.ref a)]))
  refine own_iconst X3 hx hby own_d3_27 ?_
  show own_G p e below s _ _ _ (T3.setTop (mkF m 28 #[.val (Value.ref a), .val (Value.ref b), .val (Value.int x2), .val (Value.int x3), .unset] [(Value.int (1 : Int32)), (Value.int u0), (Value.ref a)]))
  refine own_iadd X3 hx hby own_d3_28 ?_
  show own_G p e below s _ _ _ (T3.setTop (mkF m 29 #[.val (Value.ref a), .val (Value.ref b), .val (Value.int x2), .val (Value.int x3), .unset] [(Value.int (u0 + (1 : Int32))), (Value.ref a)]))
  obtain ⟨T4, h4, X4, e4, W4, st4⟩ := putF X3 hx hZ hown (host := "") (Or.inl (own_w17 hw)) Via.refl e3 F_a_mark E_a (Or.inl (own_w18 hw)) (own_w2 hw) (ty := .int) (by decide) rfl rfl (g := (mkF m 29 #[.val (Value.ref a), .val (Value.ref b), .val (Value.int x2), .val (Value.int x3), .unset] [(Value.int (u0 + (1 : Int32))), (Value.ref a)])) rfl rfl (hb hby own_d3_29)
  have F5_a_marks := Fld.other W4 F_a_marks (Or.inr (slot_ne (C := "com/example/tuck/tuck/ListMarks") (Or.inr (own_w11 hw)) (Or.inl (own_w18 hw)) (by decide) (t := (.array .int)) (t' := .int) (by decide) (by decide)))
  have F5_a_length := Fld.other W4 F_a_length (Or.inr (slot_ne (C := "com/example/tuck/tuck/ListMarks") (Or.inl (own_w21 hw)) (Or.inl (own_w18 hw)) (by decide) (t := .int) (t' := .int) (by decide) (by decide)))
  have E5_a := Exa.wr W4 E_a
  have A5_k := own_Ar.other A_k W4 (Ne.symm nka)
  have A5_b := own_Ar.other A_b W4 (Ne.symm nba)
  have O5 := Old.wr O0 W4 g_a
  have F4w := Fld.same W4 F_a_mark
  have K4 := Keep.wr (Keep.refl h0 [a, k]) W4 (Or.inl (List.mem_of_getElem? (i := 0) rfl))
  have N4 := Fr.snoc X4 N0 g_a
  refine own_st st4 ?_
  show own_G p e below s _ _ _ (T4.setTop (mkF m 32 #[.val (Value.ref a), .val (Value.ref b), .val (Value.int x2), .val (Value.int x3), .unset] []))
  refine own_iloadN X4 hx hby own_d3_32 rfl ?_
  show own_G p e below s _ _ _ (T4.setTop (mkF m 33 #[.val (Value.ref a), .val (Value.ref b), .val (Value.int x2), .val (Value.int x3), .unset] [(Value.int x2)]))
  refine own_istore X4 hx hby own_d3_33 (l' := #[.val (Value.ref a), .val (Value.ref b), .val (Value.int x2), .val (Value.int x3), .val (Value.int x2)]) rfl ?_
  show own_G p e below s _ _ _ (T4.setTop (mkF m 35 #[.val (Value.ref a), .val (Value.ref b), .val (Value.int x2), .val (Value.int x3), .val (Value.int x2)] []))
  have loop : ∀ (n : Nat) (T6 : State) (h6 : Heap) (lo6 : List Loc) (ii : Int32) (i : Nat) (X6 : Stand p l e ({ frames := 0, cells := 0, slots := 0, locals := 0 } : Room) s m #[(Value.ref a), (Value.ref b), (Value.int x2), (Value.int x3)] below meth c T6 lo6 0 0) (e6 : T6.heap = h6) (N6 : Fr n0 lo6) (O6 : Old Z n0 h6) (K6 : Keep h0 h6 [a, k]) (F6_a_marks : Fld Z h6 a "com/example/tuck/tuck/ListMarks" "marks" "[I" (Value.ref k)) (F6_a_mark : Fld Z h6 a "com/example/tuck/tuck/ListMarks" "mark" "I" (Value.int (u0 + (1 : Int32)))) (F6_a_length : Fld Z h6 a "com/example/tuck/tuck/ListMarks" "length" "I" (Value.int u1)) (E6_a : Exa Z h6 a "com/example/tuck/tuck/ListMarks") (A6_k : own_Ar Z h6 k .int 4 (fun j => .int ((own_upd M G F (u0 + (1 : Int32)) i) j))) (A6_b : own_Ar Z h6 b .int 8 (fun j => .int (G j))) (hi : ii.toInt = ((F + i : Nat) : Int)) (hn : i + n = N), own_G p e below s (own_rmK_Q Z a b x2 x3 k u0 u1 M G F N h0 n0) ({ frames := 0, cells := 0, slots := 0, locals := 0 } : Room).cells ({ frames := 0, cells := 0, slots := 0, locals := 0 } : Room).slots (T6.setTop (mkF m 35 #[.val (Value.ref a), .val (Value.ref b), .val (Value.int x2), .val (Value.int x3), .val (Value.int ii)] [])) := by
    intro n
    induction n with
    | zero =>
      intro T6 h6 lo6 ii i X6 e6 N6 O6 K6 F6_a_marks F6_a_mark F6_a_length E6_a A6_k A6_b hi hn
      show own_G p e below s _ _ _ (T6.setTop (mkF m 35 #[.val (Value.ref a), .val (Value.ref b), .val (Value.int x2), .val (Value.int x3), .val (Value.int ii)] []))
      refine own_iload X6 hx hby own_d3_35 rfl ?_
      show own_G p e below s _ _ _ (T6.setTop (mkF m 37 #[.val (Value.ref a), .val (Value.ref b), .val (Value.int x2), .val (Value.int x3), .val (Value.int ii)] [(Value.int ii)]))
      refine own_iloadN X6 hx hby own_d3_37 rfl ?_
      show own_G p e below s _ _ _ (T6.setTop (mkF m 38 #[.val (Value.ref a), .val (Value.ref b), .val (Value.int x2), .val (Value.int x3), .val (Value.int ii)] [(Value.int x3), (Value.int ii)]))
      refine own_icmp_ge X6 hx hby own_d3_38 (pc' := 60) (by decide) (by decide) (fun hb7 => ?_) (fun hb7 => by exfalso; rw [Int32.lt_iff_toInt_lt] at hb7; omega)
      show own_G p e below s _ _ _ (T6.setTop (mkF m 60 #[.val (Value.ref a), .val (Value.ref b), .val (Value.int x2), .val (Value.int x3), .val (Value.int ii)] []))
      refine own_aloadN X6 hx hby own_d3_60 rfl rfl ?_
      show own_G p e below s _ _ _ (T6.setTop (mkF m 61 #[.val (Value.ref a), .val (Value.ref b), .val (Value.int x2), .val (Value.int x3), .val (Value.int ii)] [(Value.ref a)]))
      refine own_iloadN X6 hx hby own_d3_61 rfl ?_
      show own_G p e below s _ _ _ (T6.setTop (mkF m 62 #[.val (Value.ref a), .val (Value.ref b), .val (Value.int x2), .val (Value.int x3), .val (Value.int ii)] [(Value.int x3), (Value.ref a)]))
      refine own_iloadN X6 hx hby own_d3_62 rfl ?_
      show own_G p e below s _ _ _ (T6.setTop (mkF m 63 #[.val (Value.ref a), .val (Value.ref b), .val (Value.int x2), .val (Value.int x3), .val (Value.int ii)] [(Value.int x2), (Value.int x3), (Value.ref a)]))
      refine own_isub X6 hx hby own_d3_63 ?_
      show own_G p e below s _ _ _ (T6.setTop (mkF m 64 #[.val (Value.ref a), .val (Value.ref b), .val (Value.int x2), .val (Value.int x3), .val (Value.int ii)] [(Value.int (x3 - x2)), (Value.ref a)]))
      obtain ⟨T8, h8, X8, e8, W8, st8⟩ := putF X6 hx hZ hown (host := "") (Or.inl (own_w20 hw)) Via.refl e6 F6_a_length E6_a (Or.inl (own_w21 hw)) (own_w2 hw) (ty := .int) (by decide) rfl rfl (g := (mkF m 64 #[.val (Value.ref a), .val (Value.ref b), .val (Value.int x2), .val (Value.int x3), .val (Value.int ii)] [(Value.int (x3 - x2)), (Value.ref a)])) rfl rfl (hb hby own_d3_64)
      have F9_a_marks := Fld.other W8 F6_a_marks (Or.inr (slot_ne (C := "com/example/tuck/tuck/ListMarks") (Or.inr (own_w11 hw)) (Or.inl (own_w21 hw)) (by decide) (t := (.array .int)) (t' := .int) (by decide) (by decide)))
      have F9_a_mark := Fld.other W8 F6_a_mark (Or.inr (slot_ne (C := "com/example/tuck/tuck/ListMarks") (Or.inl (own_w18 hw)) (Or.inl (own_w21 hw)) (by decide) (t := .int) (t' := .int) (by decide) (by decide)))
      have E9_a := Exa.wr W8 E6_a
      have A9_k := own_Ar.other A6_k W8 (Ne.symm nka)
      have A9_b := own_Ar.other A6_b W8 (Ne.symm nba)
      have O9 := Old.wr O6 W8 g_a
      have F8w := Fld.same W8 F6_a_length
      have K8 := Keep.wr K6 W8 (Or.inl (List.mem_of_getElem? (i := 0) rfl))
      have N8 := Fr.snoc X8 N6 g_a
      refine own_st st8 ?_
      show own_G p e below s _ _ _ (T8.setTop (mkF m 67 #[.val (Value.ref a), .val (Value.ref b), .val (Value.int x2), .val (Value.int x3), .val (Value.int ii)] []))
      refine own_ret0 X8 hx hby hlk Bd.returns own_d3_67 (by decide) (by decide) ?_
      show own_rmK_Q Z a b x2 x3 k u0 u1 M G F N h0 n0 _ T8.heap _
      rw [e8]
      have hiN : i = N := by omega
      subst hiN
      exact ⟨rfl, N8, K8, F9_a_marks, F9_a_mark, F8w, A9_k⟩
    | succ n ih =>
      intro T6 h6 lo6 ii i X6 e6 N6 O6 K6 F6_a_marks F6_a_mark F6_a_length E6_a A6_k A6_b hi hn
      show own_G p e below s _ _ _ (T6.setTop (mkF m 35 #[.val (Value.ref a), .val (Value.ref b), .val (Value.int x2), .val (Value.int x3), .val (Value.int ii)] []))
      refine own_iload X6 hx hby own_d3_35 rfl ?_
      show own_G p e below s _ _ _ (T6.setTop (mkF m 37 #[.val (Value.ref a), .val (Value.ref b), .val (Value.int x2), .val (Value.int x3), .val (Value.int ii)] [(Value.int ii)]))
      refine own_iloadN X6 hx hby own_d3_37 rfl ?_
      show own_G p e below s _ _ _ (T6.setTop (mkF m 38 #[.val (Value.ref a), .val (Value.ref b), .val (Value.int x2), .val (Value.int x3), .val (Value.int ii)] [(Value.int x3), (Value.int ii)]))
      refine own_icmp_ge X6 hx hby own_d3_38 (pc' := 60) (by decide) (by decide) (fun hb10 => by exfalso; apply hb10; rw [Int32.lt_iff_toInt_lt]; omega) (fun hb10 => ?_)
      show own_G p e below s _ _ _ (T6.setTop (mkF m 41 #[.val (Value.ref a), .val (Value.ref b), .val (Value.int x2), .val (Value.int x3), .val (Value.int ii)] []))
      refine own_aloadN X6 hx hby own_d3_41 rfl rfl ?_
      show own_G p e below s _ _ _ (T6.setTop (mkF m 42 #[.val (Value.ref a), .val (Value.ref b), .val (Value.int x2), .val (Value.int x3), .val (Value.int ii)] [(Value.ref a)]))
      obtain ⟨T11, X11, e11, st11⟩ := getF X6 hx hZ hown (host := "") (Or.inl (own_w10 hw)) Via.refl e6 F6_a_marks (g := (mkF m 42 #[.val (Value.ref a), .val (Value.ref b), .val (Value.int x2), .val (Value.int x3), .val (Value.int ii)] [(Value.ref a)])) rfl rfl (hb hby own_d3_42)
      refine own_st st11 ?_
      show own_G p e below s _ _ _ (T11.setTop (mkF m 45 #[.val (Value.ref a), .val (Value.ref b), .val (Value.int x2), .val (Value.int x3), .val (Value.int ii)] [(Value.ref k)]))
      refine own_aloadN X11 hx hby own_d3_45 rfl rfl ?_
      show own_G p e below s _ _ _ (T11.setTop (mkF m 46 #[.val (Value.ref a), .val (Value.ref b), .val (Value.int x2), .val (Value.int x3), .val (Value.int ii)] [(Value.ref b), (Value.ref k)]))
      refine own_iload X11 hx hby own_d3_46 rfl ?_
      show own_G p e below s _ _ _ (T11.setTop (mkF m 48 #[.val (Value.ref a), .val (Value.ref b), .val (Value.int x2), .val (Value.int x3), .val (Value.int ii)] [(Value.int ii), (Value.ref b), (Value.ref k)]))
      refine own_iaload X11 hx hby hZ e11 A6_b (j := ii) (i := (F + i)) hi (by omega) own_d3_48 ?_
      show own_G p e below s _ _ _ (T11.setTop (mkF m 49 #[.val (Value.ref a), .val (Value.ref b), .val (Value.int x2), .val (Value.int x3), .val (Value.int ii)] [(Value.int (G (F + i))), (Value.ref k)]))
      refine own_aloadN X11 hx hby own_d3_49 rfl rfl ?_
      show own_G p e below s _ _ _ (T11.setTop (mkF m 50 #[.val (Value.ref a), .val (Value.ref b), .val (Value.int x2), .val (Value.int x3), .val (Value.int ii)] [(Value.ref a), (Value.int (G (F + i))), (Value.ref k)]))
      obtain ⟨T12, X12, e12, st12⟩ := getF X11 hx hZ hown (host := "") (Or.inl (own_w17 hw)) Via.refl e11 F6_a_mark (g := (mkF m 50 #[.val (Value.ref a), .val (Value.ref b), .val (Value.int x2), .val (Value.int x3), .val (Value.int ii)] [(Value.ref a), (Value.int (G (F + i))), (Value.ref k)])) rfl rfl (hb hby own_d3_50)
      refine own_st st12 ?_
      show own_G p e below s _ _ _ (T12.setTop (mkF m 53 #[.val (Value.ref a), .val (Value.ref b), .val (Value.int x2), .val (Value.int x3), .val (Value.int ii)] [(Value.int (u0 + (1 : Int32))), (Value.int (G (F + i))), (Value.ref k)]))
      obtain ⟨T13, h13, X13, e13, W13, A13, st13⟩ := own_iastore X12 hx hby hZ e12 A6_k (j := (G (F + i))) (i := (G (F + i)).toInt.toNat) (by have := hG (F + i) (by omega) (by omega); omega) (by have := hG (F + i) (by omega) (by omega); omega) (x := (u0 + (1 : Int32))) own_d3_53 (Ls := #[.val (Value.ref a), .val (Value.ref b), .val (Value.int x2), .val (Value.int x3), .val (Value.int ii)]) (st := [])
      have F14_a_marks := Fld.other W13 F6_a_marks (Or.inl nka)
      have F14_a_mark := Fld.other W13 F6_a_mark (Or.inl nka)
      have F14_a_length := Fld.other W13 F6_a_length (Or.inl nka)
      have E14_a := Exa.wr W13 E6_a
      have A14_b := own_Ar.other A6_b W13 nkb
      have O14 := Old.wr O6 W13 g_k
      have N13 := Fr.snoc X13 N6 g_k
      have K13 := Keep.wr K6 W13 (Or.inl (List.mem_of_getElem? (i := 1) rfl))
      have A13n : own_Ar Z h13 k .int 4 (fun j => .int ((own_upd M G F (u0 + (1 : Int32)) (i + 1)) j)) := own_Ar.fn A13 (by intro j _; simp only [own_set, own_upd, own_up]; split <;> rfl)
      refine own_st st13 ?_
      show own_G p e below s _ _ _ (T13.setTop (mkF m 54 #[.val (Value.ref a), .val (Value.ref b), .val (Value.int x2), .val (Value.int x3), .val (Value.int ii)] []))
      refine own_iinc X13 hx hby own_d3_54 rfl (l' := #[.val (Value.ref a), .val (Value.ref b), .val (Value.int x2), .val (Value.int x3), .val (Value.int (ii + (1 : Int32)))]) rfl ?_
      show own_G p e below s _ _ _ (T13.setTop (mkF m 57 #[.val (Value.ref a), .val (Value.ref b), .val (Value.int x2), .val (Value.int x3), .val (Value.int (ii + (1 : Int32)))] []))
      refine own_goto X13 hx hby own_d3_57 (pc' := 35) (by decide) (by decide) ?_
      show own_G p e below s _ _ _ (T13.setTop (mkF m 35 #[.val (Value.ref a), .val (Value.ref b), .val (Value.int x2), .val (Value.int x3), .val (Value.int (ii + (1 : Int32)))] []))
      exact ih _ _ _ _ (i + 1) X13 e13 N13 O14 K13 F14_a_marks F14_a_mark F14_a_length E14_a A13n A14_b (own_inc hi (by omega)) (by omega)
  exact loop N _ _ _ x2 0 X4 e4 N4 O5 K4 F5_a_marks F4w F5_a_length E5_a (show own_Ar Z h4 k .int 4 (fun j => .int (own_upd M G F (u0 + (1 : Int32)) 0 j)) from A5_k) A5_b hF (by omega)
def own_rmU_Q (Z : State) (a : Addr) (x1 : Int32) (k : Addr) (u0 u1 : Int32) (M : Nat → Int32) (h0 : Heap) (n0 : Nat) : Option Value → Heap → List Loc → Prop := fun v h L => v = none ∧ Fr n0 L ∧ Keep h0 h [a, k] ∧ Fld Z h a "com/example/tuck/tuck/ListMarks" "marks" "[I" (Value.ref k) ∧ Fld Z h a "com/example/tuck/tuck/ListMarks" "mark" "I" (Value.int u0) ∧ Fld Z h a "com/example/tuck/tuck/ListMarks" "length" "I" (Value.int (u1 - (1 : Int32))) ∧ own_Ar Z h k .int 4 (fun j => .int ((own_up M x1.toInt.toNat (0 : Int32)) j))
theorem own_rmU_ef (m : MethodId) (a : Addr) (x1 : Int32)  : entryFrame m #[(Value.ref a), (Value.int x1)] 2 = mkF m 0 #[.val (Value.ref a), .val (Value.int x1)] [] := by first | (simp [entryFrame, mkF, argsToLocals, Value.category]; done) | rfl
set_option maxRecDepth 65536 in
set_option maxHeartbeats 40000000 in
theorem own_rmU (l : Launch) (Z : State) (a0 : Array Value) (hw : ∀ d ∈ tables_1, d.before a0 Z = true) (ws : List Jvm.Cond) (a : Addr) (x1 : Int32) (k : Addr) (u0 u1 : Int32) (M : Nat → Int32) (h0 : Heap) (n0 : Nat) (O0 : Old Z n0 h0) (E_a : Exa Z h0 a "com/example/tuck/tuck/ListMarks") (F_a_marks : Fld Z h0 a "com/example/tuck/tuck/ListMarks" "marks" "[I" (Value.ref k)) (F_a_mark : Fld Z h0 a "com/example/tuck/tuck/ListMarks" "mark" "I" (Value.int u0)) (F_a_length : Fld Z h0 a "com/example/tuck/tuck/ListMarks" "length" "I" (Value.int u1)) (g_a : n0 ≤ a) (A_k : own_Ar Z h0 k .int 4 (fun j => .int (M j))) (g_k : n0 ≤ k) (nka : a ≠ k) (h1 : 0 ≤ x1.toInt) (h2 : x1.toInt < 4) :
    MetFree l (⟨"com/example/tuck/tuck/ListMarks", "unmark", "(I)V"⟩ : MethodName) (head1 (Jvm.Cond.code (⟨"com/example/tuck/tuck/ListMarks", "unmark", "(I)V"⟩ : MethodName) prog_47_method_3_code 2 none :: ws) ({ frames := 0, cells := 0, slots := 0, locals := 0 } : Room)) (fun aa_ U => aa_ = #[(Value.ref a), (Value.int x1)] ∧ Z.Warmed39 U.vm ∧ U.heap = h0) (fun _ _ _ _ _ => True) (fun _ UU_ oo_ UX_ => ∃ vv_ LL_, oo_ = .returned vv_ ∧ (own_rmU_Q Z a x1 k u0 u1 M h0 n0) vv_ UX_.heap LL_ ∧ FrameEnd UU_ oo_ UX_ LL_ ({ frames := 0, cells := 0, slots := 0, locals := 0 } : Room).cells ({ frames := 0, cells := 0, slots := 0, locals := 0 } : Room).slots) := by
  refine MetFree.of_bodySF (plainFor_of_name own_pn0) hisR ?_
  intro p e s m args below meth c s₁ Bd hml0 hP hK
  obtain ⟨rfl, hZ, hh⟩ := hP
  have hx := Bd.exec
  have hby := Bd.bytes
  have hml : c.maxLocals = 2 := hml0
  have hown : s.vm.findClass "com/example/tuck/tuck/ListMarks" = some m.cls := findClass_of_methodNamed Bd.named
  have hnm := (name_of_methodNamed Bd.named Bd.method).1
  have hlk : meth.locks = false := BodyLoose.notSynchronized Bd
  have X0 : Stand p l e ({ frames := 0, cells := 0, slots := 0, locals := 0 } : Room) s m #[(Value.ref a), (Value.int x1)] below meth c s₁ [] 0 0 := Stand.of_body Bd
  have e0 : s₁.heap = h0 := by rw [← hh, Bd.state]; rfl
  have N0 := Fr.nil n0
  show own_G p e below s (own_rmU_Q Z a x1 k u0 u1 M h0 n0) ({ frames := 0, cells := 0, slots := 0, locals := 0 } : Room).cells ({ frames := 0, cells := 0, slots := 0, locals := 0 } : Room).slots (s₁.setTop (entryFrame m #[(Value.ref a), (Value.int x1)] 2))
  refine own_cast (own_rmU_ef m a x1 ) ?_
  show own_G p e below s _ _ _ (s₁.setTop (mkF m 0 #[.val (Value.ref a), .val (Value.int x1)] []))
  refine own_aloadN X0 hx hby own_d6_0 rfl rfl ?_
  show own_G p e below s _ _ _ (s₁.setTop (mkF m 1 #[.val (Value.ref a), .val (Value.int x1)] [(Value.ref a)]))
  obtain ⟨T1, X1, e1, st1⟩ := getF X0 hx hZ hown (host := "") (Or.inl (own_w10 hw)) Via.refl e0 F_a_marks (g := (mkF m 1 #[.val (Value.ref a), .val (Value.int x1)] [(Value.ref a)])) rfl rfl (hb hby own_d6_1)
  refine own_st st1 ?_
  show own_G p e below s _ _ _ (T1.setTop (mkF m 4 #[.val (Value.ref a), .val (Value.int x1)] [(Value.ref k)]))
  refine own_iloadN X1 hx hby own_d6_4 rfl ?_
  show own_G p e below s _ _ _ (T1.setTop (mkF m 5 #[.val (Value.ref a), .val (Value.int x1)] [(Value.int x1), (Value.ref k)]))
  refine own_iconst X1 hx hby own_d6_5 ?_
  show own_G p e below s _ _ _ (T1.setTop (mkF m 6 #[.val (Value.ref a), .val (Value.int x1)] [(Value.int (0 : Int32)), (Value.int x1), (Value.ref k)]))
  obtain ⟨T2, h2, X2, e2, W2, A2, st2⟩ := own_iastore X1 hx hby hZ e1 A_k (j := x1) (i := x1.toInt.toNat) (by omega) (by omega) (x := (0 : Int32)) own_d6_6 (Ls := #[.val (Value.ref a), .val (Value.int x1)]) (st := [])
  have F3_a_marks := Fld.other W2 F_a_marks (Or.inl nka)
  have F3_a_mark := Fld.other W2 F_a_mark (Or.inl nka)
  have F3_a_length := Fld.other W2 F_a_length (Or.inl nka)
  have E3_a := Exa.wr W2 E_a
  have O3 := Old.wr O0 W2 g_k
  have N2 := Fr.snoc X2 N0 g_k
  have K2 := Keep.wr (Keep.refl h0 [a, k]) W2 (Or.inl (List.mem_of_getElem? (i := 1) rfl))
  have A2n : own_Ar Z h2 k .int 4 (fun j => .int ((own_up M x1.toInt.toNat (0 : Int32)) j)) := own_Ar.fn A2 (by intro j _; simp only [own_set, own_up]; split <;> rfl)
  refine own_st st2 ?_
  show own_G p e below s _ _ _ (T2.setTop (mkF m 7 #[.val (Value.ref a), .val (Value.int x1)] []))
  refine own_aloadN X2 hx hby own_d6_7 rfl rfl ?_
  show own_G p e below s _ _ _ (T2.setTop (mkF m 8 #[.val (Value.ref a), .val (Value.int x1)] [(Value.ref a)]))
  refine own_dup X2 hx hby own_d6_8 rfl ?_
  show own_G p e below s _ _ _ (T2.setTop (mkF m 9 #[.val (Value.ref a), .val (Value.int x1)] [(Value.ref a), (Value.ref a)]))
  obtain ⟨T4, X4, e4, st4⟩ := getF X2 hx hZ hown (host := "") (Or.inl (own_w20 hw)) Via.refl e2 F3_a_length (g := (mkF m 9 #[.val (Value.ref a), .val (Value.int x1)] [(Value.ref a), (Value.ref a)])) rfl rfl (hb hby own_d6_9)
  refine own_st st4 ?_
  show own_G p e below s _ _ _ (T4.setTop (mkF m 12 #[.val (Value.ref a), .val (Value.int x1)] [(Value.int u1), (Value.ref a)]))
  refine own_iconst X4 hx hby own_d6_12 ?_
  show own_G p e below s _ _ _ (T4.setTop (mkF m 13 #[.val (Value.ref a), .val (Value.int x1)] [(Value.int (1 : Int32)), (Value.int u1), (Value.ref a)]))
  refine own_isub X4 hx hby own_d6_13 ?_
  show own_G p e below s _ _ _ (T4.setTop (mkF m 14 #[.val (Value.ref a), .val (Value.int x1)] [(Value.int (u1 - (1 : Int32))), (Value.ref a)]))
  obtain ⟨T5, h5, X5, e5, W5, st5⟩ := putF X4 hx hZ hown (host := "") (Or.inl (own_w20 hw)) Via.refl e4 F3_a_length E3_a (Or.inl (own_w21 hw)) (own_w2 hw) (ty := .int) (by decide) rfl rfl (g := (mkF m 14 #[.val (Value.ref a), .val (Value.int x1)] [(Value.int (u1 - (1 : Int32))), (Value.ref a)])) rfl rfl (hb hby own_d6_14)
  have F6_a_marks := Fld.other W5 F3_a_marks (Or.inr (slot_ne (C := "com/example/tuck/tuck/ListMarks") (Or.inr (own_w11 hw)) (Or.inl (own_w21 hw)) (by decide) (t := (.array .int)) (t' := .int) (by decide) (by decide)))
  have F6_a_mark := Fld.other W5 F3_a_mark (Or.inr (slot_ne (C := "com/example/tuck/tuck/ListMarks") (Or.inl (own_w18 hw)) (Or.inl (own_w21 hw)) (by decide) (t := .int) (t' := .int) (by decide) (by decide)))
  have E6_a := Exa.wr W5 E3_a
  have A6_k := own_Ar.other A2n W5 (Ne.symm nka)
  have O6 := Old.wr O3 W5 g_a
  have F5w := Fld.same W5 F3_a_length
  have K5 := Keep.wr K2 W5 (Or.inl (List.mem_of_getElem? (i := 0) rfl))
  have N5 := Fr.snoc X5 N2 g_a
  refine own_st st5 ?_
  show own_G p e below s _ _ _ (T5.setTop (mkF m 17 #[.val (Value.ref a), .val (Value.int x1)] []))
  refine own_ret0 X5 hx hby hlk Bd.returns own_d6_17 (by decide) (by decide) ?_
  show own_rmU_Q Z a x1 k u0 u1 M h0 n0 _ T5.heap _
  rw [e5]
  exact ⟨rfl, N5, K5, F6_a_marks, F6_a_mark, F5w, A6_k⟩
def own_rm4_Q (Z : State) (x0 : Int32)  (h0 : Heap) (n0 : Nat) : Option Value → Heap → List Loc → Prop := fun v h L => v = some (Value.int (own_bits x0)) ∧ h = h0 ∧ Fr n0 L
theorem own_rm4_ef (m : MethodId) (x0 : Int32)  : entryFrame m #[(Value.int x0)] 1 = mkF m 0 #[.val (Value.int x0)] [] := by first | (simp [entryFrame, mkF, argsToLocals, Value.category]; done) | rfl
set_option maxRecDepth 65536 in
set_option maxHeartbeats 40000000 in
theorem own_rm4 (l : Launch) (Z : State) (a0 : Array Value) (hw : ∀ d ∈ tables_1, d.before a0 Z = true) (ws : List Jvm.Cond) (x0 : Int32)  (h0 : Heap) (n0 : Nat) (O0 : Old Z n0 h0)  :
    MetFree l (⟨"com/example/tuck/tuck/ListMarksDifferencesPinLaw", "bits", "(I)I"⟩ : MethodName) (head1 (Jvm.Cond.code (⟨"com/example/tuck/tuck/ListMarksDifferencesPinLaw", "bits", "(I)I"⟩ : MethodName) method_2_code 1 (some .int) :: ws) ({ frames := 0, cells := 0, slots := 0, locals := 0 } : Room)) (fun aa_ U => aa_ = #[(Value.int x0)] ∧ Z.Warmed39 U.vm ∧ U.heap = h0) (fun _ _ _ _ _ => True) (fun _ UU_ oo_ UX_ => ∃ vv_ LL_, oo_ = .returned vv_ ∧ (own_rm4_Q Z x0 h0 n0) vv_ UX_.heap LL_ ∧ FrameEnd UU_ oo_ UX_ LL_ ({ frames := 0, cells := 0, slots := 0, locals := 0 } : Room).cells ({ frames := 0, cells := 0, slots := 0, locals := 0 } : Room).slots) := by
  refine MetFree.of_bodySF (plainFor_of_name own_pn1) hisR ?_
  intro p e s m args below meth c s₁ Bd hml0 hP hK
  obtain ⟨rfl, hZ, hh⟩ := hP
  have hx := Bd.exec
  have hby := Bd.bytes
  have hml : c.maxLocals = 1 := hml0
  have hown : s.vm.findClass "com/example/tuck/tuck/ListMarksDifferencesPinLaw" = some m.cls := findClass_of_methodNamed Bd.named
  have hnm := (name_of_methodNamed Bd.named Bd.method).1
  have hlk : meth.locks = false := BodyLoose.notSynchronized Bd
  have X0 : Stand p l e ({ frames := 0, cells := 0, slots := 0, locals := 0 } : Room) s m #[(Value.int x0)] below meth c s₁ [] 0 0 := Stand.of_body Bd
  have e0 : s₁.heap = h0 := by rw [← hh, Bd.state]; rfl
  have N0 := Fr.nil n0
  show own_G p e below s (own_rm4_Q Z x0 h0 n0) ({ frames := 0, cells := 0, slots := 0, locals := 0 } : Room).cells ({ frames := 0, cells := 0, slots := 0, locals := 0 } : Room).slots (s₁.setTop (entryFrame m #[(Value.int x0)] 1))
  refine own_cast (own_rm4_ef m x0 ) ?_
  show own_G p e below s _ _ _ (s₁.setTop (mkF m 0 #[.val (Value.int x0)] []))
  refine own_iloadN X0 hx hby own_d4_0 rfl ?_
  show own_G p e below s _ _ _ (s₁.setTop (mkF m 1 #[.val (Value.int x0)] [(Value.int x0)]))
  refine own_iconst X0 hx hby own_d4_1 ?_
  show own_G p e below s _ _ _ (s₁.setTop (mkF m 2 #[.val (Value.int x0)] [(Value.int (1 : Int32)), (Value.int x0)]))
  refine own_iand X0 hx hby own_d4_2 ?_
  show own_G p e below s _ _ _ (s₁.setTop (mkF m 3 #[.val (Value.int x0)] [(Value.int (x0 &&& (1 : Int32)))]))
  refine own_iloadN X0 hx hby own_d4_3 rfl ?_
  show own_G p e below s _ _ _ (s₁.setTop (mkF m 4 #[.val (Value.int x0)] [(Value.int x0), (Value.int (x0 &&& (1 : Int32)))]))
  refine own_iconst X0 hx hby own_d4_4 ?_
  show own_G p e below s _ _ _ (s₁.setTop (mkF m 5 #[.val (Value.int x0)] [(Value.int (1 : Int32)), (Value.int x0), (Value.int (x0 &&& (1 : Int32)))]))
  refine own_ishr X0 hx hby own_d4_5 ?_
  show own_G p e below s _ _ _ (s₁.setTop (mkF m 6 #[.val (Value.int x0)] [(Value.int (x0 >>> ((1 : Int32) &&& 31))), (Value.int (x0 &&& (1 : Int32)))]))
  refine own_iconst X0 hx hby own_d4_6 ?_
  show own_G p e below s _ _ _ (s₁.setTop (mkF m 7 #[.val (Value.int x0)] [(Value.int (1 : Int32)), (Value.int (x0 >>> ((1 : Int32) &&& 31))), (Value.int (x0 &&& (1 : Int32)))]))
  refine own_iand X0 hx hby own_d4_7 ?_
  show own_G p e below s _ _ _ (s₁.setTop (mkF m 8 #[.val (Value.int x0)] [(Value.int ((x0 >>> ((1 : Int32) &&& 31)) &&& (1 : Int32))), (Value.int (x0 &&& (1 : Int32)))]))
  refine own_iadd X0 hx hby own_d4_8 ?_
  show own_G p e below s _ _ _ (s₁.setTop (mkF m 9 #[.val (Value.int x0)] [(Value.int ((x0 &&& (1 : Int32)) + ((x0 >>> ((1 : Int32) &&& 31)) &&& (1 : Int32))))]))
  refine own_iloadN X0 hx hby own_d4_9 rfl ?_
  show own_G p e below s _ _ _ (s₁.setTop (mkF m 10 #[.val (Value.int x0)] [(Value.int x0), (Value.int ((x0 &&& (1 : Int32)) + ((x0 >>> ((1 : Int32) &&& 31)) &&& (1 : Int32))))]))
  refine own_iconst X0 hx hby own_d4_10 ?_
  show own_G p e below s _ _ _ (s₁.setTop (mkF m 11 #[.val (Value.int x0)] [(Value.int (2 : Int32)), (Value.int x0), (Value.int ((x0 &&& (1 : Int32)) + ((x0 >>> ((1 : Int32) &&& 31)) &&& (1 : Int32))))]))
  refine own_ishr X0 hx hby own_d4_11 ?_
  show own_G p e below s _ _ _ (s₁.setTop (mkF m 12 #[.val (Value.int x0)] [(Value.int (x0 >>> ((2 : Int32) &&& 31))), (Value.int ((x0 &&& (1 : Int32)) + ((x0 >>> ((1 : Int32) &&& 31)) &&& (1 : Int32))))]))
  refine own_iconst X0 hx hby own_d4_12 ?_
  show own_G p e below s _ _ _ (s₁.setTop (mkF m 13 #[.val (Value.int x0)] [(Value.int (1 : Int32)), (Value.int (x0 >>> ((2 : Int32) &&& 31))), (Value.int ((x0 &&& (1 : Int32)) + ((x0 >>> ((1 : Int32) &&& 31)) &&& (1 : Int32))))]))
  refine own_iand X0 hx hby own_d4_13 ?_
  show own_G p e below s _ _ _ (s₁.setTop (mkF m 14 #[.val (Value.int x0)] [(Value.int ((x0 >>> ((2 : Int32) &&& 31)) &&& (1 : Int32))), (Value.int ((x0 &&& (1 : Int32)) + ((x0 >>> ((1 : Int32) &&& 31)) &&& (1 : Int32))))]))
  refine own_iadd X0 hx hby own_d4_14 ?_
  show own_G p e below s _ _ _ (s₁.setTop (mkF m 15 #[.val (Value.int x0)] [(Value.int (((x0 &&& (1 : Int32)) + ((x0 >>> ((1 : Int32) &&& 31)) &&& (1 : Int32))) + ((x0 >>> ((2 : Int32) &&& 31)) &&& (1 : Int32))))]))
  refine own_iloadN X0 hx hby own_d4_15 rfl ?_
  show own_G p e below s _ _ _ (s₁.setTop (mkF m 16 #[.val (Value.int x0)] [(Value.int x0), (Value.int (((x0 &&& (1 : Int32)) + ((x0 >>> ((1 : Int32) &&& 31)) &&& (1 : Int32))) + ((x0 >>> ((2 : Int32) &&& 31)) &&& (1 : Int32))))]))
  refine own_iconst X0 hx hby own_d4_16 ?_
  show own_G p e below s _ _ _ (s₁.setTop (mkF m 17 #[.val (Value.int x0)] [(Value.int (3 : Int32)), (Value.int x0), (Value.int (((x0 &&& (1 : Int32)) + ((x0 >>> ((1 : Int32) &&& 31)) &&& (1 : Int32))) + ((x0 >>> ((2 : Int32) &&& 31)) &&& (1 : Int32))))]))
  refine own_ishr X0 hx hby own_d4_17 ?_
  show own_G p e below s _ _ _ (s₁.setTop (mkF m 18 #[.val (Value.int x0)] [(Value.int (x0 >>> ((3 : Int32) &&& 31))), (Value.int (((x0 &&& (1 : Int32)) + ((x0 >>> ((1 : Int32) &&& 31)) &&& (1 : Int32))) + ((x0 >>> ((2 : Int32) &&& 31)) &&& (1 : Int32))))]))
  refine own_iconst X0 hx hby own_d4_18 ?_
  show own_G p e below s _ _ _ (s₁.setTop (mkF m 19 #[.val (Value.int x0)] [(Value.int (1 : Int32)), (Value.int (x0 >>> ((3 : Int32) &&& 31))), (Value.int (((x0 &&& (1 : Int32)) + ((x0 >>> ((1 : Int32) &&& 31)) &&& (1 : Int32))) + ((x0 >>> ((2 : Int32) &&& 31)) &&& (1 : Int32))))]))
  refine own_iand X0 hx hby own_d4_19 ?_
  show own_G p e below s _ _ _ (s₁.setTop (mkF m 20 #[.val (Value.int x0)] [(Value.int ((x0 >>> ((3 : Int32) &&& 31)) &&& (1 : Int32))), (Value.int (((x0 &&& (1 : Int32)) + ((x0 >>> ((1 : Int32) &&& 31)) &&& (1 : Int32))) + ((x0 >>> ((2 : Int32) &&& 31)) &&& (1 : Int32))))]))
  refine own_iadd X0 hx hby own_d4_20 ?_
  show own_G p e below s _ _ _ (s₁.setTop (mkF m 21 #[.val (Value.int x0)] [(Value.int ((((x0 &&& (1 : Int32)) + ((x0 >>> ((1 : Int32) &&& 31)) &&& (1 : Int32))) + ((x0 >>> ((2 : Int32) &&& 31)) &&& (1 : Int32))) + ((x0 >>> ((3 : Int32) &&& 31)) &&& (1 : Int32))))]))
  refine own_retI X0 hx hby hlk Bd.returns own_d4_21 (by decide) (by decide) ?_
  refine ⟨?_, e0, N0⟩
  show some (Value.int ((((x0 &&& (1 : Int32)) + ((x0 >>> ((1 : Int32) &&& 31)) &&& (1 : Int32))) + ((x0 >>> ((2 : Int32) &&& 31)) &&& (1 : Int32))) + ((x0 >>> ((3 : Int32) &&& 31)) &&& (1 : Int32)))) = _
  rfl
def own_rmD_Q (Z : State) (a : Addr) (b : Addr) (x2 : Int32) (x3 : Int32) (x4 : Int32) (k : Addr) (u0 u1 : Int32) (M G : Nat → Int32) (F N : Nat) (h0 : Heap) (n0 : Nat) : Option Value → Heap → List Loc → Prop := fun v h L => v = some (Value.int (own_run (own_bl M G u0 F N) (u1 - (x3 - x2)) x4)) ∧ h = h0 ∧ Fr n0 L
theorem own_rmD_ef (m : MethodId) (a : Addr) (b : Addr) (x2 : Int32) (x3 : Int32) (x4 : Int32)  : entryFrame m #[(Value.ref a), (Value.ref b), (Value.int x2), (Value.int x3), (Value.int x4)] 7 = mkF m 0 #[.val (Value.ref a), .val (Value.ref b), .val (Value.int x2), .val (Value.int x3), .val (Value.int x4), .unset, .unset] [] := by first | (simp [entryFrame, mkF, argsToLocals, Value.category]; done) | rfl
set_option maxRecDepth 65536 in
set_option maxHeartbeats 40000000 in
theorem own_rmD (l : Launch) (Z : State) (a0 : Array Value) (hw : ∀ d ∈ tables_1, d.before a0 Z = true) (ws : List Jvm.Cond) (a : Addr) (b : Addr) (x2 : Int32) (x3 : Int32) (x4 : Int32) (k : Addr) (u0 u1 : Int32) (M G : Nat → Int32) (F N : Nat) (h0 : Heap) (n0 : Nat) (O0 : Old Z n0 h0) (F_a_marks : Fld Z h0 a "com/example/tuck/tuck/ListMarks" "marks" "[I" (Value.ref k)) (F_a_mark : Fld Z h0 a "com/example/tuck/tuck/ListMarks" "mark" "I" (Value.int u0)) (F_a_length : Fld Z h0 a "com/example/tuck/tuck/ListMarks" "length" "I" (Value.int u1)) (A_k : own_Ar Z h0 k .int 4 (fun j => .int (M j))) (A_b : own_Ar Z h0 b .int 8 (fun j => .int (G j))) (hF : x2.toInt = (F : Int)) (hN : x3.toInt = ((F + N : Nat) : Int)) (hFN : F + N ≤ 8) (hG : ∀ j, F ≤ j → j < F + N → 0 ≤ (G j).toInt ∧ (G j).toInt < 4) :
    MetFree l (⟨"com/example/tuck/tuck/ListMarks", "differences", "([IIII)I"⟩ : MethodName) (head1 (Jvm.Cond.code (⟨"com/example/tuck/tuck/ListMarks", "differences", "([IIII)I"⟩ : MethodName) prog_47_method_5_code 7 (some .int) :: ws) ({ frames := 0, cells := 0, slots := 0, locals := 0 } : Room)) (fun aa_ U => aa_ = #[(Value.ref a), (Value.ref b), (Value.int x2), (Value.int x3), (Value.int x4)] ∧ Z.Warmed39 U.vm ∧ U.heap = h0) (fun _ _ _ _ _ => True) (fun _ UU_ oo_ UX_ => ∃ vv_ LL_, oo_ = .returned vv_ ∧ (own_rmD_Q Z a b x2 x3 x4 k u0 u1 M G F N h0 n0) vv_ UX_.heap LL_ ∧ FrameEnd UU_ oo_ UX_ LL_ ({ frames := 0, cells := 0, slots := 0, locals := 0 } : Room).cells ({ frames := 0, cells := 0, slots := 0, locals := 0 } : Room).slots) := by
  refine MetFree.of_bodySF (plainFor_of_name own_pn0) hisR ?_
  intro p e s m args below meth c s₁ Bd hml0 hP hK
  obtain ⟨rfl, hZ, hh⟩ := hP
  have hx := Bd.exec
  have hby := Bd.bytes
  have hml : c.maxLocals = 7 := hml0
  have hown : s.vm.findClass "com/example/tuck/tuck/ListMarks" = some m.cls := findClass_of_methodNamed Bd.named
  have hnm := (name_of_methodNamed Bd.named Bd.method).1
  have hlk : meth.locks = false := BodyLoose.notSynchronized Bd
  have X0 : Stand p l e ({ frames := 0, cells := 0, slots := 0, locals := 0 } : Room) s m #[(Value.ref a), (Value.ref b), (Value.int x2), (Value.int x3), (Value.int x4)] below meth c s₁ [] 0 0 := Stand.of_body Bd
  have e0 : s₁.heap = h0 := by rw [← hh, Bd.state]; rfl
  have N0 := Fr.nil n0
  show own_G p e below s (own_rmD_Q Z a b x2 x3 x4 k u0 u1 M G F N h0 n0) ({ frames := 0, cells := 0, slots := 0, locals := 0 } : Room).cells ({ frames := 0, cells := 0, slots := 0, locals := 0 } : Room).slots (s₁.setTop (entryFrame m #[(Value.ref a), (Value.ref b), (Value.int x2), (Value.int x3), (Value.int x4)] 7))
  refine own_cast (own_rmD_ef m a b x2 x3 x4 ) ?_
  show own_G p e below s _ _ _ (s₁.setTop (mkF m 0 #[.val (Value.ref a), .val (Value.ref b), .val (Value.int x2), .val (Value.int x3), .val (Value.int x4), .unset, .unset] []))
  refine own_aloadN X0 hx hby own_d5_0 rfl rfl ?_
  show own_G p e below s _ _ _ (s₁.setTop (mkF m 1 #[.val (Value.ref a), .val (Value.ref b), .val (Value.int x2), .val (Value.int x3), .val (Value.int x4), .unset, .unset] [(Value.ref a)]))
  obtain ⟨T1, X1, e1, st1⟩ := getF X0 hx hZ hown (host := "") (Or.inl (own_w20 hw)) Via.refl e0 F_a_length (g := (mkF m 1 #[.val (Value.ref a), .val (Value.ref b), .val (Value.int x2), .val (Value.int x3), .val (Value.int x4), .unset, .unset] [(Value.ref a)])) rfl rfl (hb hby own_d5_1)
  refine own_st st1 ?_
  show own_G p e below s _ _ _ (T1.setTop (mkF m 4 #[.val (Value.ref a), .val (Value.ref b), .val (Value.int x2), .val (Value.int x3), .val (Value.int x4), .unset, .unset] [(Value.int u1)]))
  refine own_iloadN X1 hx hby own_d5_4 rfl ?_
  show own_G p e below s _ _ _ (T1.setTop (mkF m 5 #[.val (Value.ref a), .val (Value.ref b), .val (Value.int x2), .val (Value.int x3), .val (Value.int x4), .unset, .unset] [(Value.int x3), (Value.int u1)]))
  refine own_iloadN X1 hx hby own_d5_5 rfl ?_
  show own_G p e below s _ _ _ (T1.setTop (mkF m 6 #[.val (Value.ref a), .val (Value.ref b), .val (Value.int x2), .val (Value.int x3), .val (Value.int x4), .unset, .unset] [(Value.int x2), (Value.int x3), (Value.int u1)]))
  refine own_isub X1 hx hby own_d5_6 ?_
  show own_G p e below s _ _ _ (T1.setTop (mkF m 7 #[.val (Value.ref a), .val (Value.ref b), .val (Value.int x2), .val (Value.int x3), .val (Value.int x4), .unset, .unset] [(Value.int (x3 - x2)), (Value.int u1)]))
  refine own_isub X1 hx hby own_d5_7 ?_
  show own_G p e below s _ _ _ (T1.setTop (mkF m 8 #[.val (Value.ref a), .val (Value.ref b), .val (Value.int x2), .val (Value.int x3), .val (Value.int x4), .unset, .unset] [(Value.int (u1 - (x3 - x2)))]))
  refine own_istore X1 hx hby own_d5_8 (l' := #[.val (Value.ref a), .val (Value.ref b), .val (Value.int x2), .val (Value.int x3), .val (Value.int x4), .val (Value.int (u1 - (x3 - x2))), .unset]) rfl ?_
  show own_G p e below s _ _ _ (T1.setTop (mkF m 10 #[.val (Value.ref a), .val (Value.ref b), .val (Value.int x2), .val (Value.int x3), .val (Value.int x4), .val (Value.int (u1 - (x3 - x2))), .unset] []))
  refine own_iloadN X1 hx hby own_d5_10 rfl ?_
  show own_G p e below s _ _ _ (T1.setTop (mkF m 11 #[.val (Value.ref a), .val (Value.ref b), .val (Value.int x2), .val (Value.int x3), .val (Value.int x4), .val (Value.int (u1 - (x3 - x2))), .unset] [(Value.int x2)]))
  refine own_istore X1 hx hby own_d5_11 (l' := #[.val (Value.ref a), .val (Value.ref b), .val (Value.int x2), .val (Value.int x3), .val (Value.int x4), .val (Value.int (u1 - (x3 - x2))), .val (Value.int x2)]) rfl ?_
  show own_G p e below s _ _ _ (T1.setTop (mkF m 13 #[.val (Value.ref a), .val (Value.ref b), .val (Value.int x2), .val (Value.int x3), .val (Value.int x4), .val (Value.int (u1 - (x3 - x2))), .val (Value.int x2)] []))
  have loop : ∀ (n : Nat) (T2 : State) (lo2 : List Loc) (ii ls : Int32) (i : Nat) (X2 : Stand p l e ({ frames := 0, cells := 0, slots := 0, locals := 0 } : Room) s m #[(Value.ref a), (Value.ref b), (Value.int x2), (Value.int x3), (Value.int x4)] below meth c T2 lo2 0 0) (e2 : T2.heap = h0) (N2 : Fr n0 lo2) (hi : ii.toInt = ((F + i : Nat) : Int)) (hn : i + n = N) (hres : own_run (own_bl M G u0 (F + i) n) ls x4 = (own_run (own_bl M G u0 F N) (u1 - (x3 - x2)) x4)), own_G p e below s (own_rmD_Q Z a b x2 x3 x4 k u0 u1 M G F N h0 n0) ({ frames := 0, cells := 0, slots := 0, locals := 0 } : Room).cells ({ frames := 0, cells := 0, slots := 0, locals := 0 } : Room).slots (T2.setTop (mkF m 13 #[.val (Value.ref a), .val (Value.ref b), .val (Value.int x2), .val (Value.int x3), .val (Value.int x4), .val (Value.int ls), .val (Value.int ii)] [])) := by
    intro n
    induction n with
    | zero =>
      intro T2 lo2 ii ls i X2 e2 N2 hi hn hres
      show own_G p e below s _ _ _ (T2.setTop (mkF m 13 #[.val (Value.ref a), .val (Value.ref b), .val (Value.int x2), .val (Value.int x3), .val (Value.int x4), .val (Value.int ls), .val (Value.int ii)] []))
      refine own_iload X2 hx hby own_d5_13 rfl ?_
      show own_G p e below s _ _ _ (T2.setTop (mkF m 15 #[.val (Value.ref a), .val (Value.ref b), .val (Value.int x2), .val (Value.int x3), .val (Value.int x4), .val (Value.int ls), .val (Value.int ii)] [(Value.int ii)]))
      refine own_iloadN X2 hx hby own_d5_15 rfl ?_
      show own_G p e below s _ _ _ (T2.setTop (mkF m 16 #[.val (Value.ref a), .val (Value.ref b), .val (Value.int x2), .val (Value.int x3), .val (Value.int x4), .val (Value.int ls), .val (Value.int ii)] [(Value.int x3), (Value.int ii)]))
      refine own_icmp_ge X2 hx hby own_d5_16 (pc' := 54) (by decide) (by decide) (fun hb3 => ?_) (fun hb3 => by exfalso; rw [Int32.lt_iff_toInt_lt] at hb3; omega)
      show own_G p e below s _ _ _ (T2.setTop (mkF m 54 #[.val (Value.ref a), .val (Value.ref b), .val (Value.int x2), .val (Value.int x3), .val (Value.int x4), .val (Value.int ls), .val (Value.int ii)] []))
      refine own_iload X2 hx hby own_d5_54 rfl ?_
      show own_G p e below s _ _ _ (T2.setTop (mkF m 56 #[.val (Value.ref a), .val (Value.ref b), .val (Value.int x2), .val (Value.int x3), .val (Value.int x4), .val (Value.int ls), .val (Value.int ii)] [(Value.int ls)]))
      refine own_retI X2 hx hby hlk Bd.returns own_d5_56 (by decide) (by decide) ?_
      refine ⟨?_, e2, N2⟩
      show some (Value.int ls) = _
      rw [← hres]; rfl
    | succ n ih =>
      intro T2 lo2 ii ls i X2 e2 N2 hi hn hres
      show own_G p e below s _ _ _ (T2.setTop (mkF m 13 #[.val (Value.ref a), .val (Value.ref b), .val (Value.int x2), .val (Value.int x3), .val (Value.int x4), .val (Value.int ls), .val (Value.int ii)] []))
      refine own_iload X2 hx hby own_d5_13 rfl ?_
      show own_G p e below s _ _ _ (T2.setTop (mkF m 15 #[.val (Value.ref a), .val (Value.ref b), .val (Value.int x2), .val (Value.int x3), .val (Value.int x4), .val (Value.int ls), .val (Value.int ii)] [(Value.int ii)]))
      refine own_iloadN X2 hx hby own_d5_15 rfl ?_
      show own_G p e below s _ _ _ (T2.setTop (mkF m 16 #[.val (Value.ref a), .val (Value.ref b), .val (Value.int x2), .val (Value.int x3), .val (Value.int x4), .val (Value.int ls), .val (Value.int ii)] [(Value.int x3), (Value.int ii)]))
      refine own_icmp_ge X2 hx hby own_d5_16 (pc' := 54) (by decide) (by decide) (fun hb4 => by exfalso; apply hb4; rw [Int32.lt_iff_toInt_lt]; omega) (fun hb4 => ?_)
      show own_G p e below s _ _ _ (T2.setTop (mkF m 19 #[.val (Value.ref a), .val (Value.ref b), .val (Value.int x2), .val (Value.int x3), .val (Value.int x4), .val (Value.int ls), .val (Value.int ii)] []))
      refine own_aloadN X2 hx hby own_d5_19 rfl rfl ?_
      show own_G p e below s _ _ _ (T2.setTop (mkF m 20 #[.val (Value.ref a), .val (Value.ref b), .val (Value.int x2), .val (Value.int x3), .val (Value.int x4), .val (Value.int ls), .val (Value.int ii)] [(Value.ref a)]))
      obtain ⟨T5, X5, e5, st5⟩ := getF X2 hx hZ hown (host := "") (Or.inl (own_w10 hw)) Via.refl e2 F_a_marks (g := (mkF m 20 #[.val (Value.ref a), .val (Value.ref b), .val (Value.int x2), .val (Value.int x3), .val (Value.int x4), .val (Value.int ls), .val (Value.int ii)] [(Value.ref a)])) rfl rfl (hb hby own_d5_20)
      refine own_st st5 ?_
      show own_G p e below s _ _ _ (T5.setTop (mkF m 23 #[.val (Value.ref a), .val (Value.ref b), .val (Value.int x2), .val (Value.int x3), .val (Value.int x4), .val (Value.int ls), .val (Value.int ii)] [(Value.ref k)]))
      refine own_aloadN X5 hx hby own_d5_23 rfl rfl ?_
      show own_G p e below s _ _ _ (T5.setTop (mkF m 24 #[.val (Value.ref a), .val (Value.ref b), .val (Value.int x2), .val (Value.int x3), .val (Value.int x4), .val (Value.int ls), .val (Value.int ii)] [(Value.ref b), (Value.ref k)]))
      refine own_iload X5 hx hby own_d5_24 rfl ?_
      show own_G p e below s _ _ _ (T5.setTop (mkF m 26 #[.val (Value.ref a), .val (Value.ref b), .val (Value.int x2), .val (Value.int x3), .val (Value.int x4), .val (Value.int ls), .val (Value.int ii)] [(Value.int ii), (Value.ref b), (Value.ref k)]))
      refine own_iaload X5 hx hby hZ e5 A_b (j := ii) (i := (F + i)) hi (by omega) own_d5_26 ?_
      show own_G p e below s _ _ _ (T5.setTop (mkF m 27 #[.val (Value.ref a), .val (Value.ref b), .val (Value.int x2), .val (Value.int x3), .val (Value.int x4), .val (Value.int ls), .val (Value.int ii)] [(Value.int (G (F + i))), (Value.ref k)]))
      refine own_iaload X5 hx hby hZ e5 A_k (j := (G (F + i))) (i := (G (F + i)).toInt.toNat) (by have := hG (F + i) (by omega) (by omega); omega) (by have := hG (F + i) (by omega) (by omega); omega) own_d5_27 ?_
      show own_G p e below s _ _ _ (T5.setTop (mkF m 28 #[.val (Value.ref a), .val (Value.ref b), .val (Value.int x2), .val (Value.int x3), .val (Value.int x4), .val (Value.int ls), .val (Value.int ii)] [(Value.int (M (G (F + i)).toInt.toNat))]))
      refine own_aloadN X5 hx hby own_d5_28 rfl rfl ?_
      show own_G p e below s _ _ _ (T5.setTop (mkF m 29 #[.val (Value.ref a), .val (Value.ref b), .val (Value.int x2), .val (Value.int x3), .val (Value.int x4), .val (Value.int ls), .val (Value.int ii)] [(Value.ref a), (Value.int (M (G (F + i)).toInt.toNat))]))
      obtain ⟨T6, X6, e6, st6⟩ := getF X5 hx hZ hown (host := "") (Or.inl (own_w17 hw)) Via.refl e5 F_a_mark (g := (mkF m 29 #[.val (Value.ref a), .val (Value.ref b), .val (Value.int x2), .val (Value.int x3), .val (Value.int x4), .val (Value.int ls), .val (Value.int ii)] [(Value.ref a), (Value.int (M (G (F + i)).toInt.toNat))])) rfl rfl (hb hby own_d5_29)
      refine own_st st6 ?_
      show own_G p e below s _ _ _ (T6.setTop (mkF m 32 #[.val (Value.ref a), .val (Value.ref b), .val (Value.int x2), .val (Value.int x3), .val (Value.int x4), .val (Value.int ls), .val (Value.int ii)] [(Value.int u0), (Value.int (M (G (F + i)).toInt.toNat))]))
      refine own_icmp_eq X6 hx hby own_d5_32 (pc' := 48) (by decide) (by decide) (fun hb7 => ?_) (fun hb7 => ?_)
      · show own_G p e below s _ _ _ (T6.setTop (mkF m 48 #[.val (Value.ref a), .val (Value.ref b), .val (Value.int x2), .val (Value.int x3), .val (Value.int x4), .val (Value.int ls), .val (Value.int ii)] []))
        refine own_iinc X6 hx hby own_d5_48 rfl (l' := #[.val (Value.ref a), .val (Value.ref b), .val (Value.int x2), .val (Value.int x3), .val (Value.int x4), .val (Value.int ls), .val (Value.int (ii + (1 : Int32)))]) rfl ?_
        show own_G p e below s _ _ _ (T6.setTop (mkF m 51 #[.val (Value.ref a), .val (Value.ref b), .val (Value.int x2), .val (Value.int x3), .val (Value.int x4), .val (Value.int ls), .val (Value.int (ii + (1 : Int32)))] []))
        refine own_goto X6 hx hby own_d5_51 (pc' := 13) (by decide) (by decide) ?_
        show own_G p e below s _ _ _ (T6.setTop (mkF m 13 #[.val (Value.ref a), .val (Value.ref b), .val (Value.int x2), .val (Value.int x3), .val (Value.int x4), .val (Value.int ls), .val (Value.int (ii + (1 : Int32)))] []))
        exact ih _ _ _ ls (i + 1) X6 e6 N2 (own_inc hi (by omega)) (by omega) (by rw [← hres]; simp only [own_bl]; rw [decide_eq_true hb7]; rfl)
      · show own_G p e below s _ _ _ (T6.setTop (mkF m 35 #[.val (Value.ref a), .val (Value.ref b), .val (Value.int x2), .val (Value.int x3), .val (Value.int x4), .val (Value.int ls), .val (Value.int ii)] []))
        refine own_iinc X6 hx hby own_d5_35 rfl (l' := #[.val (Value.ref a), .val (Value.ref b), .val (Value.int x2), .val (Value.int x3), .val (Value.int x4), .val (Value.int (ls + (2 : Int32))), .val (Value.int ii)]) rfl ?_
        show own_G p e below s _ _ _ (T6.setTop (mkF m 38 #[.val (Value.ref a), .val (Value.ref b), .val (Value.int x2), .val (Value.int x3), .val (Value.int x4), .val (Value.int (ls + (2 : Int32))), .val (Value.int ii)] []))
        refine own_iload X6 hx hby own_d5_38 rfl ?_
        show own_G p e below s _ _ _ (T6.setTop (mkF m 40 #[.val (Value.ref a), .val (Value.ref b), .val (Value.int x2), .val (Value.int x3), .val (Value.int x4), .val (Value.int (ls + (2 : Int32))), .val (Value.int ii)] [(Value.int (ls + (2 : Int32)))]))
        refine own_iload X6 hx hby own_d5_40 rfl ?_
        show own_G p e below s _ _ _ (T6.setTop (mkF m 42 #[.val (Value.ref a), .val (Value.ref b), .val (Value.int x2), .val (Value.int x3), .val (Value.int x4), .val (Value.int (ls + (2 : Int32))), .val (Value.int ii)] [(Value.int x4), (Value.int (ls + (2 : Int32)))]))
        refine own_icmp_lt X6 hx hby own_d5_42 (pc' := 48) (by decide) (by decide) (fun hb8 => ?_) (fun hb8 => ?_)
        · show own_G p e below s _ _ _ (T6.setTop (mkF m 48 #[.val (Value.ref a), .val (Value.ref b), .val (Value.int x2), .val (Value.int x3), .val (Value.int x4), .val (Value.int (ls + (2 : Int32))), .val (Value.int ii)] []))
          refine own_iinc X6 hx hby own_d5_48 rfl (l' := #[.val (Value.ref a), .val (Value.ref b), .val (Value.int x2), .val (Value.int x3), .val (Value.int x4), .val (Value.int (ls + (2 : Int32))), .val (Value.int (ii + (1 : Int32)))]) rfl ?_
          show own_G p e below s _ _ _ (T6.setTop (mkF m 51 #[.val (Value.ref a), .val (Value.ref b), .val (Value.int x2), .val (Value.int x3), .val (Value.int x4), .val (Value.int (ls + (2 : Int32))), .val (Value.int (ii + (1 : Int32)))] []))
          refine own_goto X6 hx hby own_d5_51 (pc' := 13) (by decide) (by decide) ?_
          show own_G p e below s _ _ _ (T6.setTop (mkF m 13 #[.val (Value.ref a), .val (Value.ref b), .val (Value.int x2), .val (Value.int x3), .val (Value.int x4), .val (Value.int (ls + (2 : Int32))), .val (Value.int (ii + (1 : Int32)))] []))
          exact ih _ _ _ _ (i + 1) X6 e6 N2 (own_inc hi (by omega)) (by omega) (by rw [← hres]; simp only [own_bl]; rw [decide_eq_false hb7]; exact (if_pos hb8).symm)
        · show own_G p e below s _ _ _ (T6.setTop (mkF m 45 #[.val (Value.ref a), .val (Value.ref b), .val (Value.int x2), .val (Value.int x3), .val (Value.int x4), .val (Value.int (ls + (2 : Int32))), .val (Value.int ii)] []))
          refine own_iload X6 hx hby own_d5_45 rfl ?_
          show own_G p e below s _ _ _ (T6.setTop (mkF m 47 #[.val (Value.ref a), .val (Value.ref b), .val (Value.int x2), .val (Value.int x3), .val (Value.int x4), .val (Value.int (ls + (2 : Int32))), .val (Value.int ii)] [(Value.int (ls + (2 : Int32)))]))
          refine own_retI X6 hx hby hlk Bd.returns own_d5_47 (by decide) (by decide) ?_
          refine ⟨?_, e6, N2⟩
          show some (Value.int (ls + (2 : Int32))) = _
          rw [← hres]; simp only [own_bl]; rw [decide_eq_false hb7]; exact congrArg (fun q => some (Value.int q)) (if_neg hb8).symm
  exact loop N _ _ x2 _ 0 X1 e1 N0 hF (by omega) rfl
def own_rm0_Q (Z : State) (x0 : Int32) (x1 : Int32) (x2 : Int32) (x3 : Int32)  (h0 : Heap) (n0 : Nat) : Option Value → Heap → List Loc → Prop := fun v h L => v = some (.int 1) ∧ Fr n0 L
theorem own_rm0_ef (m : MethodId) (x0 : Int32) (x1 : Int32) (x2 : Int32) (x3 : Int32)  : entryFrame m #[(Value.int x0), (Value.int x1), (Value.int x2), (Value.int x3)] maxLocals = mkF m 0 #[.val (Value.int x0), .val (Value.int x1), .val (Value.int x2), .val (Value.int x3), .unset, .unset, .unset, .unset, .unset, .unset, .unset, .unset, .unset, .unset, .unset, .unset, .unset] [] := by first | (simp [entryFrame, mkF, argsToLocals, Value.category, maxLocals]; done) | rfl
set_option maxRecDepth 65536 in
set_option maxHeartbeats 40000000 in
theorem own_rm0 (l : Launch) (Z : State) (a0 : Array Value) (hw : ∀ d ∈ tables_1, d.before a0 Z = true) (ws : List Jvm.Cond) (x0 : Int32) (x1 : Int32) (x2 : Int32) (x3 : Int32)  (h0 : Heap) (n0 : Nat) (O0 : Old Z n0 h0)  :
    MetFree l x (head1 (Jvm.Cond.code x code maxLocals ret :: ws) room_1) (fun aa_ U => aa_ = #[(Value.int x0), (Value.int x1), (Value.int x2), (Value.int x3)] ∧ Z.Warmed39 U.vm ∧ U.heap = h0) (fun _ _ _ _ _ => True) (fun _ UU_ oo_ UX_ => ∃ vv_ LL_, oo_ = .returned vv_ ∧ (own_rm0_Q Z x0 x1 x2 x3 h0 n0) vv_ UX_.heap LL_ ∧ FrameEnd UU_ oo_ UX_ LL_ 16 128) := by
  refine MetFree.of_bodySF (plainFor_of_name own_pn1) hisR ?_
  intro p e s m args below meth c s₁ Bd hml0 hP hK
  obtain ⟨rfl, hZ, hh⟩ := hP
  have hx := Bd.exec
  have hby := Bd.bytes
  have hml : c.maxLocals = 17 := hml0
  have hown : s.vm.findClass "com/example/tuck/tuck/ListMarksDifferencesPinLaw" = some m.cls := findClass_of_methodNamed Bd.named
  have hnm := (name_of_methodNamed Bd.named Bd.method).1
  have hlk : meth.locks = false := BodyLoose.notSynchronized Bd
  have X0 : Stand p l e room_1 s m #[(Value.int x0), (Value.int x1), (Value.int x2), (Value.int x3)] below meth c s₁ [] 0 0 := Stand.of_body Bd
  have e0 : s₁.heap = h0 := by rw [← hh, Bd.state]; rfl
  have N0 := Fr.nil n0
  show own_G p e below s (own_rm0_Q Z x0 x1 x2 x3 h0 n0) 16 128 (s₁.setTop (entryFrame m #[(Value.int x0), (Value.int x1), (Value.int x2), (Value.int x3)] maxLocals))
  refine own_cast (own_rm0_ef m x0 x1 x2 x3 ) ?_
  have J42 : ∀ (pf df : Int32), own_G p e below s (own_rm0_Q Z x0 x1 x2 x3 h0 n0) 16 128 (s₁.setTop (mkF m 42 #[.val (Value.int x0), .val (Value.int x1), .val (Value.int x2), .val (Value.int x3), .val (Value.int (x2 &&& (3 : Int32))), .val (Value.int ((x2 >>> ((2 : Int32) &&& 31)) &&& (3 : Int32))), .val (Value.int pf), .val (Value.int df), .unset, .unset, .unset, .unset, .unset, .unset, .unset, .unset, .unset] [])) := by
    intro pf df
    show own_G p e below s _ _ _ (s₁.setTop (mkF m 42 #[.val (Value.int x0), .val (Value.int x1), .val (Value.int x2), .val (Value.int x3), .val (Value.int (x2 &&& (3 : Int32))), .val (Value.int ((x2 >>> ((2 : Int32) &&& 31)) &&& (3 : Int32))), .val (Value.int pf), .val (Value.int df), .unset, .unset, .unset, .unset, .unset, .unset, .unset, .unset, .unset] []))
    refine own_bipush X0 hx hby at_42 ?_
    show own_G p e below s _ _ _ (s₁.setTop (mkF m 44 #[.val (Value.int x0), .val (Value.int x1), .val (Value.int x2), .val (Value.int x3), .val (Value.int (x2 &&& (3 : Int32))), .val (Value.int ((x2 >>> ((2 : Int32) &&& 31)) &&& (3 : Int32))), .val (Value.int pf), .val (Value.int df), .unset, .unset, .unset, .unset, .unset, .unset, .unset, .unset, .unset] [(Value.int (8 : Int32))]))
    obtain ⟨T1, h1, k1, X1, e1, E1, A1, st1⟩ := newP X0 hx hZ (aty := .int) (own_w0 hw) e0 (g := (mkF m 44 #[.val (Value.int x0), .val (Value.int x1), .val (Value.int x2), .val (Value.int x3), .val (Value.int (x2 &&& (3 : Int32))), .val (Value.int ((x2 >>> ((2 : Int32) &&& 31)) &&& (3 : Int32))), .val (Value.int pf), .val (Value.int df), .unset, .unset, .unset, .unset, .unset, .unset, .unset, .unset, .unset] [(Value.int (8 : Int32))])) rfl (hb hby at_44) rfl (by decide) (cap := 8) (by decide) (by decide) (by decide) (by decide)
    obtain ⟨ad1, g1⟩ : ∃ z, z = h0.size := ⟨_, rfl⟩
    rw [← g1] at A1 st1
    have O2 := Old.ext O0 E1
    have g1n : n0 ≤ ad1 := by rw [g1]; exact O0.1 ▸ O0.2.1
    have A1v : own_Ar Z h1 ad1 .int 8 (fun _ => (.int (0 : Int32))) := own_Ar.new A1 (by decide)
    refine own_st st1 ?_
    show own_G p e below s _ _ _ (T1.setTop (mkF m 46 #[.val (Value.int x0), .val (Value.int x1), .val (Value.int x2), .val (Value.int x3), .val (Value.int (x2 &&& (3 : Int32))), .val (Value.int ((x2 >>> ((2 : Int32) &&& 31)) &&& (3 : Int32))), .val (Value.int pf), .val (Value.int df), .unset, .unset, .unset, .unset, .unset, .unset, .unset, .unset, .unset] [(Value.ref ad1)]))
    refine own_astore X1 hx hby at_46 rfl (l' := #[.val (Value.int x0), .val (Value.int x1), .val (Value.int x2), .val (Value.int x3), .val (Value.int (x2 &&& (3 : Int32))), .val (Value.int ((x2 >>> ((2 : Int32) &&& 31)) &&& (3 : Int32))), .val (Value.int pf), .val (Value.int df), .val (Value.ref ad1), .unset, .unset, .unset, .unset, .unset, .unset, .unset, .unset]) rfl ?_
    show own_G p e below s _ _ _ (T1.setTop (mkF m 48 #[.val (Value.int x0), .val (Value.int x1), .val (Value.int x2), .val (Value.int x3), .val (Value.int (x2 &&& (3 : Int32))), .val (Value.int ((x2 >>> ((2 : Int32) &&& 31)) &&& (3 : Int32))), .val (Value.int pf), .val (Value.int df), .val (Value.ref ad1), .unset, .unset, .unset, .unset, .unset, .unset, .unset, .unset] []))
    refine own_iconst X1 hx hby at_48 ?_
    show own_G p e below s _ _ _ (T1.setTop (mkF m 49 #[.val (Value.int x0), .val (Value.int x1), .val (Value.int x2), .val (Value.int x3), .val (Value.int (x2 &&& (3 : Int32))), .val (Value.int ((x2 >>> ((2 : Int32) &&& 31)) &&& (3 : Int32))), .val (Value.int pf), .val (Value.int df), .val (Value.ref ad1), .unset, .unset, .unset, .unset, .unset, .unset, .unset, .unset] [(Value.int (0 : Int32))]))
    refine own_istore X1 hx hby at_49 (l' := #[.val (Value.int x0), .val (Value.int x1), .val (Value.int x2), .val (Value.int x3), .val (Value.int (x2 &&& (3 : Int32))), .val (Value.int ((x2 >>> ((2 : Int32) &&& 31)) &&& (3 : Int32))), .val (Value.int pf), .val (Value.int df), .val (Value.ref ad1), .val (Value.int (0 : Int32)), .unset, .unset, .unset, .unset, .unset, .unset, .unset]) rfl ?_
    show own_G p e below s _ _ _ (T1.setTop (mkF m 51 #[.val (Value.int x0), .val (Value.int x1), .val (Value.int x2), .val (Value.int x3), .val (Value.int (x2 &&& (3 : Int32))), .val (Value.int ((x2 >>> ((2 : Int32) &&& 31)) &&& (3 : Int32))), .val (Value.int pf), .val (Value.int df), .val (Value.ref ad1), .val (Value.int (0 : Int32)), .unset, .unset, .unset, .unset, .unset, .unset, .unset] []))
    refine own_iconst X1 hx hby at_51 ?_
    show own_G p e below s _ _ _ (T1.setTop (mkF m 52 #[.val (Value.int x0), .val (Value.int x1), .val (Value.int x2), .val (Value.int x3), .val (Value.int (x2 &&& (3 : Int32))), .val (Value.int ((x2 >>> ((2 : Int32) &&& 31)) &&& (3 : Int32))), .val (Value.int pf), .val (Value.int df), .val (Value.ref ad1), .val (Value.int (0 : Int32)), .unset, .unset, .unset, .unset, .unset, .unset, .unset] [(Value.int (0 : Int32))]))
    refine own_istore X1 hx hby at_52 (l' := #[.val (Value.int x0), .val (Value.int x1), .val (Value.int x2), .val (Value.int x3), .val (Value.int (x2 &&& (3 : Int32))), .val (Value.int ((x2 >>> ((2 : Int32) &&& 31)) &&& (3 : Int32))), .val (Value.int pf), .val (Value.int df), .val (Value.ref ad1), .val (Value.int (0 : Int32)), .val (Value.int (0 : Int32)), .unset, .unset, .unset, .unset, .unset, .unset]) rfl ?_
    show own_G p e below s _ _ _ (T1.setTop (mkF m 54 #[.val (Value.int x0), .val (Value.int x1), .val (Value.int x2), .val (Value.int x3), .val (Value.int (x2 &&& (3 : Int32))), .val (Value.int ((x2 >>> ((2 : Int32) &&& 31)) &&& (3 : Int32))), .val (Value.int pf), .val (Value.int df), .val (Value.ref ad1), .val (Value.int (0 : Int32)), .val (Value.int (0 : Int32)), .unset, .unset, .unset, .unset, .unset, .unset] []))
    generalize hra0 : (x2 &&& (3 : Int32)) = ra
    have hra : ra ∈ own_four := by rw [← hra0]; exact own_and3 _
    generalize hrb0 : ((x2 >>> ((2 : Int32) &&& 31)) &&& (3 : Int32)) = rb
    have hrb : rb ∈ own_four := by rw [← hrb0]; exact own_and3 _
    have Af : own_Ar Z h1 ad1 .int 8 (fun j => .int ((fun _ => (0 : Int32)) j)) := A1v
    have JA4 : ∀ (T3 : State) (h3 : Heap) (lo3 : List Loc) (f : Nat → Int32) (b0 b1 b2 b3 : Bool) (kA SA : Int32) (X3 : Stand p l e room_1 s m #[(Value.int x0), (Value.int x1), (Value.int x2), (Value.int x3)] below meth c T3 lo3 1 8) (e3 : T3.heap = h3) (N3 : Fr n0 lo3) (O3 : Old Z n0 h3) (A3_ad1 : own_Ar Z h3 ad1 .int 8 (fun j => .int (f j))) (hkA : kA.toInt = ((0 + (own_s4 ra b0 b1 b2 b3).length : Nat) : Int)) (hSA : SA = own_mask (own_s4 ra b0 b1 b2 b3)) (hfA : own_ag f 0 (own_s4 ra b0 b1 b2 b3)), own_G p e below s (own_rm0_Q Z x0 x1 x2 x3 h0 n0) 16 128 (T3.setTop (mkF m 171 #[.val (Value.int x0), .val (Value.int x1), .val (Value.int x2), .val (Value.int x3), .val (Value.int ra), .val (Value.int rb), .val (Value.int pf), .val (Value.int df), .val (Value.ref ad1), .val (Value.int kA), .val (Value.int SA), .unset, .unset, .unset, .unset, .unset, .unset] [])) := by
      intro T3 h3 lo3 f b0 b1 b2 b3 kA SA X3 e3 N3 O3 A3_ad1 hkA hSA hfA
      show own_G p e below s _ _ _ (T3.setTop (mkF m 171 #[.val (Value.int x0), .val (Value.int x1), .val (Value.int x2), .val (Value.int x3), .val (Value.int ra), .val (Value.int rb), .val (Value.int pf), .val (Value.int df), .val (Value.ref ad1), .val (Value.int kA), .val (Value.int SA), .unset, .unset, .unset, .unset, .unset, .unset] []))
      refine own_iload X3 hx hby at_171 rfl ?_
      show own_G p e below s _ _ _ (T3.setTop (mkF m 173 #[.val (Value.int x0), .val (Value.int x1), .val (Value.int x2), .val (Value.int x3), .val (Value.int ra), .val (Value.int rb), .val (Value.int pf), .val (Value.int df), .val (Value.ref ad1), .val (Value.int kA), .val (Value.int SA), .unset, .unset, .unset, .unset, .unset, .unset] [(Value.int kA)]))
      refine own_istore X3 hx hby at_173 (l' := #[.val (Value.int x0), .val (Value.int x1), .val (Value.int x2), .val (Value.int x3), .val (Value.int ra), .val (Value.int rb), .val (Value.int pf), .val (Value.int df), .val (Value.ref ad1), .val (Value.int kA), .val (Value.int SA), .val (Value.int kA), .unset, .unset, .unset, .unset, .unset]) rfl ?_
      show own_G p e below s _ _ _ (T3.setTop (mkF m 175 #[.val (Value.int x0), .val (Value.int x1), .val (Value.int x2), .val (Value.int x3), .val (Value.int ra), .val (Value.int rb), .val (Value.int pf), .val (Value.int df), .val (Value.ref ad1), .val (Value.int kA), .val (Value.int SA), .val (Value.int kA), .unset, .unset, .unset, .unset, .unset] []))
      refine own_iconst X3 hx hby at_175 ?_
      show own_G p e below s _ _ _ (T3.setTop (mkF m 176 #[.val (Value.int x0), .val (Value.int x1), .val (Value.int x2), .val (Value.int x3), .val (Value.int ra), .val (Value.int rb), .val (Value.int pf), .val (Value.int df), .val (Value.ref ad1), .val (Value.int kA), .val (Value.int SA), .val (Value.int kA), .unset, .unset, .unset, .unset, .unset] [(Value.int (4 : Int32))]))
      refine own_istore X3 hx hby at_176 (l' := #[.val (Value.int x0), .val (Value.int x1), .val (Value.int x2), .val (Value.int x3), .val (Value.int ra), .val (Value.int rb), .val (Value.int pf), .val (Value.int df), .val (Value.ref ad1), .val (Value.int kA), .val (Value.int SA), .val (Value.int kA), .val (Value.int (4 : Int32)), .unset, .unset, .unset, .unset]) rfl ?_
      show own_G p e below s _ _ _ (T3.setTop (mkF m 178 #[.val (Value.int x0), .val (Value.int x1), .val (Value.int x2), .val (Value.int x3), .val (Value.int ra), .val (Value.int rb), .val (Value.int pf), .val (Value.int df), .val (Value.ref ad1), .val (Value.int kA), .val (Value.int SA), .val (Value.int kA), .val (Value.int (4 : Int32)), .unset, .unset, .unset, .unset] []))
      refine own_iconst X3 hx hby at_178 ?_
      show own_G p e below s _ _ _ (T3.setTop (mkF m 179 #[.val (Value.int x0), .val (Value.int x1), .val (Value.int x2), .val (Value.int x3), .val (Value.int ra), .val (Value.int rb), .val (Value.int pf), .val (Value.int df), .val (Value.ref ad1), .val (Value.int kA), .val (Value.int SA), .val (Value.int kA), .val (Value.int (4 : Int32)), .unset, .unset, .unset, .unset] [(Value.int (0 : Int32))]))
      refine own_istore X3 hx hby at_179 (l' := #[.val (Value.int x0), .val (Value.int x1), .val (Value.int x2), .val (Value.int x3), .val (Value.int ra), .val (Value.int rb), .val (Value.int pf), .val (Value.int df), .val (Value.ref ad1), .val (Value.int kA), .val (Value.int SA), .val (Value.int kA), .val (Value.int (4 : Int32)), .val (Value.int (0 : Int32)), .unset, .unset, .unset]) rfl ?_
      show own_G p e below s _ _ _ (T3.setTop (mkF m 181 #[.val (Value.int x0), .val (Value.int x1), .val (Value.int x2), .val (Value.int x3), .val (Value.int ra), .val (Value.int rb), .val (Value.int pf), .val (Value.int df), .val (Value.ref ad1), .val (Value.int kA), .val (Value.int SA), .val (Value.int kA), .val (Value.int (4 : Int32)), .val (Value.int (0 : Int32)), .unset, .unset, .unset] []))
      have JB4 : ∀ (T4 : State) (h4 : Heap) (lo4 : List Loc) (f : Nat → Int32) (c0 c1 c2 c3 : Bool) (kB SB : Int32) (X4 : Stand p l e room_1 s m #[(Value.int x0), (Value.int x1), (Value.int x2), (Value.int x3)] below meth c T4 lo4 1 8) (e4 : T4.heap = h4) (N4 : Fr n0 lo4) (O4 : Old Z n0 h4) (A4_ad1 : own_Ar Z h4 ad1 .int 8 (fun j => .int (f j))) (hkB : kB.toInt = ((4 + (own_s4 rb c0 c1 c2 c3).length : Nat) : Int)) (hSB : SB = own_mask (own_s4 rb c0 c1 c2 c3)) (hfB : own_ag f 4 (own_s4 rb c0 c1 c2 c3)) (hfA : own_ag f 0 (own_s4 ra b0 b1 b2 b3)), own_G p e below s (own_rm0_Q Z x0 x1 x2 x3 h0 n0) 16 128 (T4.setTop (mkF m 298 #[.val (Value.int x0), .val (Value.int x1), .val (Value.int x2), .val (Value.int x3), .val (Value.int ra), .val (Value.int rb), .val (Value.int pf), .val (Value.int df), .val (Value.ref ad1), .val (Value.int kA), .val (Value.int SA), .val (Value.int kA), .val (Value.int kB), .val (Value.int SB), .unset, .unset, .unset] [])) := by
        intro T4 h4 lo4 f c0 c1 c2 c3 kB SB X4 e4 N4 O4 A4_ad1 hkB hSB hfB hfA
        show own_G p e below s _ _ _ (T4.setTop (mkF m 298 #[.val (Value.int x0), .val (Value.int x1), .val (Value.int x2), .val (Value.int x3), .val (Value.int ra), .val (Value.int rb), .val (Value.int pf), .val (Value.int df), .val (Value.ref ad1), .val (Value.int kA), .val (Value.int SA), .val (Value.int kA), .val (Value.int kB), .val (Value.int SB), .unset, .unset, .unset] []))
        obtain ⟨T5, h5, X5, e5, E5, A5, D5, -, st5⟩ := newO X4 hx hZ hown (own_w1 hw) (own_w2 hw) (own_w3 hw) e4 (g := (mkF m 298 #[.val (Value.int x0), .val (Value.int x1), .val (Value.int x2), .val (Value.int x3), .val (Value.int ra), .val (Value.int rb), .val (Value.int pf), .val (Value.int df), .val (Value.ref ad1), .val (Value.int kA), .val (Value.int SA), .val (Value.int kA), .val (Value.int kB), .val (Value.int SB), .unset, .unset, .unset] [])) rfl (hb hby at_298) (by decide) (by decide)
        obtain ⟨ad5, g5⟩ : ∃ z, z = h4.size := ⟨_, rfl⟩
        rw [← g5] at A5 D5 st5
        have ne5_ad1 : ad1 ≠ ad5 := by rw [g5]; exact Nat.ne_of_lt A4_ad1.lt
        have A6_ad1 := own_Ar.ext A4_ad1 E5
        have O6 := Old.ext O4 E5
        have g5n : n0 ≤ ad5 := by rw [g5]; exact O4.1 ▸ O4.2.1
        have F5_marks : Fld Z h5 ad5 "com/example/tuck/tuck/ListMarks" "marks" "[I" Value.null := D5 (Or.inr (own_w11 hw)) (ty := (.array .int)) (by decide)
        have F5_mark : Fld Z h5 ad5 "com/example/tuck/tuck/ListMarks" "mark" "I" (Value.int (0 : Int32)) := D5 (Or.inl (own_w18 hw)) (ty := .int) (by decide)
        have F5_length : Fld Z h5 ad5 "com/example/tuck/tuck/ListMarks" "length" "I" (Value.int (0 : Int32)) := D5 (Or.inl (own_w21 hw)) (ty := .int) (by decide)
        refine own_st st5 ?_
        show own_G p e below s _ _ _ (T5.setTop (mkF m 301 #[.val (Value.int x0), .val (Value.int x1), .val (Value.int x2), .val (Value.int x3), .val (Value.int ra), .val (Value.int rb), .val (Value.int pf), .val (Value.int df), .val (Value.ref ad1), .val (Value.int kA), .val (Value.int SA), .val (Value.int kA), .val (Value.int kB), .val (Value.int SB), .unset, .unset, .unset] [(Value.ref ad5)]))
        refine own_dup X5 hx hby at_301 rfl ?_
        show own_G p e below s _ _ _ (T5.setTop (mkF m 302 #[.val (Value.int x0), .val (Value.int x1), .val (Value.int x2), .val (Value.int x3), .val (Value.int ra), .val (Value.int rb), .val (Value.int pf), .val (Value.int df), .val (Value.ref ad1), .val (Value.int kA), .val (Value.int SA), .val (Value.int kA), .val (Value.int kB), .val (Value.int SB), .unset, .unset, .unset] [(Value.ref ad5), (Value.ref ad5)]))
        refine own_iconst X5 hx hby at_302 ?_
        show own_G p e below s _ _ _ (T5.setTop (mkF m 303 #[.val (Value.int x0), .val (Value.int x1), .val (Value.int x2), .val (Value.int x3), .val (Value.int ra), .val (Value.int rb), .val (Value.int pf), .val (Value.int df), .val (Value.ref ad1), .val (Value.int kA), .val (Value.int SA), .val (Value.int kA), .val (Value.int kB), .val (Value.int SB), .unset, .unset, .unset] [(Value.int (4 : Int32)), (Value.ref ad5), (Value.ref ad5)]))
        obtain ⟨_, _, ⟨T7, L7, k7, n7⟩, -, X7, ⟨Lc7, hQ7, l7, y7, z7⟩, st7⟩ := X5.specialBack hx (y := (⟨"com/example/tuck/tuck/ListMarks", "<init>", "(I)V"⟩ : MethodName)) rfl hown (mvT hZ (own_w4 hw)) (mvT hZ (own_w5 hw)) (mvT hZ (own_w6 hw)) (by decide) (backOf (W := 1) (own_rmI l Z a0 hw [] ad5 h5 n0 O6 A5 F5_marks F5_mark F5_length g5n) hZ (own_w6 hw) (own_w3 hw) (by decide) (by decide)) (g := (mkF m 303 #[.val (Value.int x0), .val (Value.int x1), .val (Value.int x2), .val (Value.int x3), .val (Value.int ra), .val (Value.int rb), .val (Value.int pf), .val (Value.int df), .val (Value.ref ad1), .val (Value.int kA), .val (Value.int SA), .val (Value.int kA), .val (Value.int kB), .val (Value.int SB), .unset, .unset, .unset] [(Value.int (4 : Int32)), (Value.ref ad5), (Value.ref ad5)])) rfl (by rw [hml]; rfl) (Steps.refl _) (a := ad5) (argsL := [(Value.int (4 : Int32))]) (rest := [(Value.ref ad5)]) (lenOf own_pd0 rfl) rfl (by show 2 * 0 + _ ≤ _; exact Nat.le_of_eq rfl) (hb hby at_303) (fun _ _ => ⟨rfl, e5, (by decide : (2 : Nat) + 1 ≤ _), (by decide : (11 : Nat) + 4 ≤ _)⟩)
        dsimp only [Pt.U, Pt.locs, Pt.cells, Pt.slots] at X7 l7 y7 z7 st7 hQ7
        subst l7 y7 z7
        obtain ⟨rfl, Nq7, Kq7, Eq7, mk, gmk, zmk, Fq7a, Fq7b, Fq7c, Aq7⟩ := hQ7
        have N7 := Fr.app N4 Nq7
        have nemk_ad1 : ad1 ≠ mk := Nat.ne_of_lt (Nat.lt_of_lt_of_le A6_ad1.lt zmk)
        have nemk_ad5 : ad5 ≠ mk := Nat.ne_of_lt (Nat.lt_of_lt_of_le F5_marks.lt zmk)
        have E8_ad5 := Exa.keep A5 Kq7
        have A8_ad1 := own_Ar.keep A6_ad1 Kq7 (ninS ne5_ad1 nin0)
        have O8 := Old.keep O6 Kq7 (allS g5n all0)
        have Mz : own_Ar Z T7.heap mk .int 4 (fun j => .int ((fun _ => (0 : Int32)) j)) := Aq7
        refine own_tr st7 ?_
        show own_G p e below s _ _ _ (T7.setTop (mkF m 306 #[.val (Value.int x0), .val (Value.int x1), .val (Value.int x2), .val (Value.int x3), .val (Value.int ra), .val (Value.int rb), .val (Value.int pf), .val (Value.int df), .val (Value.ref ad1), .val (Value.int kA), .val (Value.int SA), .val (Value.int kA), .val (Value.int kB), .val (Value.int SB), .unset, .unset, .unset] [(Value.ref ad5)]))
        refine own_astore X7 hx hby at_306 rfl (l' := #[.val (Value.int x0), .val (Value.int x1), .val (Value.int x2), .val (Value.int x3), .val (Value.int ra), .val (Value.int rb), .val (Value.int pf), .val (Value.int df), .val (Value.ref ad1), .val (Value.int kA), .val (Value.int SA), .val (Value.int kA), .val (Value.int kB), .val (Value.int SB), .val (Value.ref ad5), .unset, .unset]) rfl ?_
        show own_G p e below s _ _ _ (T7.setTop (mkF m 308 #[.val (Value.int x0), .val (Value.int x1), .val (Value.int x2), .val (Value.int x3), .val (Value.int ra), .val (Value.int rb), .val (Value.int pf), .val (Value.int df), .val (Value.ref ad1), .val (Value.int kA), .val (Value.int SA), .val (Value.int kA), .val (Value.int kB), .val (Value.int SB), .val (Value.ref ad5), .unset, .unset] []))
        have JX : ∀ (T9 : State) (h9 : Heap) (lo9 : List Loc) (MX : Nat → Int32) (uX lX SX : Int32) (X9 : Stand p l e room_1 s m #[(Value.int x0), (Value.int x1), (Value.int x2), (Value.int x3)] below meth c T9 lo9 3 15) (e9 : T9.heap = h9) (N9 : Fr n0 lo9) (O9 : Old Z n0 h9) (F9_ad5_marks : Fld Z h9 ad5 "com/example/tuck/tuck/ListMarks" "marks" "[I" (Value.ref mk)) (F9_ad5_mark : Fld Z h9 ad5 "com/example/tuck/tuck/ListMarks" "mark" "I" (Value.int uX)) (F9_ad5_length : Fld Z h9 ad5 "com/example/tuck/tuck/ListMarks" "length" "I" (Value.int lX)) (E9_ad5 : Exa Z h9 ad5 "com/example/tuck/tuck/ListMarks") (A9_ad1 : own_Ar Z h9 ad1 .int 8 (fun j => .int (f j))) (A9_mk : own_Ar Z h9 mk .int 4 (fun j => .int (MX j))) (HX : own_H MX uX lX SX), own_G p e below s (own_rm0_Q Z x0 x1 x2 x3 h0 n0) 16 128 (T9.setTop (mkF m 365 #[.val (Value.int x0), .val (Value.int x1), .val (Value.int x2), .val (Value.int x3), .val (Value.int ra), .val (Value.int rb), .val (Value.int pf), .val (Value.int df), .val (Value.ref ad1), .val (Value.int kA), .val (Value.int SX), .val (Value.int kA), .val (Value.int kB), .val (Value.int SB), .val (Value.ref ad5), .unset, .unset] [])) := by
          intro T9 h9 lo9 MX uX lX SX X9 e9 N9 O9 F9_ad5_marks F9_ad5_mark F9_ad5_length E9_ad5 A9_ad1 A9_mk HX
          show own_G p e below s _ _ _ (T9.setTop (mkF m 365 #[.val (Value.int x0), .val (Value.int x1), .val (Value.int x2), .val (Value.int x3), .val (Value.int ra), .val (Value.int rb), .val (Value.int pf), .val (Value.int df), .val (Value.ref ad1), .val (Value.int kA), .val (Value.int SX), .val (Value.int kA), .val (Value.int kB), .val (Value.int SB), .val (Value.ref ad5), .unset, .unset] []))
          refine own_iload X9 hx hby at_365 rfl ?_
          show own_G p e below s _ _ _ (T9.setTop (mkF m 367 #[.val (Value.int x0), .val (Value.int x1), .val (Value.int x2), .val (Value.int x3), .val (Value.int ra), .val (Value.int rb), .val (Value.int pf), .val (Value.int df), .val (Value.ref ad1), .val (Value.int kA), .val (Value.int SX), .val (Value.int kA), .val (Value.int kB), .val (Value.int SB), .val (Value.ref ad5), .unset, .unset] [(Value.int SX)]))
          refine own_iload X9 hx hby at_367 rfl ?_
          show own_G p e below s _ _ _ (T9.setTop (mkF m 369 #[.val (Value.int x0), .val (Value.int x1), .val (Value.int x2), .val (Value.int x3), .val (Value.int ra), .val (Value.int rb), .val (Value.int pf), .val (Value.int df), .val (Value.ref ad1), .val (Value.int kA), .val (Value.int SX), .val (Value.int kA), .val (Value.int kB), .val (Value.int SB), .val (Value.ref ad5), .unset, .unset] [(Value.int SB), (Value.int SX)]))
          refine own_ixor X9 hx hby at_369 ?_
          show own_G p e below s _ _ _ (T9.setTop (mkF m 370 #[.val (Value.int x0), .val (Value.int x1), .val (Value.int x2), .val (Value.int x3), .val (Value.int ra), .val (Value.int rb), .val (Value.int pf), .val (Value.int df), .val (Value.ref ad1), .val (Value.int kA), .val (Value.int SX), .val (Value.int kA), .val (Value.int kB), .val (Value.int SB), .val (Value.ref ad5), .unset, .unset] [(Value.int (SX ^^^ SB))]))
          obtain ⟨_, _, ⟨T10, L10, k10, n10⟩, -, X10, ⟨Lc10, hQ10, l10, y10, z10⟩, st10⟩ := Jvm.LawKit.callS X9 hx (y := (⟨"com/example/tuck/tuck/ListMarksDifferencesPinLaw", "bits", "(I)I"⟩ : MethodName)) hown (mvT hZ (own_w22 hw)) (mvT hZ (own_w23 hw)) (mvT hZ (own_w24 hw)) (mvT hZ (own_w25 hw)) (by decide) (backOf (W := 0) (own_rm4 l Z a0 hw [] (SX ^^^ SB)  h9 n0 O9  ) hZ (own_w25 hw) (own_w24 hw) (by decide) (by decide)) (g := (mkF m 370 #[.val (Value.int x0), .val (Value.int x1), .val (Value.int x2), .val (Value.int x3), .val (Value.int ra), .val (Value.int rb), .val (Value.int pf), .val (Value.int df), .val (Value.ref ad1), .val (Value.int kA), .val (Value.int SX), .val (Value.int kA), .val (Value.int kB), .val (Value.int SB), .val (Value.ref ad5), .unset, .unset] [(Value.int (SX ^^^ SB))])) rfl (by rw [hml]; rfl) (argsL := [(Value.int (SX ^^^ SB))]) (rest := []) (lenOf own_pd1 rfl) rfl (by show 2 * 0 + _ ≤ _; exact Nat.le_of_eq rfl) (hb hby at_370) (fun _ _ => ⟨rfl, e9, (by decide : (3 : Nat) + 0 ≤ _), (by decide : (15 : Nat) + 0 ≤ _)⟩)
          dsimp only [Pt.U, Pt.locs, Pt.cells, Pt.slots] at X10 l10 y10 z10 st10 hQ10
          subst l10 y10 z10
          obtain ⟨rfl, e10, Nq10⟩ := hQ10
          have N10 := Fr.app N9 Nq10
          refine own_st st10 ?_
          show own_G p e below s _ _ _ (T10.setTop (mkF m 373 #[.val (Value.int x0), .val (Value.int x1), .val (Value.int x2), .val (Value.int x3), .val (Value.int ra), .val (Value.int rb), .val (Value.int pf), .val (Value.int df), .val (Value.ref ad1), .val (Value.int kA), .val (Value.int SX), .val (Value.int kA), .val (Value.int kB), .val (Value.int SB), .val (Value.ref ad5), .unset, .unset] [(Value.int (own_bits (SX ^^^ SB)))]))
          refine own_istore X10 hx hby at_373 (l' := #[.val (Value.int x0), .val (Value.int x1), .val (Value.int x2), .val (Value.int x3), .val (Value.int ra), .val (Value.int rb), .val (Value.int pf), .val (Value.int df), .val (Value.ref ad1), .val (Value.int kA), .val (Value.int SX), .val (Value.int kA), .val (Value.int kB), .val (Value.int SB), .val (Value.ref ad5), .val (Value.int (own_bits (SX ^^^ SB))), .unset]) rfl ?_
          show own_G p e below s _ _ _ (T10.setTop (mkF m 375 #[.val (Value.int x0), .val (Value.int x1), .val (Value.int x2), .val (Value.int x3), .val (Value.int ra), .val (Value.int rb), .val (Value.int pf), .val (Value.int df), .val (Value.ref ad1), .val (Value.int kA), .val (Value.int SX), .val (Value.int kA), .val (Value.int kB), .val (Value.int SB), .val (Value.ref ad5), .val (Value.int (own_bits (SX ^^^ SB))), .unset] []))
          refine own_aload X10 hx hby at_375 rfl rfl ?_
          show own_G p e below s _ _ _ (T10.setTop (mkF m 377 #[.val (Value.int x0), .val (Value.int x1), .val (Value.int x2), .val (Value.int x3), .val (Value.int ra), .val (Value.int rb), .val (Value.int pf), .val (Value.int df), .val (Value.ref ad1), .val (Value.int kA), .val (Value.int SX), .val (Value.int kA), .val (Value.int kB), .val (Value.int SB), .val (Value.ref ad5), .val (Value.int (own_bits (SX ^^^ SB))), .unset] [(Value.ref ad5)]))
          refine own_aload X10 hx hby at_377 rfl rfl ?_
          show own_G p e below s _ _ _ (T10.setTop (mkF m 379 #[.val (Value.int x0), .val (Value.int x1), .val (Value.int x2), .val (Value.int x3), .val (Value.int ra), .val (Value.int rb), .val (Value.int pf), .val (Value.int df), .val (Value.ref ad1), .val (Value.int kA), .val (Value.int SX), .val (Value.int kA), .val (Value.int kB), .val (Value.int SB), .val (Value.ref ad5), .val (Value.int (own_bits (SX ^^^ SB))), .unset] [(Value.ref ad1), (Value.ref ad5)]))
          refine own_iconst X10 hx hby at_379 ?_
          show own_G p e below s _ _ _ (T10.setTop (mkF m 380 #[.val (Value.int x0), .val (Value.int x1), .val (Value.int x2), .val (Value.int x3), .val (Value.int ra), .val (Value.int rb), .val (Value.int pf), .val (Value.int df), .val (Value.ref ad1), .val (Value.int kA), .val (Value.int SX), .val (Value.int kA), .val (Value.int kB), .val (Value.int SB), .val (Value.ref ad5), .val (Value.int (own_bits (SX ^^^ SB))), .unset] [(Value.int (4 : Int32)), (Value.ref ad1), (Value.ref ad5)]))
          refine own_iload X10 hx hby at_380 rfl ?_
          show own_G p e below s _ _ _ (T10.setTop (mkF m 382 #[.val (Value.int x0), .val (Value.int x1), .val (Value.int x2), .val (Value.int x3), .val (Value.int ra), .val (Value.int rb), .val (Value.int pf), .val (Value.int df), .val (Value.ref ad1), .val (Value.int kA), .val (Value.int SX), .val (Value.int kA), .val (Value.int kB), .val (Value.int SB), .val (Value.ref ad5), .val (Value.int (own_bits (SX ^^^ SB))), .unset] [(Value.int kB), (Value.int (4 : Int32)), (Value.ref ad1), (Value.ref ad5)]))
          refine own_iloadN X10 hx hby at_382 rfl ?_
          show own_G p e below s _ _ _ (T10.setTop (mkF m 383 #[.val (Value.int x0), .val (Value.int x1), .val (Value.int x2), .val (Value.int x3), .val (Value.int ra), .val (Value.int rb), .val (Value.int pf), .val (Value.int df), .val (Value.ref ad1), .val (Value.int kA), .val (Value.int SX), .val (Value.int kA), .val (Value.int kB), .val (Value.int SB), .val (Value.ref ad5), .val (Value.int (own_bits (SX ^^^ SB))), .unset] [(Value.int x3), (Value.int kB), (Value.int (4 : Int32)), (Value.ref ad1), (Value.ref ad5)]))
          obtain ⟨cq11, kq11, q11a, q11b, q11c⟩ := isOf (T := T10) hZ e10 E9_ad5
          obtain ⟨_, _, ⟨T11, L11, k11, n11⟩, -, X11, ⟨Lc11, hQ11, l11, y11, z11⟩, st11⟩ := X10.virtualBack hx (y := (⟨"com/example/tuck/tuck/ListMarks", "differences", "([IIII)I"⟩ : MethodName)) (z := (⟨"com/example/tuck/tuck/ListMarks", "differences", "([IIII)I"⟩ : MethodName)) hown (mvT hZ (own_w26 hw)) (mvT hZ (own_w27 hw)) (notFace_of_selects (args := #[]) (mvT hZ (own_w29 hw))) (mvT hZ (own_w29 hw)) (mvT hZ (own_w28 hw)) (by decide) (backOf (W := 0) (own_rmD l Z a0 hw [] ad5 ad1 (4 : Int32) kB x3 mk uX lX MX f 4 (own_s4 rb c0 c1 c2 c3).length h9 n0 O9 F9_ad5_marks F9_ad5_mark F9_ad5_length A9_mk A9_ad1 (by decide) hkB (by have := own_l4 rb c0 c1 c2 c3; omega) (fun j h1 h2 => own_rng hrb trivial hfB h1 h2)) hZ (own_w30 hw) (own_w3 hw) (by decide) (by decide)) q11a q11c (g := (mkF m 383 #[.val (Value.int x0), .val (Value.int x1), .val (Value.int x2), .val (Value.int x3), .val (Value.int ra), .val (Value.int rb), .val (Value.int pf), .val (Value.int df), .val (Value.ref ad1), .val (Value.int kA), .val (Value.int SX), .val (Value.int kA), .val (Value.int kB), .val (Value.int SB), .val (Value.ref ad5), .val (Value.int (own_bits (SX ^^^ SB))), .unset] [(Value.int x3), (Value.int kB), (Value.int (4 : Int32)), (Value.ref ad1), (Value.ref ad5)])) rfl (by rw [hml]; rfl) (Steps.refl _) (argsL := [(Value.ref ad1), (Value.int (4 : Int32)), (Value.int kB), (Value.int x3)]) (rest := []) (lenOf own_pd2 rfl) rfl (by show 2 * 0 + _ ≤ _; exact Nat.le_of_eq rfl) (hb hby at_383) (fun _ _ => ⟨rfl, e10, (by decide : (3 : Nat) + 0 ≤ _), (by decide : (15 : Nat) + 0 ≤ _)⟩)
          dsimp only [Pt.U, Pt.locs, Pt.cells, Pt.slots] at X11 l11 y11 z11 st11 hQ11
          subst l11 y11 z11
          obtain ⟨rfl, e11, Nq11⟩ := hQ11
          have N11 := Fr.app N10 Nq11
          refine own_tr st11 ?_
          show own_G p e below s _ _ _ (T11.setTop (mkF m 386 #[.val (Value.int x0), .val (Value.int x1), .val (Value.int x2), .val (Value.int x3), .val (Value.int ra), .val (Value.int rb), .val (Value.int pf), .val (Value.int df), .val (Value.ref ad1), .val (Value.int kA), .val (Value.int SX), .val (Value.int kA), .val (Value.int kB), .val (Value.int SB), .val (Value.ref ad5), .val (Value.int (own_bits (SX ^^^ SB))), .unset] [(Value.int (own_run (own_bl MX f uX 4 (own_s4 rb c0 c1 c2 c3).length) (lX - (kB - (4 : Int32))) x3))]))
          refine own_istore X11 hx hby at_386 (l' := #[.val (Value.int x0), .val (Value.int x1), .val (Value.int x2), .val (Value.int x3), .val (Value.int ra), .val (Value.int rb), .val (Value.int pf), .val (Value.int df), .val (Value.ref ad1), .val (Value.int kA), .val (Value.int SX), .val (Value.int kA), .val (Value.int kB), .val (Value.int SB), .val (Value.ref ad5), .val (Value.int (own_bits (SX ^^^ SB))), .val (Value.int (own_run (own_bl MX f uX 4 (own_s4 rb c0 c1 c2 c3).length) (lX - (kB - (4 : Int32))) x3))]) rfl ?_
          show own_G p e below s _ _ _ (T11.setTop (mkF m 388 #[.val (Value.int x0), .val (Value.int x1), .val (Value.int x2), .val (Value.int x3), .val (Value.int ra), .val (Value.int rb), .val (Value.int pf), .val (Value.int df), .val (Value.ref ad1), .val (Value.int kA), .val (Value.int SX), .val (Value.int kA), .val (Value.int kB), .val (Value.int SB), .val (Value.ref ad5), .val (Value.int (own_bits (SX ^^^ SB))), .val (Value.int (own_run (own_bl MX f uX 4 (own_s4 rb c0 c1 c2 c3).length) (lX - (kB - (4 : Int32))) x3))] []))
          refine own_iload X11 hx hby at_388 rfl ?_
          show own_G p e below s _ _ _ (T11.setTop (mkF m 390 #[.val (Value.int x0), .val (Value.int x1), .val (Value.int x2), .val (Value.int x3), .val (Value.int ra), .val (Value.int rb), .val (Value.int pf), .val (Value.int df), .val (Value.ref ad1), .val (Value.int kA), .val (Value.int SX), .val (Value.int kA), .val (Value.int kB), .val (Value.int SB), .val (Value.ref ad5), .val (Value.int (own_bits (SX ^^^ SB))), .val (Value.int (own_run (own_bl MX f uX 4 (own_s4 rb c0 c1 c2 c3).length) (lX - (kB - (4 : Int32))) x3))] [(Value.int (own_bits (SX ^^^ SB)))]))
          refine own_iloadN X11 hx hby at_390 rfl ?_
          show own_G p e below s _ _ _ (T11.setTop (mkF m 391 #[.val (Value.int x0), .val (Value.int x1), .val (Value.int x2), .val (Value.int x3), .val (Value.int ra), .val (Value.int rb), .val (Value.int pf), .val (Value.int df), .val (Value.ref ad1), .val (Value.int kA), .val (Value.int SX), .val (Value.int kA), .val (Value.int kB), .val (Value.int SB), .val (Value.ref ad5), .val (Value.int (own_bits (SX ^^^ SB))), .val (Value.int (own_run (own_bl MX f uX 4 (own_s4 rb c0 c1 c2 c3).length) (lX - (kB - (4 : Int32))) x3))] [(Value.int x3), (Value.int (own_bits (SX ^^^ SB)))]))
          have hlB : (kB - (4 : Int32)) = (own_s4 rb c0 c1 c2 c3).length.toInt32 := Int32.toInt_inj.mp (by have q := c_isub kB (4 : Int32); have r := rng32 (kB - (4 : Int32)); have h4 := own_l4 rb c0 c1 c2 c3; rw [len_toInt (by omega)]; simp only [Int32.reduceToInt] at q; omega)
          have LW := own_law hrb HX hfB x3
          rw [← hlB, ← hSB] at LW
          refine own_icmp_ge X11 hx hby at_391 (pc' := 407) (by decide) (by decide) (fun hb12 => ?_) (fun hb12 => ?_)
          · show own_G p e below s _ _ _ (T11.setTop (mkF m 407 #[.val (Value.int x0), .val (Value.int x1), .val (Value.int x2), .val (Value.int x3), .val (Value.int ra), .val (Value.int rb), .val (Value.int pf), .val (Value.int df), .val (Value.ref ad1), .val (Value.int kA), .val (Value.int SX), .val (Value.int kA), .val (Value.int kB), .val (Value.int SB), .val (Value.ref ad5), .val (Value.int (own_bits (SX ^^^ SB))), .val (Value.int (own_run (own_bl MX f uX 4 (own_s4 rb c0 c1 c2 c3).length) (lX - (kB - (4 : Int32))) x3))] []))
            refine own_iloadN X11 hx hby at_407 rfl ?_
            show own_G p e below s _ _ _ (T11.setTop (mkF m 408 #[.val (Value.int x0), .val (Value.int x1), .val (Value.int x2), .val (Value.int x3), .val (Value.int ra), .val (Value.int rb), .val (Value.int pf), .val (Value.int df), .val (Value.ref ad1), .val (Value.int kA), .val (Value.int SX), .val (Value.int kA), .val (Value.int kB), .val (Value.int SB), .val (Value.ref ad5), .val (Value.int (own_bits (SX ^^^ SB))), .val (Value.int (own_run (own_bl MX f uX 4 (own_s4 rb c0 c1 c2 c3).length) (lX - (kB - (4 : Int32))) x3))] [(Value.int x3)]))
            refine own_iload X11 hx hby at_408 rfl ?_
            show own_G p e below s _ _ _ (T11.setTop (mkF m 410 #[.val (Value.int x0), .val (Value.int x1), .val (Value.int x2), .val (Value.int x3), .val (Value.int ra), .val (Value.int rb), .val (Value.int pf), .val (Value.int df), .val (Value.ref ad1), .val (Value.int kA), .val (Value.int SX), .val (Value.int kA), .val (Value.int kB), .val (Value.int SB), .val (Value.ref ad5), .val (Value.int (own_bits (SX ^^^ SB))), .val (Value.int (own_run (own_bl MX f uX 4 (own_s4 rb c0 c1 c2 c3).length) (lX - (kB - (4 : Int32))) x3))] [(Value.int (own_run (own_bl MX f uX 4 (own_s4 rb c0 c1 c2 c3).length) (lX - (kB - (4 : Int32))) x3)), (Value.int x3)]))
            refine own_icmp_gt X11 hx hby at_410 (pc' := 424) (by decide) (by decide) (fun hb13 => by exfalso; exact (LW.2 hb12).1 hb13) (fun hb13 => ?_)
            show own_G p e below s _ _ _ (T11.setTop (mkF m 413 #[.val (Value.int x0), .val (Value.int x1), .val (Value.int x2), .val (Value.int x3), .val (Value.int ra), .val (Value.int rb), .val (Value.int pf), .val (Value.int df), .val (Value.ref ad1), .val (Value.int kA), .val (Value.int SX), .val (Value.int kA), .val (Value.int kB), .val (Value.int SB), .val (Value.ref ad5), .val (Value.int (own_bits (SX ^^^ SB))), .val (Value.int (own_run (own_bl MX f uX 4 (own_s4 rb c0 c1 c2 c3).length) (lX - (kB - (4 : Int32))) x3))] []))
            refine own_iload X11 hx hby at_413 rfl ?_
            show own_G p e below s _ _ _ (T11.setTop (mkF m 415 #[.val (Value.int x0), .val (Value.int x1), .val (Value.int x2), .val (Value.int x3), .val (Value.int ra), .val (Value.int rb), .val (Value.int pf), .val (Value.int df), .val (Value.ref ad1), .val (Value.int kA), .val (Value.int SX), .val (Value.int kA), .val (Value.int kB), .val (Value.int SB), .val (Value.ref ad5), .val (Value.int (own_bits (SX ^^^ SB))), .val (Value.int (own_run (own_bl MX f uX 4 (own_s4 rb c0 c1 c2 c3).length) (lX - (kB - (4 : Int32))) x3))] [(Value.int (own_run (own_bl MX f uX 4 (own_s4 rb c0 c1 c2 c3).length) (lX - (kB - (4 : Int32))) x3))]))
            refine own_iload X11 hx hby at_415 rfl ?_
            show own_G p e below s _ _ _ (T11.setTop (mkF m 417 #[.val (Value.int x0), .val (Value.int x1), .val (Value.int x2), .val (Value.int x3), .val (Value.int ra), .val (Value.int rb), .val (Value.int pf), .val (Value.int df), .val (Value.ref ad1), .val (Value.int kA), .val (Value.int SX), .val (Value.int kA), .val (Value.int kB), .val (Value.int SB), .val (Value.ref ad5), .val (Value.int (own_bits (SX ^^^ SB))), .val (Value.int (own_run (own_bl MX f uX 4 (own_s4 rb c0 c1 c2 c3).length) (lX - (kB - (4 : Int32))) x3))] [(Value.int (own_bits (SX ^^^ SB))), (Value.int (own_run (own_bl MX f uX 4 (own_s4 rb c0 c1 c2 c3).length) (lX - (kB - (4 : Int32))) x3))]))
            refine own_icmp_gt X11 hx hby at_417 (pc' := 424) (by decide) (by decide) (fun hb14 => by exfalso; exact (LW.2 hb12).2 hb14) (fun hb14 => ?_)
            show own_G p e below s _ _ _ (T11.setTop (mkF m 420 #[.val (Value.int x0), .val (Value.int x1), .val (Value.int x2), .val (Value.int x3), .val (Value.int ra), .val (Value.int rb), .val (Value.int pf), .val (Value.int df), .val (Value.ref ad1), .val (Value.int kA), .val (Value.int SX), .val (Value.int kA), .val (Value.int kB), .val (Value.int SB), .val (Value.ref ad5), .val (Value.int (own_bits (SX ^^^ SB))), .val (Value.int (own_run (own_bl MX f uX 4 (own_s4 rb c0 c1 c2 c3).length) (lX - (kB - (4 : Int32))) x3))] []))
            refine own_iconst X11 hx hby at_420 ?_
            show own_G p e below s _ _ _ (T11.setTop (mkF m 421 #[.val (Value.int x0), .val (Value.int x1), .val (Value.int x2), .val (Value.int x3), .val (Value.int ra), .val (Value.int rb), .val (Value.int pf), .val (Value.int df), .val (Value.ref ad1), .val (Value.int kA), .val (Value.int SX), .val (Value.int kA), .val (Value.int kB), .val (Value.int SB), .val (Value.ref ad5), .val (Value.int (own_bits (SX ^^^ SB))), .val (Value.int (own_run (own_bl MX f uX 4 (own_s4 rb c0 c1 c2 c3).length) (lX - (kB - (4 : Int32))) x3))] [(Value.int (1 : Int32))]))
            refine own_goto X11 hx hby at_421 (pc' := 425) (by decide) (by decide) ?_
            show own_G p e below s _ _ _ (T11.setTop (mkF m 425 #[.val (Value.int x0), .val (Value.int x1), .val (Value.int x2), .val (Value.int x3), .val (Value.int ra), .val (Value.int rb), .val (Value.int pf), .val (Value.int df), .val (Value.ref ad1), .val (Value.int kA), .val (Value.int SX), .val (Value.int kA), .val (Value.int kB), .val (Value.int SB), .val (Value.ref ad5), .val (Value.int (own_bits (SX ^^^ SB))), .val (Value.int (own_run (own_bl MX f uX 4 (own_s4 rb c0 c1 c2 c3).length) (lX - (kB - (4 : Int32))) x3))] [(Value.int (1 : Int32))]))
            refine own_retN X11 hx hby hlk (t := .boolean) Bd.returns (by simp) at_425 (by decide) (by decide) ?_
            exact ⟨rfl, N11⟩
          · show own_G p e below s _ _ _ (T11.setTop (mkF m 394 #[.val (Value.int x0), .val (Value.int x1), .val (Value.int x2), .val (Value.int x3), .val (Value.int ra), .val (Value.int rb), .val (Value.int pf), .val (Value.int df), .val (Value.ref ad1), .val (Value.int kA), .val (Value.int SX), .val (Value.int kA), .val (Value.int kB), .val (Value.int SB), .val (Value.ref ad5), .val (Value.int (own_bits (SX ^^^ SB))), .val (Value.int (own_run (own_bl MX f uX 4 (own_s4 rb c0 c1 c2 c3).length) (lX - (kB - (4 : Int32))) x3))] []))
            refine own_iload X11 hx hby at_394 rfl ?_
            show own_G p e below s _ _ _ (T11.setTop (mkF m 396 #[.val (Value.int x0), .val (Value.int x1), .val (Value.int x2), .val (Value.int x3), .val (Value.int ra), .val (Value.int rb), .val (Value.int pf), .val (Value.int df), .val (Value.ref ad1), .val (Value.int kA), .val (Value.int SX), .val (Value.int kA), .val (Value.int kB), .val (Value.int SB), .val (Value.ref ad5), .val (Value.int (own_bits (SX ^^^ SB))), .val (Value.int (own_run (own_bl MX f uX 4 (own_s4 rb c0 c1 c2 c3).length) (lX - (kB - (4 : Int32))) x3))] [(Value.int (own_run (own_bl MX f uX 4 (own_s4 rb c0 c1 c2 c3).length) (lX - (kB - (4 : Int32))) x3))]))
            refine own_iload X11 hx hby at_396 rfl ?_
            show own_G p e below s _ _ _ (T11.setTop (mkF m 398 #[.val (Value.int x0), .val (Value.int x1), .val (Value.int x2), .val (Value.int x3), .val (Value.int ra), .val (Value.int rb), .val (Value.int pf), .val (Value.int df), .val (Value.ref ad1), .val (Value.int kA), .val (Value.int SX), .val (Value.int kA), .val (Value.int kB), .val (Value.int SB), .val (Value.ref ad5), .val (Value.int (own_bits (SX ^^^ SB))), .val (Value.int (own_run (own_bl MX f uX 4 (own_s4 rb c0 c1 c2 c3).length) (lX - (kB - (4 : Int32))) x3))] [(Value.int (own_bits (SX ^^^ SB))), (Value.int (own_run (own_bl MX f uX 4 (own_s4 rb c0 c1 c2 c3).length) (lX - (kB - (4 : Int32))) x3))]))
            refine own_icmp_ne X11 hx hby at_398 (pc' := 405) (by decide) (by decide) (fun hb15 => by exfalso; exact hb15 (LW.1 hb12)) (fun hb15 => ?_)
            show own_G p e below s _ _ _ (T11.setTop (mkF m 401 #[.val (Value.int x0), .val (Value.int x1), .val (Value.int x2), .val (Value.int x3), .val (Value.int ra), .val (Value.int rb), .val (Value.int pf), .val (Value.int df), .val (Value.ref ad1), .val (Value.int kA), .val (Value.int SX), .val (Value.int kA), .val (Value.int kB), .val (Value.int SB), .val (Value.ref ad5), .val (Value.int (own_bits (SX ^^^ SB))), .val (Value.int (own_run (own_bl MX f uX 4 (own_s4 rb c0 c1 c2 c3).length) (lX - (kB - (4 : Int32))) x3))] []))
            refine own_iconst X11 hx hby at_401 ?_
            show own_G p e below s _ _ _ (T11.setTop (mkF m 402 #[.val (Value.int x0), .val (Value.int x1), .val (Value.int x2), .val (Value.int x3), .val (Value.int ra), .val (Value.int rb), .val (Value.int pf), .val (Value.int df), .val (Value.ref ad1), .val (Value.int kA), .val (Value.int SX), .val (Value.int kA), .val (Value.int kB), .val (Value.int SB), .val (Value.ref ad5), .val (Value.int (own_bits (SX ^^^ SB))), .val (Value.int (own_run (own_bl MX f uX 4 (own_s4 rb c0 c1 c2 c3).length) (lX - (kB - (4 : Int32))) x3))] [(Value.int (1 : Int32))]))
            refine own_goto X11 hx hby at_402 (pc' := 406) (by decide) (by decide) ?_
            show own_G p e below s _ _ _ (T11.setTop (mkF m 406 #[.val (Value.int x0), .val (Value.int x1), .val (Value.int x2), .val (Value.int x3), .val (Value.int ra), .val (Value.int rb), .val (Value.int pf), .val (Value.int df), .val (Value.ref ad1), .val (Value.int kA), .val (Value.int SX), .val (Value.int kA), .val (Value.int kB), .val (Value.int SB), .val (Value.ref ad5), .val (Value.int (own_bits (SX ^^^ SB))), .val (Value.int (own_run (own_bl MX f uX 4 (own_s4 rb c0 c1 c2 c3).length) (lX - (kB - (4 : Int32))) x3))] [(Value.int (1 : Int32))]))
            refine own_retN X11 hx hby hlk (t := .boolean) Bd.returns (by simp) at_406 (by decide) (by decide) ?_
            exact ⟨rfl, N11⟩
        show own_G p e below s _ _ _ (T7.setTop (mkF m 308 #[.val (Value.int x0), .val (Value.int x1), .val (Value.int x2), .val (Value.int x3), .val (Value.int ra), .val (Value.int rb), .val (Value.int pf), .val (Value.int df), .val (Value.ref ad1), .val (Value.int kA), .val (Value.int SA), .val (Value.int kA), .val (Value.int kB), .val (Value.int SB), .val (Value.ref ad5), .unset, .unset] []))
        refine own_iload X7 hx hby at_308 rfl ?_
        show own_G p e below s _ _ _ (T7.setTop (mkF m 310 #[.val (Value.int x0), .val (Value.int x1), .val (Value.int x2), .val (Value.int x3), .val (Value.int ra), .val (Value.int rb), .val (Value.int pf), .val (Value.int df), .val (Value.ref ad1), .val (Value.int kA), .val (Value.int SA), .val (Value.int kA), .val (Value.int kB), .val (Value.int SB), .val (Value.ref ad5), .unset, .unset] [(Value.int pf)]))
        refine own_if_eq X7 hx hby at_310 (pc' := 323) (by decide) (by decide) (fun hb16 => ?_) (fun hb16 => ?_)
        · show own_G p e below s _ _ _ (T7.setTop (mkF m 323 #[.val (Value.int x0), .val (Value.int x1), .val (Value.int x2), .val (Value.int x3), .val (Value.int ra), .val (Value.int rb), .val (Value.int pf), .val (Value.int df), .val (Value.ref ad1), .val (Value.int kA), .val (Value.int SA), .val (Value.int kA), .val (Value.int kB), .val (Value.int SB), .val (Value.ref ad5), .unset, .unset] []))
          refine own_aload X7 hx hby at_323 rfl rfl ?_
          show own_G p e below s _ _ _ (T7.setTop (mkF m 325 #[.val (Value.int x0), .val (Value.int x1), .val (Value.int x2), .val (Value.int x3), .val (Value.int ra), .val (Value.int rb), .val (Value.int pf), .val (Value.int df), .val (Value.ref ad1), .val (Value.int kA), .val (Value.int SA), .val (Value.int kA), .val (Value.int kB), .val (Value.int SB), .val (Value.ref ad5), .unset, .unset] [(Value.ref ad5)]))
          refine own_aload X7 hx hby at_325 rfl rfl ?_
          show own_G p e below s _ _ _ (T7.setTop (mkF m 327 #[.val (Value.int x0), .val (Value.int x1), .val (Value.int x2), .val (Value.int x3), .val (Value.int ra), .val (Value.int rb), .val (Value.int pf), .val (Value.int df), .val (Value.ref ad1), .val (Value.int kA), .val (Value.int SA), .val (Value.int kA), .val (Value.int kB), .val (Value.int SB), .val (Value.ref ad5), .unset, .unset] [(Value.ref ad1), (Value.ref ad5)]))
          refine own_iconst X7 hx hby at_327 ?_
          show own_G p e below s _ _ _ (T7.setTop (mkF m 328 #[.val (Value.int x0), .val (Value.int x1), .val (Value.int x2), .val (Value.int x3), .val (Value.int ra), .val (Value.int rb), .val (Value.int pf), .val (Value.int df), .val (Value.ref ad1), .val (Value.int kA), .val (Value.int SA), .val (Value.int kA), .val (Value.int kB), .val (Value.int SB), .val (Value.ref ad5), .unset, .unset] [(Value.int (0 : Int32)), (Value.ref ad1), (Value.ref ad5)]))
          refine own_iload X7 hx hby at_328 rfl ?_
          show own_G p e below s _ _ _ (T7.setTop (mkF m 330 #[.val (Value.int x0), .val (Value.int x1), .val (Value.int x2), .val (Value.int x3), .val (Value.int ra), .val (Value.int rb), .val (Value.int pf), .val (Value.int df), .val (Value.ref ad1), .val (Value.int kA), .val (Value.int SA), .val (Value.int kA), .val (Value.int kB), .val (Value.int SB), .val (Value.ref ad5), .unset, .unset] [(Value.int kA), (Value.int (0 : Int32)), (Value.ref ad1), (Value.ref ad5)]))
          obtain ⟨cq17, kq17, q17a, q17b, q17c⟩ := isOf (T := T7) hZ rfl Eq7
          obtain ⟨_, _, ⟨T17, L17, k17, n17⟩, -, X17, ⟨Lc17, hQ17, l17, y17, z17⟩, st17⟩ := X7.virtualBack hx (y := (⟨"com/example/tuck/tuck/ListMarks", "mark", "([III)V"⟩ : MethodName)) (z := (⟨"com/example/tuck/tuck/ListMarks", "mark", "([III)V"⟩ : MethodName)) hown (mvT hZ (own_w12 hw)) (mvT hZ (own_w13 hw)) (notFace_of_selects (args := #[]) (mvT hZ (own_w15 hw))) (mvT hZ (own_w15 hw)) (mvT hZ (own_w14 hw)) (by decide) (backOf (W := 0) (own_rmK l Z a0 hw [] ad5 ad1 (0 : Int32) kA mk (0 : Int32) (0 : Int32) (fun _ => (0 : Int32)) f 0 (own_s4 ra b0 b1 b2 b3).length T7.heap n0 O8 Eq7 Fq7a Fq7b Fq7c g5n Mz A8_ad1 gmk nemk_ad1 nemk_ad5 (Ne.symm ne5_ad1) (by decide) hkA (by have := own_l4 ra b0 b1 b2 b3; omega) (fun j h1 h2 => own_rng hra trivial hfA h1 h2) (by decide)) hZ (own_w16 hw) (own_w3 hw) (by decide) (by decide)) q17a q17c (g := (mkF m 330 #[.val (Value.int x0), .val (Value.int x1), .val (Value.int x2), .val (Value.int x3), .val (Value.int ra), .val (Value.int rb), .val (Value.int pf), .val (Value.int df), .val (Value.ref ad1), .val (Value.int kA), .val (Value.int SA), .val (Value.int kA), .val (Value.int kB), .val (Value.int SB), .val (Value.ref ad5), .unset, .unset] [(Value.int kA), (Value.int (0 : Int32)), (Value.ref ad1), (Value.ref ad5)])) rfl (by rw [hml]; rfl) (Steps.refl _) (argsL := [(Value.ref ad1), (Value.int (0 : Int32)), (Value.int kA)]) (rest := []) (lenOf own_pd3 rfl) rfl (by show 2 * 0 + _ ≤ _; exact Nat.le_of_eq rfl) (hb hby at_330) (fun _ _ => ⟨rfl, rfl, (by decide : (3 : Nat) + 0 ≤ _), (by decide : (15 : Nat) + 0 ≤ _)⟩)
          dsimp only [Pt.U, Pt.locs, Pt.cells, Pt.slots] at X17 l17 y17 z17 st17 hQ17
          subst l17 y17 z17
          obtain ⟨rfl, Nq17, Kq17, Fq17a, Fq17b, Fq17c, Aq17⟩ := hQ17
          have N17 := Fr.app N7 Nq17
          have E18_ad5 := Exa.keep Eq7 Kq17
          have A18_ad1 := own_Ar.keep A8_ad1 Kq17 (ninS ne5_ad1 (ninS nemk_ad1 nin0))
          have O18 := Old.keep O8 Kq17 (allS g5n (allS gmk all0))
          refine own_tr st17 ?_
          show own_G p e below s _ _ _ (T17.setTop (mkF m 333 #[.val (Value.int x0), .val (Value.int x1), .val (Value.int x2), .val (Value.int x3), .val (Value.int ra), .val (Value.int rb), .val (Value.int pf), .val (Value.int df), .val (Value.ref ad1), .val (Value.int kA), .val (Value.int SA), .val (Value.int kA), .val (Value.int kB), .val (Value.int SB), .val (Value.ref ad5), .unset, .unset] []))
          refine own_iload X17 hx hby at_333 rfl ?_
          show own_G p e below s _ _ _ (T17.setTop (mkF m 335 #[.val (Value.int x0), .val (Value.int x1), .val (Value.int x2), .val (Value.int x3), .val (Value.int ra), .val (Value.int rb), .val (Value.int pf), .val (Value.int df), .val (Value.ref ad1), .val (Value.int kA), .val (Value.int SA), .val (Value.int kA), .val (Value.int kB), .val (Value.int SB), .val (Value.ref ad5), .unset, .unset] [(Value.int df)]))
          refine own_if_eq X17 hx hby at_335 (pc' := 365) (by decide) (by decide) (fun hb19 => ?_) (fun hb19 => ?_)
          · show own_G p e below s _ _ _ (T17.setTop (mkF m 365 #[.val (Value.int x0), .val (Value.int x1), .val (Value.int x2), .val (Value.int x3), .val (Value.int ra), .val (Value.int rb), .val (Value.int pf), .val (Value.int df), .val (Value.ref ad1), .val (Value.int kA), .val (Value.int SA), .val (Value.int kA), .val (Value.int kB), .val (Value.int SB), .val (Value.ref ad5), .unset, .unset] []))
            have hlA : kA = (own_s4 ra b0 b1 b2 b3).length.toInt32 := Int32.toInt_inj.mp (by rw [hkA, Nat.zero_add, len_toInt (by have := own_l4 ra b0 b1 b2 b3; omega)])
            have e0 : (kA - (0 : Int32)) = (own_s4 ra b0 b1 b2 b3).length.toInt32 := by rw [hlA]; exact Int32.sub_zero _
            have HX := own_H_mark (M := (fun _ => (0 : Int32))) (u := (1 : Int32)) hra (fun v hv => by decide) hfA
            rw [← e0, ← hSA] at HX
            exact JX _ _ _ (own_upd (fun _ => (0 : Int32)) f 0 (1 : Int32) (own_s4 ra b0 b1 b2 b3).length) (1 : Int32) (kA - (0 : Int32)) SA X17 rfl N17 O18 Fq17a Fq17b Fq17c E18_ad5 A18_ad1 Aq17 HX
          · show own_G p e below s _ _ _ (T17.setTop (mkF m 338 #[.val (Value.int x0), .val (Value.int x1), .val (Value.int x2), .val (Value.int x3), .val (Value.int ra), .val (Value.int rb), .val (Value.int pf), .val (Value.int df), .val (Value.ref ad1), .val (Value.int kA), .val (Value.int SA), .val (Value.int kA), .val (Value.int kB), .val (Value.int SB), .val (Value.ref ad5), .unset, .unset] []))
            refine own_iload X17 hx hby at_338 rfl ?_
            show own_G p e below s _ _ _ (T17.setTop (mkF m 340 #[.val (Value.int x0), .val (Value.int x1), .val (Value.int x2), .val (Value.int x3), .val (Value.int ra), .val (Value.int rb), .val (Value.int pf), .val (Value.int df), .val (Value.ref ad1), .val (Value.int kA), .val (Value.int SA), .val (Value.int kA), .val (Value.int kB), .val (Value.int SB), .val (Value.ref ad5), .unset, .unset] [(Value.int kA)]))
            refine own_if_le X17 hx hby at_340 (pc' := 365) (by decide) (by decide) (fun hb20 => ?_) (fun hb20 => ?_)
            · show own_G p e below s _ _ _ (T17.setTop (mkF m 365 #[.val (Value.int x0), .val (Value.int x1), .val (Value.int x2), .val (Value.int x3), .val (Value.int ra), .val (Value.int rb), .val (Value.int pf), .val (Value.int df), .val (Value.ref ad1), .val (Value.int kA), .val (Value.int SA), .val (Value.int kA), .val (Value.int kB), .val (Value.int SB), .val (Value.ref ad5), .unset, .unset] []))
              have hlA : kA = (own_s4 ra b0 b1 b2 b3).length.toInt32 := Int32.toInt_inj.mp (by rw [hkA, Nat.zero_add, len_toInt (by have := own_l4 ra b0 b1 b2 b3; omega)])
              have e0 : (kA - (0 : Int32)) = (own_s4 ra b0 b1 b2 b3).length.toInt32 := by rw [hlA]; exact Int32.sub_zero _
              have HX := own_H_mark (M := (fun _ => (0 : Int32))) (u := (1 : Int32)) hra (fun v hv => by decide) hfA
              rw [← e0, ← hSA] at HX
              exact JX _ _ _ (own_upd (fun _ => (0 : Int32)) f 0 (1 : Int32) (own_s4 ra b0 b1 b2 b3).length) (1 : Int32) (kA - (0 : Int32)) SA X17 rfl N17 O18 Fq17a Fq17b Fq17c E18_ad5 A18_ad1 Aq17 HX
            · show own_G p e below s _ _ _ (T17.setTop (mkF m 343 #[.val (Value.int x0), .val (Value.int x1), .val (Value.int x2), .val (Value.int x3), .val (Value.int ra), .val (Value.int rb), .val (Value.int pf), .val (Value.int df), .val (Value.ref ad1), .val (Value.int kA), .val (Value.int SA), .val (Value.int kA), .val (Value.int kB), .val (Value.int SB), .val (Value.ref ad5), .unset, .unset] []))
              have hpos : 0 < (own_s4 ra b0 b1 b2 b3).length := by have q := hb20; have q2 := hkA; rw [Int32.lt_iff_toInt_lt] at q; simp only [Int32.reduceToInt] at q; omega
              have hr0 : 0 ≤ (f 0).toInt ∧ (f 0).toInt < 4 := own_rng hra trivial hfA (Nat.zero_le _) (by omega)
              refine own_aload X17 hx hby at_343 rfl rfl ?_
              show own_G p e below s _ _ _ (T17.setTop (mkF m 345 #[.val (Value.int x0), .val (Value.int x1), .val (Value.int x2), .val (Value.int x3), .val (Value.int ra), .val (Value.int rb), .val (Value.int pf), .val (Value.int df), .val (Value.ref ad1), .val (Value.int kA), .val (Value.int SA), .val (Value.int kA), .val (Value.int kB), .val (Value.int SB), .val (Value.ref ad5), .unset, .unset] [(Value.ref ad5)]))
              refine own_aload X17 hx hby at_345 rfl rfl ?_
              show own_G p e below s _ _ _ (T17.setTop (mkF m 347 #[.val (Value.int x0), .val (Value.int x1), .val (Value.int x2), .val (Value.int x3), .val (Value.int ra), .val (Value.int rb), .val (Value.int pf), .val (Value.int df), .val (Value.ref ad1), .val (Value.int kA), .val (Value.int SA), .val (Value.int kA), .val (Value.int kB), .val (Value.int SB), .val (Value.ref ad5), .unset, .unset] [(Value.ref ad1), (Value.ref ad5)]))
              refine own_iconst X17 hx hby at_347 ?_
              show own_G p e below s _ _ _ (T17.setTop (mkF m 348 #[.val (Value.int x0), .val (Value.int x1), .val (Value.int x2), .val (Value.int x3), .val (Value.int ra), .val (Value.int rb), .val (Value.int pf), .val (Value.int df), .val (Value.ref ad1), .val (Value.int kA), .val (Value.int SA), .val (Value.int kA), .val (Value.int kB), .val (Value.int SB), .val (Value.ref ad5), .unset, .unset] [(Value.int (0 : Int32)), (Value.ref ad1), (Value.ref ad5)]))
              refine own_iaload X17 hx hby hZ rfl A18_ad1 (j := (0 : Int32)) (i := 0) (by decide) (by decide) at_348 ?_
              show own_G p e below s _ _ _ (T17.setTop (mkF m 349 #[.val (Value.int x0), .val (Value.int x1), .val (Value.int x2), .val (Value.int x3), .val (Value.int ra), .val (Value.int rb), .val (Value.int pf), .val (Value.int df), .val (Value.ref ad1), .val (Value.int kA), .val (Value.int SA), .val (Value.int kA), .val (Value.int kB), .val (Value.int SB), .val (Value.ref ad5), .unset, .unset] [(Value.int (f 0)), (Value.ref ad5)]))
              obtain ⟨cq21, kq21, q21a, q21b, q21c⟩ := isOf (T := T17) hZ rfl E18_ad5
              obtain ⟨_, _, ⟨T21, L21, k21, n21⟩, -, X21, ⟨Lc21, hQ21, l21, y21, z21⟩, st21⟩ := X17.virtualBack hx (y := (⟨"com/example/tuck/tuck/ListMarks", "unmark", "(I)V"⟩ : MethodName)) (z := (⟨"com/example/tuck/tuck/ListMarks", "unmark", "(I)V"⟩ : MethodName)) hown (mvT hZ (own_w31 hw)) (mvT hZ (own_w32 hw)) (notFace_of_selects (args := #[]) (mvT hZ (own_w34 hw))) (mvT hZ (own_w34 hw)) (mvT hZ (own_w33 hw)) (by decide) (backOf (W := 0) (own_rmU l Z a0 hw [] ad5 (f 0) mk (1 : Int32) (kA - (0 : Int32)) (own_upd (fun _ => (0 : Int32)) f 0 (1 : Int32) (own_s4 ra b0 b1 b2 b3).length) T17.heap n0 O18 E18_ad5 Fq17a Fq17b Fq17c g5n Aq17 gmk nemk_ad5 hr0.1 hr0.2) hZ (own_w35 hw) (own_w3 hw) (by decide) (by decide)) q21a q21c (g := (mkF m 349 #[.val (Value.int x0), .val (Value.int x1), .val (Value.int x2), .val (Value.int x3), .val (Value.int ra), .val (Value.int rb), .val (Value.int pf), .val (Value.int df), .val (Value.ref ad1), .val (Value.int kA), .val (Value.int SA), .val (Value.int kA), .val (Value.int kB), .val (Value.int SB), .val (Value.ref ad5), .unset, .unset] [(Value.int (f 0)), (Value.ref ad5)])) rfl (by rw [hml]; rfl) (Steps.refl _) (argsL := [(Value.int (f 0))]) (rest := []) (lenOf own_pd0 rfl) rfl (by show 2 * 0 + _ ≤ _; exact Nat.le_of_eq rfl) (hb hby at_349) (fun _ _ => ⟨rfl, rfl, (by decide : (3 : Nat) + 0 ≤ _), (by decide : (15 : Nat) + 0 ≤ _)⟩)
              dsimp only [Pt.U, Pt.locs, Pt.cells, Pt.slots] at X21 l21 y21 z21 st21 hQ21
              subst l21 y21 z21
              obtain ⟨rfl, Nq21, Kq21, Fq21a, Fq21b, Fq21c, Aq21⟩ := hQ21
              have N21 := Fr.app N17 Nq21
              have E22_ad5 := Exa.keep E18_ad5 Kq21
              have A22_ad1 := own_Ar.keep A18_ad1 Kq21 (ninS ne5_ad1 (ninS nemk_ad1 nin0))
              have O22 := Old.keep O18 Kq21 (allS g5n (allS gmk all0))
              refine own_tr st21 ?_
              show own_G p e below s _ _ _ (T21.setTop (mkF m 352 #[.val (Value.int x0), .val (Value.int x1), .val (Value.int x2), .val (Value.int x3), .val (Value.int ra), .val (Value.int rb), .val (Value.int pf), .val (Value.int df), .val (Value.ref ad1), .val (Value.int kA), .val (Value.int SA), .val (Value.int kA), .val (Value.int kB), .val (Value.int SB), .val (Value.ref ad5), .unset, .unset] []))
              refine own_iload X21 hx hby at_352 rfl ?_
              show own_G p e below s _ _ _ (T21.setTop (mkF m 354 #[.val (Value.int x0), .val (Value.int x1), .val (Value.int x2), .val (Value.int x3), .val (Value.int ra), .val (Value.int rb), .val (Value.int pf), .val (Value.int df), .val (Value.ref ad1), .val (Value.int kA), .val (Value.int SA), .val (Value.int kA), .val (Value.int kB), .val (Value.int SB), .val (Value.ref ad5), .unset, .unset] [(Value.int SA)]))
              refine own_iconst X21 hx hby at_354 ?_
              show own_G p e below s _ _ _ (T21.setTop (mkF m 355 #[.val (Value.int x0), .val (Value.int x1), .val (Value.int x2), .val (Value.int x3), .val (Value.int ra), .val (Value.int rb), .val (Value.int pf), .val (Value.int df), .val (Value.ref ad1), .val (Value.int kA), .val (Value.int SA), .val (Value.int kA), .val (Value.int kB), .val (Value.int SB), .val (Value.ref ad5), .unset, .unset] [(Value.int (1 : Int32)), (Value.int SA)]))
              refine own_aload X21 hx hby at_355 rfl rfl ?_
              show own_G p e below s _ _ _ (T21.setTop (mkF m 357 #[.val (Value.int x0), .val (Value.int x1), .val (Value.int x2), .val (Value.int x3), .val (Value.int ra), .val (Value.int rb), .val (Value.int pf), .val (Value.int df), .val (Value.ref ad1), .val (Value.int kA), .val (Value.int SA), .val (Value.int kA), .val (Value.int kB), .val (Value.int SB), .val (Value.ref ad5), .unset, .unset] [(Value.ref ad1), (Value.int (1 : Int32)), (Value.int SA)]))
              refine own_iconst X21 hx hby at_357 ?_
              show own_G p e below s _ _ _ (T21.setTop (mkF m 358 #[.val (Value.int x0), .val (Value.int x1), .val (Value.int x2), .val (Value.int x3), .val (Value.int ra), .val (Value.int rb), .val (Value.int pf), .val (Value.int df), .val (Value.ref ad1), .val (Value.int kA), .val (Value.int SA), .val (Value.int kA), .val (Value.int kB), .val (Value.int SB), .val (Value.ref ad5), .unset, .unset] [(Value.int (0 : Int32)), (Value.ref ad1), (Value.int (1 : Int32)), (Value.int SA)]))
              refine own_iaload X21 hx hby hZ rfl A22_ad1 (j := (0 : Int32)) (i := 0) (by decide) (by decide) at_358 ?_
              show own_G p e below s _ _ _ (T21.setTop (mkF m 359 #[.val (Value.int x0), .val (Value.int x1), .val (Value.int x2), .val (Value.int x3), .val (Value.int ra), .val (Value.int rb), .val (Value.int pf), .val (Value.int df), .val (Value.ref ad1), .val (Value.int kA), .val (Value.int SA), .val (Value.int kA), .val (Value.int kB), .val (Value.int SB), .val (Value.ref ad5), .unset, .unset] [(Value.int (f 0)), (Value.int (1 : Int32)), (Value.int SA)]))
              refine own_ishl X21 hx hby at_359 ?_
              show own_G p e below s _ _ _ (T21.setTop (mkF m 360 #[.val (Value.int x0), .val (Value.int x1), .val (Value.int x2), .val (Value.int x3), .val (Value.int ra), .val (Value.int rb), .val (Value.int pf), .val (Value.int df), .val (Value.ref ad1), .val (Value.int kA), .val (Value.int SA), .val (Value.int kA), .val (Value.int kB), .val (Value.int SB), .val (Value.ref ad5), .unset, .unset] [(Value.int ((1 : Int32) <<< ((f 0) &&& 31))), (Value.int SA)]))
              refine own_iconst X21 hx hby at_360 ?_
              show own_G p e below s _ _ _ (T21.setTop (mkF m 361 #[.val (Value.int x0), .val (Value.int x1), .val (Value.int x2), .val (Value.int x3), .val (Value.int ra), .val (Value.int rb), .val (Value.int pf), .val (Value.int df), .val (Value.ref ad1), .val (Value.int kA), .val (Value.int SA), .val (Value.int kA), .val (Value.int kB), .val (Value.int SB), .val (Value.ref ad5), .unset, .unset] [(Value.int (-1 : Int32)), (Value.int ((1 : Int32) <<< ((f 0) &&& 31))), (Value.int SA)]))
              refine own_ixor X21 hx hby at_361 ?_
              show own_G p e below s _ _ _ (T21.setTop (mkF m 362 #[.val (Value.int x0), .val (Value.int x1), .val (Value.int x2), .val (Value.int x3), .val (Value.int ra), .val (Value.int rb), .val (Value.int pf), .val (Value.int df), .val (Value.ref ad1), .val (Value.int kA), .val (Value.int SA), .val (Value.int kA), .val (Value.int kB), .val (Value.int SB), .val (Value.ref ad5), .unset, .unset] [(Value.int (((1 : Int32) <<< ((f 0) &&& 31)) ^^^ (-1 : Int32))), (Value.int SA)]))
              refine own_iand X21 hx hby at_362 ?_
              show own_G p e below s _ _ _ (T21.setTop (mkF m 363 #[.val (Value.int x0), .val (Value.int x1), .val (Value.int x2), .val (Value.int x3), .val (Value.int ra), .val (Value.int rb), .val (Value.int pf), .val (Value.int df), .val (Value.ref ad1), .val (Value.int kA), .val (Value.int SA), .val (Value.int kA), .val (Value.int kB), .val (Value.int SB), .val (Value.ref ad5), .unset, .unset] [(Value.int (SA &&& (((1 : Int32) <<< ((f 0) &&& 31)) ^^^ (-1 : Int32))))]))
              refine own_istore X21 hx hby at_363 (l' := #[.val (Value.int x0), .val (Value.int x1), .val (Value.int x2), .val (Value.int x3), .val (Value.int ra), .val (Value.int rb), .val (Value.int pf), .val (Value.int df), .val (Value.ref ad1), .val (Value.int kA), .val (Value.int (SA &&& (((1 : Int32) <<< ((f 0) &&& 31)) ^^^ (-1 : Int32)))), .val (Value.int kA), .val (Value.int kB), .val (Value.int SB), .val (Value.ref ad5), .unset, .unset]) rfl ?_
              show own_G p e below s _ _ _ (T21.setTop (mkF m 365 #[.val (Value.int x0), .val (Value.int x1), .val (Value.int x2), .val (Value.int x3), .val (Value.int ra), .val (Value.int rb), .val (Value.int pf), .val (Value.int df), .val (Value.ref ad1), .val (Value.int kA), .val (Value.int (SA &&& (((1 : Int32) <<< ((f 0) &&& 31)) ^^^ (-1 : Int32)))), .val (Value.int kA), .val (Value.int kB), .val (Value.int SB), .val (Value.ref ad5), .unset, .unset] []))
              have hlA : kA = (own_s4 ra b0 b1 b2 b3).length.toInt32 := Int32.toInt_inj.mp (by rw [hkA, Nat.zero_add, len_toInt (by have := own_l4 ra b0 b1 b2 b3; omega)])
              have e0 : (kA - (0 : Int32)) = (own_s4 ra b0 b1 b2 b3).length.toInt32 := by rw [hlA]; exact Int32.sub_zero _
              have HX := own_H_drop (M := (fun _ => (0 : Int32))) (u := (1 : Int32)) hra (fun v hv => by decide) (by decide) hfA hpos
              rw [← e0, ← hSA] at HX
              exact JX _ _ _ (own_up (own_upd (fun _ => (0 : Int32)) f 0 (1 : Int32) (own_s4 ra b0 b1 b2 b3).length) ((f 0)).toInt.toNat (0 : Int32)) (1 : Int32) ((kA - (0 : Int32)) - (1 : Int32)) (SA &&& (((1 : Int32) <<< ((f 0) &&& 31)) ^^^ (-1 : Int32))) X21 rfl N21 O22 Fq21a Fq21b Fq21c E22_ad5 A22_ad1 Aq21 HX
        · show own_G p e below s _ _ _ (T7.setTop (mkF m 313 #[.val (Value.int x0), .val (Value.int x1), .val (Value.int x2), .val (Value.int x3), .val (Value.int ra), .val (Value.int rb), .val (Value.int pf), .val (Value.int df), .val (Value.ref ad1), .val (Value.int kA), .val (Value.int SA), .val (Value.int kA), .val (Value.int kB), .val (Value.int SB), .val (Value.ref ad5), .unset, .unset] []))
          refine own_aload X7 hx hby at_313 rfl rfl ?_
          show own_G p e below s _ _ _ (T7.setTop (mkF m 315 #[.val (Value.int x0), .val (Value.int x1), .val (Value.int x2), .val (Value.int x3), .val (Value.int ra), .val (Value.int rb), .val (Value.int pf), .val (Value.int df), .val (Value.ref ad1), .val (Value.int kA), .val (Value.int SA), .val (Value.int kA), .val (Value.int kB), .val (Value.int SB), .val (Value.ref ad5), .unset, .unset] [(Value.ref ad5)]))
          refine own_aload X7 hx hby at_315 rfl rfl ?_
          show own_G p e below s _ _ _ (T7.setTop (mkF m 317 #[.val (Value.int x0), .val (Value.int x1), .val (Value.int x2), .val (Value.int x3), .val (Value.int ra), .val (Value.int rb), .val (Value.int pf), .val (Value.int df), .val (Value.ref ad1), .val (Value.int kA), .val (Value.int SA), .val (Value.int kA), .val (Value.int kB), .val (Value.int SB), .val (Value.ref ad5), .unset, .unset] [(Value.ref ad1), (Value.ref ad5)]))
          refine own_iconst X7 hx hby at_317 ?_
          show own_G p e below s _ _ _ (T7.setTop (mkF m 318 #[.val (Value.int x0), .val (Value.int x1), .val (Value.int x2), .val (Value.int x3), .val (Value.int ra), .val (Value.int rb), .val (Value.int pf), .val (Value.int df), .val (Value.ref ad1), .val (Value.int kA), .val (Value.int SA), .val (Value.int kA), .val (Value.int kB), .val (Value.int SB), .val (Value.ref ad5), .unset, .unset] [(Value.int (4 : Int32)), (Value.ref ad1), (Value.ref ad5)]))
          refine own_iload X7 hx hby at_318 rfl ?_
          show own_G p e below s _ _ _ (T7.setTop (mkF m 320 #[.val (Value.int x0), .val (Value.int x1), .val (Value.int x2), .val (Value.int x3), .val (Value.int ra), .val (Value.int rb), .val (Value.int pf), .val (Value.int df), .val (Value.ref ad1), .val (Value.int kA), .val (Value.int SA), .val (Value.int kA), .val (Value.int kB), .val (Value.int SB), .val (Value.ref ad5), .unset, .unset] [(Value.int kB), (Value.int (4 : Int32)), (Value.ref ad1), (Value.ref ad5)]))
          obtain ⟨cq23, kq23, q23a, q23b, q23c⟩ := isOf (T := T7) hZ rfl Eq7
          obtain ⟨_, _, ⟨T23, L23, k23, n23⟩, -, X23, ⟨Lc23, hQ23, l23, y23, z23⟩, st23⟩ := X7.virtualBack hx (y := (⟨"com/example/tuck/tuck/ListMarks", "mark", "([III)V"⟩ : MethodName)) (z := (⟨"com/example/tuck/tuck/ListMarks", "mark", "([III)V"⟩ : MethodName)) hown (mvT hZ (own_w12 hw)) (mvT hZ (own_w13 hw)) (notFace_of_selects (args := #[]) (mvT hZ (own_w15 hw))) (mvT hZ (own_w15 hw)) (mvT hZ (own_w14 hw)) (by decide) (backOf (W := 0) (own_rmK l Z a0 hw [] ad5 ad1 (4 : Int32) kB mk (0 : Int32) (0 : Int32) (fun _ => (0 : Int32)) f 4 (own_s4 rb c0 c1 c2 c3).length T7.heap n0 O8 Eq7 Fq7a Fq7b Fq7c g5n Mz A8_ad1 gmk nemk_ad1 nemk_ad5 (Ne.symm ne5_ad1) (by decide) hkB (by have := own_l4 rb c0 c1 c2 c3; omega) (fun j h1 h2 => own_rng hrb trivial hfB h1 h2) (by decide)) hZ (own_w16 hw) (own_w3 hw) (by decide) (by decide)) q23a q23c (g := (mkF m 320 #[.val (Value.int x0), .val (Value.int x1), .val (Value.int x2), .val (Value.int x3), .val (Value.int ra), .val (Value.int rb), .val (Value.int pf), .val (Value.int df), .val (Value.ref ad1), .val (Value.int kA), .val (Value.int SA), .val (Value.int kA), .val (Value.int kB), .val (Value.int SB), .val (Value.ref ad5), .unset, .unset] [(Value.int kB), (Value.int (4 : Int32)), (Value.ref ad1), (Value.ref ad5)])) rfl (by rw [hml]; rfl) (Steps.refl _) (argsL := [(Value.ref ad1), (Value.int (4 : Int32)), (Value.int kB)]) (rest := []) (lenOf own_pd3 rfl) rfl (by show 2 * 0 + _ ≤ _; exact Nat.le_of_eq rfl) (hb hby at_320) (fun _ _ => ⟨rfl, rfl, (by decide : (3 : Nat) + 0 ≤ _), (by decide : (15 : Nat) + 0 ≤ _)⟩)
          dsimp only [Pt.U, Pt.locs, Pt.cells, Pt.slots] at X23 l23 y23 z23 st23 hQ23
          subst l23 y23 z23
          obtain ⟨rfl, Nq23, Kq23, Fq23a, Fq23b, Fq23c, Aq23⟩ := hQ23
          have N23 := Fr.app N7 Nq23
          have E24_ad5 := Exa.keep Eq7 Kq23
          have A24_ad1 := own_Ar.keep A8_ad1 Kq23 (ninS ne5_ad1 (ninS nemk_ad1 nin0))
          have O24 := Old.keep O8 Kq23 (allS g5n (allS gmk all0))
          refine own_tr st23 ?_
          show own_G p e below s _ _ _ (T23.setTop (mkF m 323 #[.val (Value.int x0), .val (Value.int x1), .val (Value.int x2), .val (Value.int x3), .val (Value.int ra), .val (Value.int rb), .val (Value.int pf), .val (Value.int df), .val (Value.ref ad1), .val (Value.int kA), .val (Value.int SA), .val (Value.int kA), .val (Value.int kB), .val (Value.int SB), .val (Value.ref ad5), .unset, .unset] []))
          refine own_aload X23 hx hby at_323 rfl rfl ?_
          show own_G p e below s _ _ _ (T23.setTop (mkF m 325 #[.val (Value.int x0), .val (Value.int x1), .val (Value.int x2), .val (Value.int x3), .val (Value.int ra), .val (Value.int rb), .val (Value.int pf), .val (Value.int df), .val (Value.ref ad1), .val (Value.int kA), .val (Value.int SA), .val (Value.int kA), .val (Value.int kB), .val (Value.int SB), .val (Value.ref ad5), .unset, .unset] [(Value.ref ad5)]))
          refine own_aload X23 hx hby at_325 rfl rfl ?_
          show own_G p e below s _ _ _ (T23.setTop (mkF m 327 #[.val (Value.int x0), .val (Value.int x1), .val (Value.int x2), .val (Value.int x3), .val (Value.int ra), .val (Value.int rb), .val (Value.int pf), .val (Value.int df), .val (Value.ref ad1), .val (Value.int kA), .val (Value.int SA), .val (Value.int kA), .val (Value.int kB), .val (Value.int SB), .val (Value.ref ad5), .unset, .unset] [(Value.ref ad1), (Value.ref ad5)]))
          refine own_iconst X23 hx hby at_327 ?_
          show own_G p e below s _ _ _ (T23.setTop (mkF m 328 #[.val (Value.int x0), .val (Value.int x1), .val (Value.int x2), .val (Value.int x3), .val (Value.int ra), .val (Value.int rb), .val (Value.int pf), .val (Value.int df), .val (Value.ref ad1), .val (Value.int kA), .val (Value.int SA), .val (Value.int kA), .val (Value.int kB), .val (Value.int SB), .val (Value.ref ad5), .unset, .unset] [(Value.int (0 : Int32)), (Value.ref ad1), (Value.ref ad5)]))
          refine own_iload X23 hx hby at_328 rfl ?_
          show own_G p e below s _ _ _ (T23.setTop (mkF m 330 #[.val (Value.int x0), .val (Value.int x1), .val (Value.int x2), .val (Value.int x3), .val (Value.int ra), .val (Value.int rb), .val (Value.int pf), .val (Value.int df), .val (Value.ref ad1), .val (Value.int kA), .val (Value.int SA), .val (Value.int kA), .val (Value.int kB), .val (Value.int SB), .val (Value.ref ad5), .unset, .unset] [(Value.int kA), (Value.int (0 : Int32)), (Value.ref ad1), (Value.ref ad5)]))
          obtain ⟨cq25, kq25, q25a, q25b, q25c⟩ := isOf (T := T23) hZ rfl E24_ad5
          obtain ⟨_, _, ⟨T25, L25, k25, n25⟩, -, X25, ⟨Lc25, hQ25, l25, y25, z25⟩, st25⟩ := X23.virtualBack hx (y := (⟨"com/example/tuck/tuck/ListMarks", "mark", "([III)V"⟩ : MethodName)) (z := (⟨"com/example/tuck/tuck/ListMarks", "mark", "([III)V"⟩ : MethodName)) hown (mvT hZ (own_w12 hw)) (mvT hZ (own_w13 hw)) (notFace_of_selects (args := #[]) (mvT hZ (own_w15 hw))) (mvT hZ (own_w15 hw)) (mvT hZ (own_w14 hw)) (by decide) (backOf (W := 0) (own_rmK l Z a0 hw [] ad5 ad1 (0 : Int32) kA mk (1 : Int32) (kB - (4 : Int32)) (own_upd (fun _ => (0 : Int32)) f 4 (1 : Int32) (own_s4 rb c0 c1 c2 c3).length) f 0 (own_s4 ra b0 b1 b2 b3).length T23.heap n0 O24 E24_ad5 Fq23a Fq23b Fq23c g5n Aq23 A24_ad1 gmk nemk_ad1 nemk_ad5 (Ne.symm ne5_ad1) (by decide) hkA (by have := own_l4 ra b0 b1 b2 b3; omega) (fun j h1 h2 => own_rng hra trivial hfA h1 h2) (by decide)) hZ (own_w16 hw) (own_w3 hw) (by decide) (by decide)) q25a q25c (g := (mkF m 330 #[.val (Value.int x0), .val (Value.int x1), .val (Value.int x2), .val (Value.int x3), .val (Value.int ra), .val (Value.int rb), .val (Value.int pf), .val (Value.int df), .val (Value.ref ad1), .val (Value.int kA), .val (Value.int SA), .val (Value.int kA), .val (Value.int kB), .val (Value.int SB), .val (Value.ref ad5), .unset, .unset] [(Value.int kA), (Value.int (0 : Int32)), (Value.ref ad1), (Value.ref ad5)])) rfl (by rw [hml]; rfl) (Steps.refl _) (argsL := [(Value.ref ad1), (Value.int (0 : Int32)), (Value.int kA)]) (rest := []) (lenOf own_pd3 rfl) rfl (by show 2 * 0 + _ ≤ _; exact Nat.le_of_eq rfl) (hb hby at_330) (fun _ _ => ⟨rfl, rfl, (by decide : (3 : Nat) + 0 ≤ _), (by decide : (15 : Nat) + 0 ≤ _)⟩)
          dsimp only [Pt.U, Pt.locs, Pt.cells, Pt.slots] at X25 l25 y25 z25 st25 hQ25
          subst l25 y25 z25
          obtain ⟨rfl, Nq25, Kq25, Fq25a, Fq25b, Fq25c, Aq25⟩ := hQ25
          have N25 := Fr.app N23 Nq25
          have E26_ad5 := Exa.keep E24_ad5 Kq25
          have A26_ad1 := own_Ar.keep A24_ad1 Kq25 (ninS ne5_ad1 (ninS nemk_ad1 nin0))
          have O26 := Old.keep O24 Kq25 (allS g5n (allS gmk all0))
          refine own_tr st25 ?_
          show own_G p e below s _ _ _ (T25.setTop (mkF m 333 #[.val (Value.int x0), .val (Value.int x1), .val (Value.int x2), .val (Value.int x3), .val (Value.int ra), .val (Value.int rb), .val (Value.int pf), .val (Value.int df), .val (Value.ref ad1), .val (Value.int kA), .val (Value.int SA), .val (Value.int kA), .val (Value.int kB), .val (Value.int SB), .val (Value.ref ad5), .unset, .unset] []))
          refine own_iload X25 hx hby at_333 rfl ?_
          show own_G p e below s _ _ _ (T25.setTop (mkF m 335 #[.val (Value.int x0), .val (Value.int x1), .val (Value.int x2), .val (Value.int x3), .val (Value.int ra), .val (Value.int rb), .val (Value.int pf), .val (Value.int df), .val (Value.ref ad1), .val (Value.int kA), .val (Value.int SA), .val (Value.int kA), .val (Value.int kB), .val (Value.int SB), .val (Value.ref ad5), .unset, .unset] [(Value.int df)]))
          refine own_if_eq X25 hx hby at_335 (pc' := 365) (by decide) (by decide) (fun hb27 => ?_) (fun hb27 => ?_)
          · show own_G p e below s _ _ _ (T25.setTop (mkF m 365 #[.val (Value.int x0), .val (Value.int x1), .val (Value.int x2), .val (Value.int x3), .val (Value.int ra), .val (Value.int rb), .val (Value.int pf), .val (Value.int df), .val (Value.ref ad1), .val (Value.int kA), .val (Value.int SA), .val (Value.int kA), .val (Value.int kB), .val (Value.int SB), .val (Value.ref ad5), .unset, .unset] []))
            have hlA : kA = (own_s4 ra b0 b1 b2 b3).length.toInt32 := Int32.toInt_inj.mp (by rw [hkA, Nat.zero_add, len_toInt (by have := own_l4 ra b0 b1 b2 b3; omega)])
            have e0 : (kA - (0 : Int32)) = (own_s4 ra b0 b1 b2 b3).length.toInt32 := by rw [hlA]; exact Int32.sub_zero _
            have HX := own_H_mark (M := (own_upd (fun _ => (0 : Int32)) f 4 (1 : Int32) (own_s4 rb c0 c1 c2 c3).length)) (u := (2 : Int32)) hra (fun v hv => by rw [own_upd_has hfB]; split <;> decide) hfA
            rw [← e0, ← hSA] at HX
            exact JX _ _ _ (own_upd (own_upd (fun _ => (0 : Int32)) f 4 (1 : Int32) (own_s4 rb c0 c1 c2 c3).length) f 0 (2 : Int32) (own_s4 ra b0 b1 b2 b3).length) (2 : Int32) (kA - (0 : Int32)) SA X25 rfl N25 O26 Fq25a Fq25b Fq25c E26_ad5 A26_ad1 Aq25 HX
          · show own_G p e below s _ _ _ (T25.setTop (mkF m 338 #[.val (Value.int x0), .val (Value.int x1), .val (Value.int x2), .val (Value.int x3), .val (Value.int ra), .val (Value.int rb), .val (Value.int pf), .val (Value.int df), .val (Value.ref ad1), .val (Value.int kA), .val (Value.int SA), .val (Value.int kA), .val (Value.int kB), .val (Value.int SB), .val (Value.ref ad5), .unset, .unset] []))
            refine own_iload X25 hx hby at_338 rfl ?_
            show own_G p e below s _ _ _ (T25.setTop (mkF m 340 #[.val (Value.int x0), .val (Value.int x1), .val (Value.int x2), .val (Value.int x3), .val (Value.int ra), .val (Value.int rb), .val (Value.int pf), .val (Value.int df), .val (Value.ref ad1), .val (Value.int kA), .val (Value.int SA), .val (Value.int kA), .val (Value.int kB), .val (Value.int SB), .val (Value.ref ad5), .unset, .unset] [(Value.int kA)]))
            refine own_if_le X25 hx hby at_340 (pc' := 365) (by decide) (by decide) (fun hb28 => ?_) (fun hb28 => ?_)
            · show own_G p e below s _ _ _ (T25.setTop (mkF m 365 #[.val (Value.int x0), .val (Value.int x1), .val (Value.int x2), .val (Value.int x3), .val (Value.int ra), .val (Value.int rb), .val (Value.int pf), .val (Value.int df), .val (Value.ref ad1), .val (Value.int kA), .val (Value.int SA), .val (Value.int kA), .val (Value.int kB), .val (Value.int SB), .val (Value.ref ad5), .unset, .unset] []))
              have hlA : kA = (own_s4 ra b0 b1 b2 b3).length.toInt32 := Int32.toInt_inj.mp (by rw [hkA, Nat.zero_add, len_toInt (by have := own_l4 ra b0 b1 b2 b3; omega)])
              have e0 : (kA - (0 : Int32)) = (own_s4 ra b0 b1 b2 b3).length.toInt32 := by rw [hlA]; exact Int32.sub_zero _
              have HX := own_H_mark (M := (own_upd (fun _ => (0 : Int32)) f 4 (1 : Int32) (own_s4 rb c0 c1 c2 c3).length)) (u := (2 : Int32)) hra (fun v hv => by rw [own_upd_has hfB]; split <;> decide) hfA
              rw [← e0, ← hSA] at HX
              exact JX _ _ _ (own_upd (own_upd (fun _ => (0 : Int32)) f 4 (1 : Int32) (own_s4 rb c0 c1 c2 c3).length) f 0 (2 : Int32) (own_s4 ra b0 b1 b2 b3).length) (2 : Int32) (kA - (0 : Int32)) SA X25 rfl N25 O26 Fq25a Fq25b Fq25c E26_ad5 A26_ad1 Aq25 HX
            · show own_G p e below s _ _ _ (T25.setTop (mkF m 343 #[.val (Value.int x0), .val (Value.int x1), .val (Value.int x2), .val (Value.int x3), .val (Value.int ra), .val (Value.int rb), .val (Value.int pf), .val (Value.int df), .val (Value.ref ad1), .val (Value.int kA), .val (Value.int SA), .val (Value.int kA), .val (Value.int kB), .val (Value.int SB), .val (Value.ref ad5), .unset, .unset] []))
              have hpos : 0 < (own_s4 ra b0 b1 b2 b3).length := by have q := hb28; have q2 := hkA; rw [Int32.lt_iff_toInt_lt] at q; simp only [Int32.reduceToInt] at q; omega
              have hr0 : 0 ≤ (f 0).toInt ∧ (f 0).toInt < 4 := own_rng hra trivial hfA (Nat.zero_le _) (by omega)
              refine own_aload X25 hx hby at_343 rfl rfl ?_
              show own_G p e below s _ _ _ (T25.setTop (mkF m 345 #[.val (Value.int x0), .val (Value.int x1), .val (Value.int x2), .val (Value.int x3), .val (Value.int ra), .val (Value.int rb), .val (Value.int pf), .val (Value.int df), .val (Value.ref ad1), .val (Value.int kA), .val (Value.int SA), .val (Value.int kA), .val (Value.int kB), .val (Value.int SB), .val (Value.ref ad5), .unset, .unset] [(Value.ref ad5)]))
              refine own_aload X25 hx hby at_345 rfl rfl ?_
              show own_G p e below s _ _ _ (T25.setTop (mkF m 347 #[.val (Value.int x0), .val (Value.int x1), .val (Value.int x2), .val (Value.int x3), .val (Value.int ra), .val (Value.int rb), .val (Value.int pf), .val (Value.int df), .val (Value.ref ad1), .val (Value.int kA), .val (Value.int SA), .val (Value.int kA), .val (Value.int kB), .val (Value.int SB), .val (Value.ref ad5), .unset, .unset] [(Value.ref ad1), (Value.ref ad5)]))
              refine own_iconst X25 hx hby at_347 ?_
              show own_G p e below s _ _ _ (T25.setTop (mkF m 348 #[.val (Value.int x0), .val (Value.int x1), .val (Value.int x2), .val (Value.int x3), .val (Value.int ra), .val (Value.int rb), .val (Value.int pf), .val (Value.int df), .val (Value.ref ad1), .val (Value.int kA), .val (Value.int SA), .val (Value.int kA), .val (Value.int kB), .val (Value.int SB), .val (Value.ref ad5), .unset, .unset] [(Value.int (0 : Int32)), (Value.ref ad1), (Value.ref ad5)]))
              refine own_iaload X25 hx hby hZ rfl A26_ad1 (j := (0 : Int32)) (i := 0) (by decide) (by decide) at_348 ?_
              show own_G p e below s _ _ _ (T25.setTop (mkF m 349 #[.val (Value.int x0), .val (Value.int x1), .val (Value.int x2), .val (Value.int x3), .val (Value.int ra), .val (Value.int rb), .val (Value.int pf), .val (Value.int df), .val (Value.ref ad1), .val (Value.int kA), .val (Value.int SA), .val (Value.int kA), .val (Value.int kB), .val (Value.int SB), .val (Value.ref ad5), .unset, .unset] [(Value.int (f 0)), (Value.ref ad5)]))
              obtain ⟨cq29, kq29, q29a, q29b, q29c⟩ := isOf (T := T25) hZ rfl E26_ad5
              obtain ⟨_, _, ⟨T29, L29, k29, n29⟩, -, X29, ⟨Lc29, hQ29, l29, y29, z29⟩, st29⟩ := X25.virtualBack hx (y := (⟨"com/example/tuck/tuck/ListMarks", "unmark", "(I)V"⟩ : MethodName)) (z := (⟨"com/example/tuck/tuck/ListMarks", "unmark", "(I)V"⟩ : MethodName)) hown (mvT hZ (own_w31 hw)) (mvT hZ (own_w32 hw)) (notFace_of_selects (args := #[]) (mvT hZ (own_w34 hw))) (mvT hZ (own_w34 hw)) (mvT hZ (own_w33 hw)) (by decide) (backOf (W := 0) (own_rmU l Z a0 hw [] ad5 (f 0) mk (2 : Int32) (kA - (0 : Int32)) (own_upd (own_upd (fun _ => (0 : Int32)) f 4 (1 : Int32) (own_s4 rb c0 c1 c2 c3).length) f 0 (2 : Int32) (own_s4 ra b0 b1 b2 b3).length) T25.heap n0 O26 E26_ad5 Fq25a Fq25b Fq25c g5n Aq25 gmk nemk_ad5 hr0.1 hr0.2) hZ (own_w35 hw) (own_w3 hw) (by decide) (by decide)) q29a q29c (g := (mkF m 349 #[.val (Value.int x0), .val (Value.int x1), .val (Value.int x2), .val (Value.int x3), .val (Value.int ra), .val (Value.int rb), .val (Value.int pf), .val (Value.int df), .val (Value.ref ad1), .val (Value.int kA), .val (Value.int SA), .val (Value.int kA), .val (Value.int kB), .val (Value.int SB), .val (Value.ref ad5), .unset, .unset] [(Value.int (f 0)), (Value.ref ad5)])) rfl (by rw [hml]; rfl) (Steps.refl _) (argsL := [(Value.int (f 0))]) (rest := []) (lenOf own_pd0 rfl) rfl (by show 2 * 0 + _ ≤ _; exact Nat.le_of_eq rfl) (hb hby at_349) (fun _ _ => ⟨rfl, rfl, (by decide : (3 : Nat) + 0 ≤ _), (by decide : (15 : Nat) + 0 ≤ _)⟩)
              dsimp only [Pt.U, Pt.locs, Pt.cells, Pt.slots] at X29 l29 y29 z29 st29 hQ29
              subst l29 y29 z29
              obtain ⟨rfl, Nq29, Kq29, Fq29a, Fq29b, Fq29c, Aq29⟩ := hQ29
              have N29 := Fr.app N25 Nq29
              have E30_ad5 := Exa.keep E26_ad5 Kq29
              have A30_ad1 := own_Ar.keep A26_ad1 Kq29 (ninS ne5_ad1 (ninS nemk_ad1 nin0))
              have O30 := Old.keep O26 Kq29 (allS g5n (allS gmk all0))
              refine own_tr st29 ?_
              show own_G p e below s _ _ _ (T29.setTop (mkF m 352 #[.val (Value.int x0), .val (Value.int x1), .val (Value.int x2), .val (Value.int x3), .val (Value.int ra), .val (Value.int rb), .val (Value.int pf), .val (Value.int df), .val (Value.ref ad1), .val (Value.int kA), .val (Value.int SA), .val (Value.int kA), .val (Value.int kB), .val (Value.int SB), .val (Value.ref ad5), .unset, .unset] []))
              refine own_iload X29 hx hby at_352 rfl ?_
              show own_G p e below s _ _ _ (T29.setTop (mkF m 354 #[.val (Value.int x0), .val (Value.int x1), .val (Value.int x2), .val (Value.int x3), .val (Value.int ra), .val (Value.int rb), .val (Value.int pf), .val (Value.int df), .val (Value.ref ad1), .val (Value.int kA), .val (Value.int SA), .val (Value.int kA), .val (Value.int kB), .val (Value.int SB), .val (Value.ref ad5), .unset, .unset] [(Value.int SA)]))
              refine own_iconst X29 hx hby at_354 ?_
              show own_G p e below s _ _ _ (T29.setTop (mkF m 355 #[.val (Value.int x0), .val (Value.int x1), .val (Value.int x2), .val (Value.int x3), .val (Value.int ra), .val (Value.int rb), .val (Value.int pf), .val (Value.int df), .val (Value.ref ad1), .val (Value.int kA), .val (Value.int SA), .val (Value.int kA), .val (Value.int kB), .val (Value.int SB), .val (Value.ref ad5), .unset, .unset] [(Value.int (1 : Int32)), (Value.int SA)]))
              refine own_aload X29 hx hby at_355 rfl rfl ?_
              show own_G p e below s _ _ _ (T29.setTop (mkF m 357 #[.val (Value.int x0), .val (Value.int x1), .val (Value.int x2), .val (Value.int x3), .val (Value.int ra), .val (Value.int rb), .val (Value.int pf), .val (Value.int df), .val (Value.ref ad1), .val (Value.int kA), .val (Value.int SA), .val (Value.int kA), .val (Value.int kB), .val (Value.int SB), .val (Value.ref ad5), .unset, .unset] [(Value.ref ad1), (Value.int (1 : Int32)), (Value.int SA)]))
              refine own_iconst X29 hx hby at_357 ?_
              show own_G p e below s _ _ _ (T29.setTop (mkF m 358 #[.val (Value.int x0), .val (Value.int x1), .val (Value.int x2), .val (Value.int x3), .val (Value.int ra), .val (Value.int rb), .val (Value.int pf), .val (Value.int df), .val (Value.ref ad1), .val (Value.int kA), .val (Value.int SA), .val (Value.int kA), .val (Value.int kB), .val (Value.int SB), .val (Value.ref ad5), .unset, .unset] [(Value.int (0 : Int32)), (Value.ref ad1), (Value.int (1 : Int32)), (Value.int SA)]))
              refine own_iaload X29 hx hby hZ rfl A30_ad1 (j := (0 : Int32)) (i := 0) (by decide) (by decide) at_358 ?_
              show own_G p e below s _ _ _ (T29.setTop (mkF m 359 #[.val (Value.int x0), .val (Value.int x1), .val (Value.int x2), .val (Value.int x3), .val (Value.int ra), .val (Value.int rb), .val (Value.int pf), .val (Value.int df), .val (Value.ref ad1), .val (Value.int kA), .val (Value.int SA), .val (Value.int kA), .val (Value.int kB), .val (Value.int SB), .val (Value.ref ad5), .unset, .unset] [(Value.int (f 0)), (Value.int (1 : Int32)), (Value.int SA)]))
              refine own_ishl X29 hx hby at_359 ?_
              show own_G p e below s _ _ _ (T29.setTop (mkF m 360 #[.val (Value.int x0), .val (Value.int x1), .val (Value.int x2), .val (Value.int x3), .val (Value.int ra), .val (Value.int rb), .val (Value.int pf), .val (Value.int df), .val (Value.ref ad1), .val (Value.int kA), .val (Value.int SA), .val (Value.int kA), .val (Value.int kB), .val (Value.int SB), .val (Value.ref ad5), .unset, .unset] [(Value.int ((1 : Int32) <<< ((f 0) &&& 31))), (Value.int SA)]))
              refine own_iconst X29 hx hby at_360 ?_
              show own_G p e below s _ _ _ (T29.setTop (mkF m 361 #[.val (Value.int x0), .val (Value.int x1), .val (Value.int x2), .val (Value.int x3), .val (Value.int ra), .val (Value.int rb), .val (Value.int pf), .val (Value.int df), .val (Value.ref ad1), .val (Value.int kA), .val (Value.int SA), .val (Value.int kA), .val (Value.int kB), .val (Value.int SB), .val (Value.ref ad5), .unset, .unset] [(Value.int (-1 : Int32)), (Value.int ((1 : Int32) <<< ((f 0) &&& 31))), (Value.int SA)]))
              refine own_ixor X29 hx hby at_361 ?_
              show own_G p e below s _ _ _ (T29.setTop (mkF m 362 #[.val (Value.int x0), .val (Value.int x1), .val (Value.int x2), .val (Value.int x3), .val (Value.int ra), .val (Value.int rb), .val (Value.int pf), .val (Value.int df), .val (Value.ref ad1), .val (Value.int kA), .val (Value.int SA), .val (Value.int kA), .val (Value.int kB), .val (Value.int SB), .val (Value.ref ad5), .unset, .unset] [(Value.int (((1 : Int32) <<< ((f 0) &&& 31)) ^^^ (-1 : Int32))), (Value.int SA)]))
              refine own_iand X29 hx hby at_362 ?_
              show own_G p e below s _ _ _ (T29.setTop (mkF m 363 #[.val (Value.int x0), .val (Value.int x1), .val (Value.int x2), .val (Value.int x3), .val (Value.int ra), .val (Value.int rb), .val (Value.int pf), .val (Value.int df), .val (Value.ref ad1), .val (Value.int kA), .val (Value.int SA), .val (Value.int kA), .val (Value.int kB), .val (Value.int SB), .val (Value.ref ad5), .unset, .unset] [(Value.int (SA &&& (((1 : Int32) <<< ((f 0) &&& 31)) ^^^ (-1 : Int32))))]))
              refine own_istore X29 hx hby at_363 (l' := #[.val (Value.int x0), .val (Value.int x1), .val (Value.int x2), .val (Value.int x3), .val (Value.int ra), .val (Value.int rb), .val (Value.int pf), .val (Value.int df), .val (Value.ref ad1), .val (Value.int kA), .val (Value.int (SA &&& (((1 : Int32) <<< ((f 0) &&& 31)) ^^^ (-1 : Int32)))), .val (Value.int kA), .val (Value.int kB), .val (Value.int SB), .val (Value.ref ad5), .unset, .unset]) rfl ?_
              show own_G p e below s _ _ _ (T29.setTop (mkF m 365 #[.val (Value.int x0), .val (Value.int x1), .val (Value.int x2), .val (Value.int x3), .val (Value.int ra), .val (Value.int rb), .val (Value.int pf), .val (Value.int df), .val (Value.ref ad1), .val (Value.int kA), .val (Value.int (SA &&& (((1 : Int32) <<< ((f 0) &&& 31)) ^^^ (-1 : Int32)))), .val (Value.int kA), .val (Value.int kB), .val (Value.int SB), .val (Value.ref ad5), .unset, .unset] []))
              have hlA : kA = (own_s4 ra b0 b1 b2 b3).length.toInt32 := Int32.toInt_inj.mp (by rw [hkA, Nat.zero_add, len_toInt (by have := own_l4 ra b0 b1 b2 b3; omega)])
              have e0 : (kA - (0 : Int32)) = (own_s4 ra b0 b1 b2 b3).length.toInt32 := by rw [hlA]; exact Int32.sub_zero _
              have HX := own_H_drop (M := (own_upd (fun _ => (0 : Int32)) f 4 (1 : Int32) (own_s4 rb c0 c1 c2 c3).length)) (u := (2 : Int32)) hra (fun v hv => by rw [own_upd_has hfB]; split <;> decide) (by decide) hfA hpos
              rw [← e0, ← hSA] at HX
              exact JX _ _ _ (own_up (own_upd (own_upd (fun _ => (0 : Int32)) f 4 (1 : Int32) (own_s4 rb c0 c1 c2 c3).length) f 0 (2 : Int32) (own_s4 ra b0 b1 b2 b3).length) ((f 0)).toInt.toNat (0 : Int32)) (2 : Int32) ((kA - (0 : Int32)) - (1 : Int32)) (SA &&& (((1 : Int32) <<< ((f 0) &&& 31)) ^^^ (-1 : Int32))) X29 rfl N29 O30 Fq29a Fq29b Fq29c E30_ad5 A30_ad1 Aq29 HX
      have JB3 : ∀ (T31 : State) (h31 : Heap) (lo31 : List Loc) (f : Nat → Int32) (c0 c1 c2 : Bool) (kB SB : Int32) (X31 : Stand p l e room_1 s m #[(Value.int x0), (Value.int x1), (Value.int x2), (Value.int x3)] below meth c T31 lo31 1 8) (e31 : T31.heap = h31) (N31 : Fr n0 lo31) (O31 : Old Z n0 h31) (A31_ad1 : own_Ar Z h31 ad1 .int 8 (fun j => .int (f j))) (hkB : kB.toInt = ((4 + (own_s3 rb c0 c1 c2).length : Nat) : Int)) (hSB : SB = own_mask (own_s3 rb c0 c1 c2)) (hfB : own_ag f 4 (own_s3 rb c0 c1 c2)) (hfA : own_ag f 0 (own_s4 ra b0 b1 b2 b3)), own_G p e below s (own_rm0_Q Z x0 x1 x2 x3 h0 n0) 16 128 (T31.setTop (mkF m 268 #[.val (Value.int x0), .val (Value.int x1), .val (Value.int x2), .val (Value.int x3), .val (Value.int ra), .val (Value.int rb), .val (Value.int pf), .val (Value.int df), .val (Value.ref ad1), .val (Value.int kA), .val (Value.int SA), .val (Value.int kA), .val (Value.int kB), .val (Value.int SB), .unset, .unset, .unset] [])) := by
        intro T31 h31 lo31 f c0 c1 c2 kB SB X31 e31 N31 O31 A31_ad1 hkB hSB hfB hfA
        show own_G p e below s _ _ _ (T31.setTop (mkF m 268 #[.val (Value.int x0), .val (Value.int x1), .val (Value.int x2), .val (Value.int x3), .val (Value.int ra), .val (Value.int rb), .val (Value.int pf), .val (Value.int df), .val (Value.ref ad1), .val (Value.int kA), .val (Value.int SA), .val (Value.int kA), .val (Value.int kB), .val (Value.int SB), .unset, .unset, .unset] []))
        refine own_iloadN X31 hx hby at_268 rfl ?_
        show own_G p e below s _ _ _ (T31.setTop (mkF m 269 #[.val (Value.int x0), .val (Value.int x1), .val (Value.int x2), .val (Value.int x3), .val (Value.int ra), .val (Value.int rb), .val (Value.int pf), .val (Value.int df), .val (Value.ref ad1), .val (Value.int kA), .val (Value.int SA), .val (Value.int kA), .val (Value.int kB), .val (Value.int SB), .unset, .unset, .unset] [(Value.int x1)]))
        refine own_bipush X31 hx hby at_269 ?_
        show own_G p e below s _ _ _ (T31.setTop (mkF m 271 #[.val (Value.int x0), .val (Value.int x1), .val (Value.int x2), .val (Value.int x3), .val (Value.int ra), .val (Value.int rb), .val (Value.int pf), .val (Value.int df), .val (Value.ref ad1), .val (Value.int kA), .val (Value.int SA), .val (Value.int kA), .val (Value.int kB), .val (Value.int SB), .unset, .unset, .unset] [(Value.int (8 : Int32)), (Value.int x1)]))
        refine own_iand X31 hx hby at_271 ?_
        show own_G p e below s _ _ _ (T31.setTop (mkF m 272 #[.val (Value.int x0), .val (Value.int x1), .val (Value.int x2), .val (Value.int x3), .val (Value.int ra), .val (Value.int rb), .val (Value.int pf), .val (Value.int df), .val (Value.ref ad1), .val (Value.int kA), .val (Value.int SA), .val (Value.int kA), .val (Value.int kB), .val (Value.int SB), .unset, .unset, .unset] [(Value.int (x1 &&& (8 : Int32)))]))
        refine own_if_eq X31 hx hby at_272 (pc' := 298) (by decide) (by decide) (fun hb32 => ?_) (fun hb32 => ?_)
        · show own_G p e below s _ _ _ (T31.setTop (mkF m 298 #[.val (Value.int x0), .val (Value.int x1), .val (Value.int x2), .val (Value.int x3), .val (Value.int ra), .val (Value.int rb), .val (Value.int pf), .val (Value.int df), .val (Value.ref ad1), .val (Value.int kA), .val (Value.int SA), .val (Value.int kA), .val (Value.int kB), .val (Value.int SB), .unset, .unset, .unset] []))
          exact JB4 _ _ _ f c0 c1 c2 false kB SB X31 e31 N31 O31 A31_ad1 (by rw [show (own_s4 rb c0 c1 c2 false) = (own_s3 rb c0 c1 c2) from by simp [own_s4]]; exact hkB) (by rw [show (own_s4 rb c0 c1 c2 false) = (own_s3 rb c0 c1 c2) from by simp [own_s4]]; exact hSB) (by rw [show (own_s4 rb c0 c1 c2 false) = (own_s3 rb c0 c1 c2) from by simp [own_s4]]; exact hfB) hfA
        · show own_G p e below s _ _ _ (T31.setTop (mkF m 275 #[.val (Value.int x0), .val (Value.int x1), .val (Value.int x2), .val (Value.int x3), .val (Value.int ra), .val (Value.int rb), .val (Value.int pf), .val (Value.int df), .val (Value.ref ad1), .val (Value.int kA), .val (Value.int SA), .val (Value.int kA), .val (Value.int kB), .val (Value.int SB), .unset, .unset, .unset] []))
          refine own_aload X31 hx hby at_275 rfl rfl ?_
          show own_G p e below s _ _ _ (T31.setTop (mkF m 277 #[.val (Value.int x0), .val (Value.int x1), .val (Value.int x2), .val (Value.int x3), .val (Value.int ra), .val (Value.int rb), .val (Value.int pf), .val (Value.int df), .val (Value.ref ad1), .val (Value.int kA), .val (Value.int SA), .val (Value.int kA), .val (Value.int kB), .val (Value.int SB), .unset, .unset, .unset] [(Value.ref ad1)]))
          refine own_iload X31 hx hby at_277 rfl ?_
          show own_G p e below s _ _ _ (T31.setTop (mkF m 279 #[.val (Value.int x0), .val (Value.int x1), .val (Value.int x2), .val (Value.int x3), .val (Value.int ra), .val (Value.int rb), .val (Value.int pf), .val (Value.int df), .val (Value.ref ad1), .val (Value.int kA), .val (Value.int SA), .val (Value.int kA), .val (Value.int kB), .val (Value.int SB), .unset, .unset, .unset] [(Value.int kB), (Value.ref ad1)]))
          refine own_iconst X31 hx hby at_279 ?_
          show own_G p e below s _ _ _ (T31.setTop (mkF m 280 #[.val (Value.int x0), .val (Value.int x1), .val (Value.int x2), .val (Value.int x3), .val (Value.int ra), .val (Value.int rb), .val (Value.int pf), .val (Value.int df), .val (Value.ref ad1), .val (Value.int kA), .val (Value.int SA), .val (Value.int kA), .val (Value.int kB), .val (Value.int SB), .unset, .unset, .unset] [(Value.int (3 : Int32)), (Value.int kB), (Value.ref ad1)]))
          refine own_iload X31 hx hby at_280 rfl ?_
          show own_G p e below s _ _ _ (T31.setTop (mkF m 282 #[.val (Value.int x0), .val (Value.int x1), .val (Value.int x2), .val (Value.int x3), .val (Value.int ra), .val (Value.int rb), .val (Value.int pf), .val (Value.int df), .val (Value.ref ad1), .val (Value.int kA), .val (Value.int SA), .val (Value.int kA), .val (Value.int kB), .val (Value.int SB), .unset, .unset, .unset] [(Value.int rb), (Value.int (3 : Int32)), (Value.int kB), (Value.ref ad1)]))
          refine own_ixor X31 hx hby at_282 ?_
          show own_G p e below s _ _ _ (T31.setTop (mkF m 283 #[.val (Value.int x0), .val (Value.int x1), .val (Value.int x2), .val (Value.int x3), .val (Value.int ra), .val (Value.int rb), .val (Value.int pf), .val (Value.int df), .val (Value.ref ad1), .val (Value.int kA), .val (Value.int SA), .val (Value.int kA), .val (Value.int kB), .val (Value.int SB), .unset, .unset, .unset] [(Value.int ((3 : Int32) ^^^ rb)), (Value.int kB), (Value.ref ad1)]))
          obtain ⟨T33, h33, X33, e33, W33, A33, st33⟩ := own_iastore X31 hx hby hZ e31 A31_ad1 (j := kB) (i := (4 + (own_s3 rb c0 c1 c2).length)) hkB (by have := own_l3 rb c0 c1 c2; omega) (x := ((3 : Int32) ^^^ rb)) at_283 (Ls := #[.val (Value.int x0), .val (Value.int x1), .val (Value.int x2), .val (Value.int x3), .val (Value.int ra), .val (Value.int rb), .val (Value.int pf), .val (Value.int df), .val (Value.ref ad1), .val (Value.int kA), .val (Value.int SA), .val (Value.int kA), .val (Value.int kB), .val (Value.int SB), .unset, .unset, .unset]) (st := [])
          have O34 := Old.wr O31 W33 g1n
          have N33 := Fr.snoc X33 N31 g1n
          have A33n : own_Ar Z h33 ad1 .int 8 (fun j => .int ((own_up f (4 + (own_s3 rb c0 c1 c2).length) ((3 : Int32) ^^^ rb)) j)) := own_Ar.fn A33 (by intro j _; simp only [own_set, own_up]; split <;> rfl)
          refine own_st st33 ?_
          show own_G p e below s _ _ _ (T33.setTop (mkF m 284 #[.val (Value.int x0), .val (Value.int x1), .val (Value.int x2), .val (Value.int x3), .val (Value.int ra), .val (Value.int rb), .val (Value.int pf), .val (Value.int df), .val (Value.ref ad1), .val (Value.int kA), .val (Value.int SA), .val (Value.int kA), .val (Value.int kB), .val (Value.int SB), .unset, .unset, .unset] []))
          refine own_iinc X33 hx hby at_284 rfl (l' := #[.val (Value.int x0), .val (Value.int x1), .val (Value.int x2), .val (Value.int x3), .val (Value.int ra), .val (Value.int rb), .val (Value.int pf), .val (Value.int df), .val (Value.ref ad1), .val (Value.int kA), .val (Value.int SA), .val (Value.int kA), .val (Value.int (kB + (1 : Int32))), .val (Value.int SB), .unset, .unset, .unset]) rfl ?_
          show own_G p e below s _ _ _ (T33.setTop (mkF m 287 #[.val (Value.int x0), .val (Value.int x1), .val (Value.int x2), .val (Value.int x3), .val (Value.int ra), .val (Value.int rb), .val (Value.int pf), .val (Value.int df), .val (Value.ref ad1), .val (Value.int kA), .val (Value.int SA), .val (Value.int kA), .val (Value.int (kB + (1 : Int32))), .val (Value.int SB), .unset, .unset, .unset] []))
          refine own_iload X33 hx hby at_287 rfl ?_
          show own_G p e below s _ _ _ (T33.setTop (mkF m 289 #[.val (Value.int x0), .val (Value.int x1), .val (Value.int x2), .val (Value.int x3), .val (Value.int ra), .val (Value.int rb), .val (Value.int pf), .val (Value.int df), .val (Value.ref ad1), .val (Value.int kA), .val (Value.int SA), .val (Value.int kA), .val (Value.int (kB + (1 : Int32))), .val (Value.int SB), .unset, .unset, .unset] [(Value.int SB)]))
          refine own_iconst X33 hx hby at_289 ?_
          show own_G p e below s _ _ _ (T33.setTop (mkF m 290 #[.val (Value.int x0), .val (Value.int x1), .val (Value.int x2), .val (Value.int x3), .val (Value.int ra), .val (Value.int rb), .val (Value.int pf), .val (Value.int df), .val (Value.ref ad1), .val (Value.int kA), .val (Value.int SA), .val (Value.int kA), .val (Value.int (kB + (1 : Int32))), .val (Value.int SB), .unset, .unset, .unset] [(Value.int (1 : Int32)), (Value.int SB)]))
          refine own_iconst X33 hx hby at_290 ?_
          show own_G p e below s _ _ _ (T33.setTop (mkF m 291 #[.val (Value.int x0), .val (Value.int x1), .val (Value.int x2), .val (Value.int x3), .val (Value.int ra), .val (Value.int rb), .val (Value.int pf), .val (Value.int df), .val (Value.ref ad1), .val (Value.int kA), .val (Value.int SA), .val (Value.int kA), .val (Value.int (kB + (1 : Int32))), .val (Value.int SB), .unset, .unset, .unset] [(Value.int (3 : Int32)), (Value.int (1 : Int32)), (Value.int SB)]))
          refine own_iload X33 hx hby at_291 rfl ?_
          show own_G p e below s _ _ _ (T33.setTop (mkF m 293 #[.val (Value.int x0), .val (Value.int x1), .val (Value.int x2), .val (Value.int x3), .val (Value.int ra), .val (Value.int rb), .val (Value.int pf), .val (Value.int df), .val (Value.ref ad1), .val (Value.int kA), .val (Value.int SA), .val (Value.int kA), .val (Value.int (kB + (1 : Int32))), .val (Value.int SB), .unset, .unset, .unset] [(Value.int rb), (Value.int (3 : Int32)), (Value.int (1 : Int32)), (Value.int SB)]))
          refine own_ixor X33 hx hby at_293 ?_
          show own_G p e below s _ _ _ (T33.setTop (mkF m 294 #[.val (Value.int x0), .val (Value.int x1), .val (Value.int x2), .val (Value.int x3), .val (Value.int ra), .val (Value.int rb), .val (Value.int pf), .val (Value.int df), .val (Value.ref ad1), .val (Value.int kA), .val (Value.int SA), .val (Value.int kA), .val (Value.int (kB + (1 : Int32))), .val (Value.int SB), .unset, .unset, .unset] [(Value.int ((3 : Int32) ^^^ rb)), (Value.int (1 : Int32)), (Value.int SB)]))
          refine own_ishl X33 hx hby at_294 ?_
          show own_G p e below s _ _ _ (T33.setTop (mkF m 295 #[.val (Value.int x0), .val (Value.int x1), .val (Value.int x2), .val (Value.int x3), .val (Value.int ra), .val (Value.int rb), .val (Value.int pf), .val (Value.int df), .val (Value.ref ad1), .val (Value.int kA), .val (Value.int SA), .val (Value.int kA), .val (Value.int (kB + (1 : Int32))), .val (Value.int SB), .unset, .unset, .unset] [(Value.int ((1 : Int32) <<< (((3 : Int32) ^^^ rb) &&& 31))), (Value.int SB)]))
          refine own_ior X33 hx hby at_295 ?_
          show own_G p e below s _ _ _ (T33.setTop (mkF m 296 #[.val (Value.int x0), .val (Value.int x1), .val (Value.int x2), .val (Value.int x3), .val (Value.int ra), .val (Value.int rb), .val (Value.int pf), .val (Value.int df), .val (Value.ref ad1), .val (Value.int kA), .val (Value.int SA), .val (Value.int kA), .val (Value.int (kB + (1 : Int32))), .val (Value.int SB), .unset, .unset, .unset] [(Value.int (SB ||| ((1 : Int32) <<< (((3 : Int32) ^^^ rb) &&& 31))))]))
          refine own_istore X33 hx hby at_296 (l' := #[.val (Value.int x0), .val (Value.int x1), .val (Value.int x2), .val (Value.int x3), .val (Value.int ra), .val (Value.int rb), .val (Value.int pf), .val (Value.int df), .val (Value.ref ad1), .val (Value.int kA), .val (Value.int SA), .val (Value.int kA), .val (Value.int (kB + (1 : Int32))), .val (Value.int (SB ||| ((1 : Int32) <<< (((3 : Int32) ^^^ rb) &&& 31)))), .unset, .unset, .unset]) rfl ?_
          show own_G p e below s _ _ _ (T33.setTop (mkF m 298 #[.val (Value.int x0), .val (Value.int x1), .val (Value.int x2), .val (Value.int x3), .val (Value.int ra), .val (Value.int rb), .val (Value.int pf), .val (Value.int df), .val (Value.ref ad1), .val (Value.int kA), .val (Value.int SA), .val (Value.int kA), .val (Value.int (kB + (1 : Int32))), .val (Value.int (SB ||| ((1 : Int32) <<< (((3 : Int32) ^^^ rb) &&& 31)))), .unset, .unset, .unset] []))
          exact JB4 _ _ _ (own_up f (4 + (own_s3 rb c0 c1 c2).length) ((3 : Int32) ^^^ rb)) c0 c1 c2 true (kB + (1 : Int32)) (SB ||| ((1 : Int32) <<< (((3 : Int32) ^^^ rb) &&& 31))) X33 e33 N33 O34 A33n (show _ = ((4 + (own_s4 rb c0 c1 c2 true).length : Nat) : Int) from own_kpush hkB _ (by have := own_l3 rb c0 c1 c2; omega)) (by show _ = own_mask ((own_s3 rb c0 c1 c2) ++ [_]); rw [own_mask_push]; first | rfl | rw [← hSB]) (own_ag_push hfB _) (own_ag_up hfA _ (by have := own_l4 ra b0 b1 b2 b3; omega))
      have JB2 : ∀ (T35 : State) (h35 : Heap) (lo35 : List Loc) (f : Nat → Int32) (c0 c1 : Bool) (kB SB : Int32) (X35 : Stand p l e room_1 s m #[(Value.int x0), (Value.int x1), (Value.int x2), (Value.int x3)] below meth c T35 lo35 1 8) (e35 : T35.heap = h35) (N35 : Fr n0 lo35) (O35 : Old Z n0 h35) (A35_ad1 : own_Ar Z h35 ad1 .int 8 (fun j => .int (f j))) (hkB : kB.toInt = ((4 + (own_s2 rb c0 c1).length : Nat) : Int)) (hSB : SB = own_mask (own_s2 rb c0 c1)) (hfB : own_ag f 4 (own_s2 rb c0 c1)) (hfA : own_ag f 0 (own_s4 ra b0 b1 b2 b3)), own_G p e below s (own_rm0_Q Z x0 x1 x2 x3 h0 n0) 16 128 (T35.setTop (mkF m 239 #[.val (Value.int x0), .val (Value.int x1), .val (Value.int x2), .val (Value.int x3), .val (Value.int ra), .val (Value.int rb), .val (Value.int pf), .val (Value.int df), .val (Value.ref ad1), .val (Value.int kA), .val (Value.int SA), .val (Value.int kA), .val (Value.int kB), .val (Value.int SB), .unset, .unset, .unset] [])) := by
        intro T35 h35 lo35 f c0 c1 kB SB X35 e35 N35 O35 A35_ad1 hkB hSB hfB hfA
        show own_G p e below s _ _ _ (T35.setTop (mkF m 239 #[.val (Value.int x0), .val (Value.int x1), .val (Value.int x2), .val (Value.int x3), .val (Value.int ra), .val (Value.int rb), .val (Value.int pf), .val (Value.int df), .val (Value.ref ad1), .val (Value.int kA), .val (Value.int SA), .val (Value.int kA), .val (Value.int kB), .val (Value.int SB), .unset, .unset, .unset] []))
        refine own_iloadN X35 hx hby at_239 rfl ?_
        show own_G p e below s _ _ _ (T35.setTop (mkF m 240 #[.val (Value.int x0), .val (Value.int x1), .val (Value.int x2), .val (Value.int x3), .val (Value.int ra), .val (Value.int rb), .val (Value.int pf), .val (Value.int df), .val (Value.ref ad1), .val (Value.int kA), .val (Value.int SA), .val (Value.int kA), .val (Value.int kB), .val (Value.int SB), .unset, .unset, .unset] [(Value.int x1)]))
        refine own_iconst X35 hx hby at_240 ?_
        show own_G p e below s _ _ _ (T35.setTop (mkF m 241 #[.val (Value.int x0), .val (Value.int x1), .val (Value.int x2), .val (Value.int x3), .val (Value.int ra), .val (Value.int rb), .val (Value.int pf), .val (Value.int df), .val (Value.ref ad1), .val (Value.int kA), .val (Value.int SA), .val (Value.int kA), .val (Value.int kB), .val (Value.int SB), .unset, .unset, .unset] [(Value.int (4 : Int32)), (Value.int x1)]))
        refine own_iand X35 hx hby at_241 ?_
        show own_G p e below s _ _ _ (T35.setTop (mkF m 242 #[.val (Value.int x0), .val (Value.int x1), .val (Value.int x2), .val (Value.int x3), .val (Value.int ra), .val (Value.int rb), .val (Value.int pf), .val (Value.int df), .val (Value.ref ad1), .val (Value.int kA), .val (Value.int SA), .val (Value.int kA), .val (Value.int kB), .val (Value.int SB), .unset, .unset, .unset] [(Value.int (x1 &&& (4 : Int32)))]))
        refine own_if_eq X35 hx hby at_242 (pc' := 268) (by decide) (by decide) (fun hb36 => ?_) (fun hb36 => ?_)
        · show own_G p e below s _ _ _ (T35.setTop (mkF m 268 #[.val (Value.int x0), .val (Value.int x1), .val (Value.int x2), .val (Value.int x3), .val (Value.int ra), .val (Value.int rb), .val (Value.int pf), .val (Value.int df), .val (Value.ref ad1), .val (Value.int kA), .val (Value.int SA), .val (Value.int kA), .val (Value.int kB), .val (Value.int SB), .unset, .unset, .unset] []))
          exact JB3 _ _ _ f c0 c1 false kB SB X35 e35 N35 O35 A35_ad1 (by rw [show (own_s3 rb c0 c1 false) = (own_s2 rb c0 c1) from by simp [own_s3]]; exact hkB) (by rw [show (own_s3 rb c0 c1 false) = (own_s2 rb c0 c1) from by simp [own_s3]]; exact hSB) (by rw [show (own_s3 rb c0 c1 false) = (own_s2 rb c0 c1) from by simp [own_s3]]; exact hfB) hfA
        · show own_G p e below s _ _ _ (T35.setTop (mkF m 245 #[.val (Value.int x0), .val (Value.int x1), .val (Value.int x2), .val (Value.int x3), .val (Value.int ra), .val (Value.int rb), .val (Value.int pf), .val (Value.int df), .val (Value.ref ad1), .val (Value.int kA), .val (Value.int SA), .val (Value.int kA), .val (Value.int kB), .val (Value.int SB), .unset, .unset, .unset] []))
          refine own_aload X35 hx hby at_245 rfl rfl ?_
          show own_G p e below s _ _ _ (T35.setTop (mkF m 247 #[.val (Value.int x0), .val (Value.int x1), .val (Value.int x2), .val (Value.int x3), .val (Value.int ra), .val (Value.int rb), .val (Value.int pf), .val (Value.int df), .val (Value.ref ad1), .val (Value.int kA), .val (Value.int SA), .val (Value.int kA), .val (Value.int kB), .val (Value.int SB), .unset, .unset, .unset] [(Value.ref ad1)]))
          refine own_iload X35 hx hby at_247 rfl ?_
          show own_G p e below s _ _ _ (T35.setTop (mkF m 249 #[.val (Value.int x0), .val (Value.int x1), .val (Value.int x2), .val (Value.int x3), .val (Value.int ra), .val (Value.int rb), .val (Value.int pf), .val (Value.int df), .val (Value.ref ad1), .val (Value.int kA), .val (Value.int SA), .val (Value.int kA), .val (Value.int kB), .val (Value.int SB), .unset, .unset, .unset] [(Value.int kB), (Value.ref ad1)]))
          refine own_iconst X35 hx hby at_249 ?_
          show own_G p e below s _ _ _ (T35.setTop (mkF m 250 #[.val (Value.int x0), .val (Value.int x1), .val (Value.int x2), .val (Value.int x3), .val (Value.int ra), .val (Value.int rb), .val (Value.int pf), .val (Value.int df), .val (Value.ref ad1), .val (Value.int kA), .val (Value.int SA), .val (Value.int kA), .val (Value.int kB), .val (Value.int SB), .unset, .unset, .unset] [(Value.int (2 : Int32)), (Value.int kB), (Value.ref ad1)]))
          refine own_iload X35 hx hby at_250 rfl ?_
          show own_G p e below s _ _ _ (T35.setTop (mkF m 252 #[.val (Value.int x0), .val (Value.int x1), .val (Value.int x2), .val (Value.int x3), .val (Value.int ra), .val (Value.int rb), .val (Value.int pf), .val (Value.int df), .val (Value.ref ad1), .val (Value.int kA), .val (Value.int SA), .val (Value.int kA), .val (Value.int kB), .val (Value.int SB), .unset, .unset, .unset] [(Value.int rb), (Value.int (2 : Int32)), (Value.int kB), (Value.ref ad1)]))
          refine own_ixor X35 hx hby at_252 ?_
          show own_G p e below s _ _ _ (T35.setTop (mkF m 253 #[.val (Value.int x0), .val (Value.int x1), .val (Value.int x2), .val (Value.int x3), .val (Value.int ra), .val (Value.int rb), .val (Value.int pf), .val (Value.int df), .val (Value.ref ad1), .val (Value.int kA), .val (Value.int SA), .val (Value.int kA), .val (Value.int kB), .val (Value.int SB), .unset, .unset, .unset] [(Value.int ((2 : Int32) ^^^ rb)), (Value.int kB), (Value.ref ad1)]))
          obtain ⟨T37, h37, X37, e37, W37, A37, st37⟩ := own_iastore X35 hx hby hZ e35 A35_ad1 (j := kB) (i := (4 + (own_s2 rb c0 c1).length)) hkB (by have := own_l2 rb c0 c1; omega) (x := ((2 : Int32) ^^^ rb)) at_253 (Ls := #[.val (Value.int x0), .val (Value.int x1), .val (Value.int x2), .val (Value.int x3), .val (Value.int ra), .val (Value.int rb), .val (Value.int pf), .val (Value.int df), .val (Value.ref ad1), .val (Value.int kA), .val (Value.int SA), .val (Value.int kA), .val (Value.int kB), .val (Value.int SB), .unset, .unset, .unset]) (st := [])
          have O38 := Old.wr O35 W37 g1n
          have N37 := Fr.snoc X37 N35 g1n
          have A37n : own_Ar Z h37 ad1 .int 8 (fun j => .int ((own_up f (4 + (own_s2 rb c0 c1).length) ((2 : Int32) ^^^ rb)) j)) := own_Ar.fn A37 (by intro j _; simp only [own_set, own_up]; split <;> rfl)
          refine own_st st37 ?_
          show own_G p e below s _ _ _ (T37.setTop (mkF m 254 #[.val (Value.int x0), .val (Value.int x1), .val (Value.int x2), .val (Value.int x3), .val (Value.int ra), .val (Value.int rb), .val (Value.int pf), .val (Value.int df), .val (Value.ref ad1), .val (Value.int kA), .val (Value.int SA), .val (Value.int kA), .val (Value.int kB), .val (Value.int SB), .unset, .unset, .unset] []))
          refine own_iinc X37 hx hby at_254 rfl (l' := #[.val (Value.int x0), .val (Value.int x1), .val (Value.int x2), .val (Value.int x3), .val (Value.int ra), .val (Value.int rb), .val (Value.int pf), .val (Value.int df), .val (Value.ref ad1), .val (Value.int kA), .val (Value.int SA), .val (Value.int kA), .val (Value.int (kB + (1 : Int32))), .val (Value.int SB), .unset, .unset, .unset]) rfl ?_
          show own_G p e below s _ _ _ (T37.setTop (mkF m 257 #[.val (Value.int x0), .val (Value.int x1), .val (Value.int x2), .val (Value.int x3), .val (Value.int ra), .val (Value.int rb), .val (Value.int pf), .val (Value.int df), .val (Value.ref ad1), .val (Value.int kA), .val (Value.int SA), .val (Value.int kA), .val (Value.int (kB + (1 : Int32))), .val (Value.int SB), .unset, .unset, .unset] []))
          refine own_iload X37 hx hby at_257 rfl ?_
          show own_G p e below s _ _ _ (T37.setTop (mkF m 259 #[.val (Value.int x0), .val (Value.int x1), .val (Value.int x2), .val (Value.int x3), .val (Value.int ra), .val (Value.int rb), .val (Value.int pf), .val (Value.int df), .val (Value.ref ad1), .val (Value.int kA), .val (Value.int SA), .val (Value.int kA), .val (Value.int (kB + (1 : Int32))), .val (Value.int SB), .unset, .unset, .unset] [(Value.int SB)]))
          refine own_iconst X37 hx hby at_259 ?_
          show own_G p e below s _ _ _ (T37.setTop (mkF m 260 #[.val (Value.int x0), .val (Value.int x1), .val (Value.int x2), .val (Value.int x3), .val (Value.int ra), .val (Value.int rb), .val (Value.int pf), .val (Value.int df), .val (Value.ref ad1), .val (Value.int kA), .val (Value.int SA), .val (Value.int kA), .val (Value.int (kB + (1 : Int32))), .val (Value.int SB), .unset, .unset, .unset] [(Value.int (1 : Int32)), (Value.int SB)]))
          refine own_iconst X37 hx hby at_260 ?_
          show own_G p e below s _ _ _ (T37.setTop (mkF m 261 #[.val (Value.int x0), .val (Value.int x1), .val (Value.int x2), .val (Value.int x3), .val (Value.int ra), .val (Value.int rb), .val (Value.int pf), .val (Value.int df), .val (Value.ref ad1), .val (Value.int kA), .val (Value.int SA), .val (Value.int kA), .val (Value.int (kB + (1 : Int32))), .val (Value.int SB), .unset, .unset, .unset] [(Value.int (2 : Int32)), (Value.int (1 : Int32)), (Value.int SB)]))
          refine own_iload X37 hx hby at_261 rfl ?_
          show own_G p e below s _ _ _ (T37.setTop (mkF m 263 #[.val (Value.int x0), .val (Value.int x1), .val (Value.int x2), .val (Value.int x3), .val (Value.int ra), .val (Value.int rb), .val (Value.int pf), .val (Value.int df), .val (Value.ref ad1), .val (Value.int kA), .val (Value.int SA), .val (Value.int kA), .val (Value.int (kB + (1 : Int32))), .val (Value.int SB), .unset, .unset, .unset] [(Value.int rb), (Value.int (2 : Int32)), (Value.int (1 : Int32)), (Value.int SB)]))
          refine own_ixor X37 hx hby at_263 ?_
          show own_G p e below s _ _ _ (T37.setTop (mkF m 264 #[.val (Value.int x0), .val (Value.int x1), .val (Value.int x2), .val (Value.int x3), .val (Value.int ra), .val (Value.int rb), .val (Value.int pf), .val (Value.int df), .val (Value.ref ad1), .val (Value.int kA), .val (Value.int SA), .val (Value.int kA), .val (Value.int (kB + (1 : Int32))), .val (Value.int SB), .unset, .unset, .unset] [(Value.int ((2 : Int32) ^^^ rb)), (Value.int (1 : Int32)), (Value.int SB)]))
          refine own_ishl X37 hx hby at_264 ?_
          show own_G p e below s _ _ _ (T37.setTop (mkF m 265 #[.val (Value.int x0), .val (Value.int x1), .val (Value.int x2), .val (Value.int x3), .val (Value.int ra), .val (Value.int rb), .val (Value.int pf), .val (Value.int df), .val (Value.ref ad1), .val (Value.int kA), .val (Value.int SA), .val (Value.int kA), .val (Value.int (kB + (1 : Int32))), .val (Value.int SB), .unset, .unset, .unset] [(Value.int ((1 : Int32) <<< (((2 : Int32) ^^^ rb) &&& 31))), (Value.int SB)]))
          refine own_ior X37 hx hby at_265 ?_
          show own_G p e below s _ _ _ (T37.setTop (mkF m 266 #[.val (Value.int x0), .val (Value.int x1), .val (Value.int x2), .val (Value.int x3), .val (Value.int ra), .val (Value.int rb), .val (Value.int pf), .val (Value.int df), .val (Value.ref ad1), .val (Value.int kA), .val (Value.int SA), .val (Value.int kA), .val (Value.int (kB + (1 : Int32))), .val (Value.int SB), .unset, .unset, .unset] [(Value.int (SB ||| ((1 : Int32) <<< (((2 : Int32) ^^^ rb) &&& 31))))]))
          refine own_istore X37 hx hby at_266 (l' := #[.val (Value.int x0), .val (Value.int x1), .val (Value.int x2), .val (Value.int x3), .val (Value.int ra), .val (Value.int rb), .val (Value.int pf), .val (Value.int df), .val (Value.ref ad1), .val (Value.int kA), .val (Value.int SA), .val (Value.int kA), .val (Value.int (kB + (1 : Int32))), .val (Value.int (SB ||| ((1 : Int32) <<< (((2 : Int32) ^^^ rb) &&& 31)))), .unset, .unset, .unset]) rfl ?_
          show own_G p e below s _ _ _ (T37.setTop (mkF m 268 #[.val (Value.int x0), .val (Value.int x1), .val (Value.int x2), .val (Value.int x3), .val (Value.int ra), .val (Value.int rb), .val (Value.int pf), .val (Value.int df), .val (Value.ref ad1), .val (Value.int kA), .val (Value.int SA), .val (Value.int kA), .val (Value.int (kB + (1 : Int32))), .val (Value.int (SB ||| ((1 : Int32) <<< (((2 : Int32) ^^^ rb) &&& 31)))), .unset, .unset, .unset] []))
          exact JB3 _ _ _ (own_up f (4 + (own_s2 rb c0 c1).length) ((2 : Int32) ^^^ rb)) c0 c1 true (kB + (1 : Int32)) (SB ||| ((1 : Int32) <<< (((2 : Int32) ^^^ rb) &&& 31))) X37 e37 N37 O38 A37n (show _ = ((4 + (own_s3 rb c0 c1 true).length : Nat) : Int) from own_kpush hkB _ (by have := own_l2 rb c0 c1; omega)) (by show _ = own_mask ((own_s2 rb c0 c1) ++ [_]); rw [own_mask_push]; first | rfl | rw [← hSB]) (own_ag_push hfB _) (own_ag_up hfA _ (by have := own_l4 ra b0 b1 b2 b3; omega))
      have JB1 : ∀ (T39 : State) (h39 : Heap) (lo39 : List Loc) (f : Nat → Int32) (c0 : Bool) (kB SB : Int32) (X39 : Stand p l e room_1 s m #[(Value.int x0), (Value.int x1), (Value.int x2), (Value.int x3)] below meth c T39 lo39 1 8) (e39 : T39.heap = h39) (N39 : Fr n0 lo39) (O39 : Old Z n0 h39) (A39_ad1 : own_Ar Z h39 ad1 .int 8 (fun j => .int (f j))) (hkB : kB.toInt = ((4 + (own_s1 rb c0).length : Nat) : Int)) (hSB : SB = own_mask (own_s1 rb c0)) (hfB : own_ag f 4 (own_s1 rb c0)) (hfA : own_ag f 0 (own_s4 ra b0 b1 b2 b3)), own_G p e below s (own_rm0_Q Z x0 x1 x2 x3 h0 n0) 16 128 (T39.setTop (mkF m 210 #[.val (Value.int x0), .val (Value.int x1), .val (Value.int x2), .val (Value.int x3), .val (Value.int ra), .val (Value.int rb), .val (Value.int pf), .val (Value.int df), .val (Value.ref ad1), .val (Value.int kA), .val (Value.int SA), .val (Value.int kA), .val (Value.int kB), .val (Value.int SB), .unset, .unset, .unset] [])) := by
        intro T39 h39 lo39 f c0 kB SB X39 e39 N39 O39 A39_ad1 hkB hSB hfB hfA
        show own_G p e below s _ _ _ (T39.setTop (mkF m 210 #[.val (Value.int x0), .val (Value.int x1), .val (Value.int x2), .val (Value.int x3), .val (Value.int ra), .val (Value.int rb), .val (Value.int pf), .val (Value.int df), .val (Value.ref ad1), .val (Value.int kA), .val (Value.int SA), .val (Value.int kA), .val (Value.int kB), .val (Value.int SB), .unset, .unset, .unset] []))
        refine own_iloadN X39 hx hby at_210 rfl ?_
        show own_G p e below s _ _ _ (T39.setTop (mkF m 211 #[.val (Value.int x0), .val (Value.int x1), .val (Value.int x2), .val (Value.int x3), .val (Value.int ra), .val (Value.int rb), .val (Value.int pf), .val (Value.int df), .val (Value.ref ad1), .val (Value.int kA), .val (Value.int SA), .val (Value.int kA), .val (Value.int kB), .val (Value.int SB), .unset, .unset, .unset] [(Value.int x1)]))
        refine own_iconst X39 hx hby at_211 ?_
        show own_G p e below s _ _ _ (T39.setTop (mkF m 212 #[.val (Value.int x0), .val (Value.int x1), .val (Value.int x2), .val (Value.int x3), .val (Value.int ra), .val (Value.int rb), .val (Value.int pf), .val (Value.int df), .val (Value.ref ad1), .val (Value.int kA), .val (Value.int SA), .val (Value.int kA), .val (Value.int kB), .val (Value.int SB), .unset, .unset, .unset] [(Value.int (2 : Int32)), (Value.int x1)]))
        refine own_iand X39 hx hby at_212 ?_
        show own_G p e below s _ _ _ (T39.setTop (mkF m 213 #[.val (Value.int x0), .val (Value.int x1), .val (Value.int x2), .val (Value.int x3), .val (Value.int ra), .val (Value.int rb), .val (Value.int pf), .val (Value.int df), .val (Value.ref ad1), .val (Value.int kA), .val (Value.int SA), .val (Value.int kA), .val (Value.int kB), .val (Value.int SB), .unset, .unset, .unset] [(Value.int (x1 &&& (2 : Int32)))]))
        refine own_if_eq X39 hx hby at_213 (pc' := 239) (by decide) (by decide) (fun hb40 => ?_) (fun hb40 => ?_)
        · show own_G p e below s _ _ _ (T39.setTop (mkF m 239 #[.val (Value.int x0), .val (Value.int x1), .val (Value.int x2), .val (Value.int x3), .val (Value.int ra), .val (Value.int rb), .val (Value.int pf), .val (Value.int df), .val (Value.ref ad1), .val (Value.int kA), .val (Value.int SA), .val (Value.int kA), .val (Value.int kB), .val (Value.int SB), .unset, .unset, .unset] []))
          exact JB2 _ _ _ f c0 false kB SB X39 e39 N39 O39 A39_ad1 (by rw [show (own_s2 rb c0 false) = (own_s1 rb c0) from by simp [own_s2]]; exact hkB) (by rw [show (own_s2 rb c0 false) = (own_s1 rb c0) from by simp [own_s2]]; exact hSB) (by rw [show (own_s2 rb c0 false) = (own_s1 rb c0) from by simp [own_s2]]; exact hfB) hfA
        · show own_G p e below s _ _ _ (T39.setTop (mkF m 216 #[.val (Value.int x0), .val (Value.int x1), .val (Value.int x2), .val (Value.int x3), .val (Value.int ra), .val (Value.int rb), .val (Value.int pf), .val (Value.int df), .val (Value.ref ad1), .val (Value.int kA), .val (Value.int SA), .val (Value.int kA), .val (Value.int kB), .val (Value.int SB), .unset, .unset, .unset] []))
          refine own_aload X39 hx hby at_216 rfl rfl ?_
          show own_G p e below s _ _ _ (T39.setTop (mkF m 218 #[.val (Value.int x0), .val (Value.int x1), .val (Value.int x2), .val (Value.int x3), .val (Value.int ra), .val (Value.int rb), .val (Value.int pf), .val (Value.int df), .val (Value.ref ad1), .val (Value.int kA), .val (Value.int SA), .val (Value.int kA), .val (Value.int kB), .val (Value.int SB), .unset, .unset, .unset] [(Value.ref ad1)]))
          refine own_iload X39 hx hby at_218 rfl ?_
          show own_G p e below s _ _ _ (T39.setTop (mkF m 220 #[.val (Value.int x0), .val (Value.int x1), .val (Value.int x2), .val (Value.int x3), .val (Value.int ra), .val (Value.int rb), .val (Value.int pf), .val (Value.int df), .val (Value.ref ad1), .val (Value.int kA), .val (Value.int SA), .val (Value.int kA), .val (Value.int kB), .val (Value.int SB), .unset, .unset, .unset] [(Value.int kB), (Value.ref ad1)]))
          refine own_iconst X39 hx hby at_220 ?_
          show own_G p e below s _ _ _ (T39.setTop (mkF m 221 #[.val (Value.int x0), .val (Value.int x1), .val (Value.int x2), .val (Value.int x3), .val (Value.int ra), .val (Value.int rb), .val (Value.int pf), .val (Value.int df), .val (Value.ref ad1), .val (Value.int kA), .val (Value.int SA), .val (Value.int kA), .val (Value.int kB), .val (Value.int SB), .unset, .unset, .unset] [(Value.int (1 : Int32)), (Value.int kB), (Value.ref ad1)]))
          refine own_iload X39 hx hby at_221 rfl ?_
          show own_G p e below s _ _ _ (T39.setTop (mkF m 223 #[.val (Value.int x0), .val (Value.int x1), .val (Value.int x2), .val (Value.int x3), .val (Value.int ra), .val (Value.int rb), .val (Value.int pf), .val (Value.int df), .val (Value.ref ad1), .val (Value.int kA), .val (Value.int SA), .val (Value.int kA), .val (Value.int kB), .val (Value.int SB), .unset, .unset, .unset] [(Value.int rb), (Value.int (1 : Int32)), (Value.int kB), (Value.ref ad1)]))
          refine own_ixor X39 hx hby at_223 ?_
          show own_G p e below s _ _ _ (T39.setTop (mkF m 224 #[.val (Value.int x0), .val (Value.int x1), .val (Value.int x2), .val (Value.int x3), .val (Value.int ra), .val (Value.int rb), .val (Value.int pf), .val (Value.int df), .val (Value.ref ad1), .val (Value.int kA), .val (Value.int SA), .val (Value.int kA), .val (Value.int kB), .val (Value.int SB), .unset, .unset, .unset] [(Value.int ((1 : Int32) ^^^ rb)), (Value.int kB), (Value.ref ad1)]))
          obtain ⟨T41, h41, X41, e41, W41, A41, st41⟩ := own_iastore X39 hx hby hZ e39 A39_ad1 (j := kB) (i := (4 + (own_s1 rb c0).length)) hkB (by have := own_l1 rb c0; omega) (x := ((1 : Int32) ^^^ rb)) at_224 (Ls := #[.val (Value.int x0), .val (Value.int x1), .val (Value.int x2), .val (Value.int x3), .val (Value.int ra), .val (Value.int rb), .val (Value.int pf), .val (Value.int df), .val (Value.ref ad1), .val (Value.int kA), .val (Value.int SA), .val (Value.int kA), .val (Value.int kB), .val (Value.int SB), .unset, .unset, .unset]) (st := [])
          have O42 := Old.wr O39 W41 g1n
          have N41 := Fr.snoc X41 N39 g1n
          have A41n : own_Ar Z h41 ad1 .int 8 (fun j => .int ((own_up f (4 + (own_s1 rb c0).length) ((1 : Int32) ^^^ rb)) j)) := own_Ar.fn A41 (by intro j _; simp only [own_set, own_up]; split <;> rfl)
          refine own_st st41 ?_
          show own_G p e below s _ _ _ (T41.setTop (mkF m 225 #[.val (Value.int x0), .val (Value.int x1), .val (Value.int x2), .val (Value.int x3), .val (Value.int ra), .val (Value.int rb), .val (Value.int pf), .val (Value.int df), .val (Value.ref ad1), .val (Value.int kA), .val (Value.int SA), .val (Value.int kA), .val (Value.int kB), .val (Value.int SB), .unset, .unset, .unset] []))
          refine own_iinc X41 hx hby at_225 rfl (l' := #[.val (Value.int x0), .val (Value.int x1), .val (Value.int x2), .val (Value.int x3), .val (Value.int ra), .val (Value.int rb), .val (Value.int pf), .val (Value.int df), .val (Value.ref ad1), .val (Value.int kA), .val (Value.int SA), .val (Value.int kA), .val (Value.int (kB + (1 : Int32))), .val (Value.int SB), .unset, .unset, .unset]) rfl ?_
          show own_G p e below s _ _ _ (T41.setTop (mkF m 228 #[.val (Value.int x0), .val (Value.int x1), .val (Value.int x2), .val (Value.int x3), .val (Value.int ra), .val (Value.int rb), .val (Value.int pf), .val (Value.int df), .val (Value.ref ad1), .val (Value.int kA), .val (Value.int SA), .val (Value.int kA), .val (Value.int (kB + (1 : Int32))), .val (Value.int SB), .unset, .unset, .unset] []))
          refine own_iload X41 hx hby at_228 rfl ?_
          show own_G p e below s _ _ _ (T41.setTop (mkF m 230 #[.val (Value.int x0), .val (Value.int x1), .val (Value.int x2), .val (Value.int x3), .val (Value.int ra), .val (Value.int rb), .val (Value.int pf), .val (Value.int df), .val (Value.ref ad1), .val (Value.int kA), .val (Value.int SA), .val (Value.int kA), .val (Value.int (kB + (1 : Int32))), .val (Value.int SB), .unset, .unset, .unset] [(Value.int SB)]))
          refine own_iconst X41 hx hby at_230 ?_
          show own_G p e below s _ _ _ (T41.setTop (mkF m 231 #[.val (Value.int x0), .val (Value.int x1), .val (Value.int x2), .val (Value.int x3), .val (Value.int ra), .val (Value.int rb), .val (Value.int pf), .val (Value.int df), .val (Value.ref ad1), .val (Value.int kA), .val (Value.int SA), .val (Value.int kA), .val (Value.int (kB + (1 : Int32))), .val (Value.int SB), .unset, .unset, .unset] [(Value.int (1 : Int32)), (Value.int SB)]))
          refine own_iconst X41 hx hby at_231 ?_
          show own_G p e below s _ _ _ (T41.setTop (mkF m 232 #[.val (Value.int x0), .val (Value.int x1), .val (Value.int x2), .val (Value.int x3), .val (Value.int ra), .val (Value.int rb), .val (Value.int pf), .val (Value.int df), .val (Value.ref ad1), .val (Value.int kA), .val (Value.int SA), .val (Value.int kA), .val (Value.int (kB + (1 : Int32))), .val (Value.int SB), .unset, .unset, .unset] [(Value.int (1 : Int32)), (Value.int (1 : Int32)), (Value.int SB)]))
          refine own_iload X41 hx hby at_232 rfl ?_
          show own_G p e below s _ _ _ (T41.setTop (mkF m 234 #[.val (Value.int x0), .val (Value.int x1), .val (Value.int x2), .val (Value.int x3), .val (Value.int ra), .val (Value.int rb), .val (Value.int pf), .val (Value.int df), .val (Value.ref ad1), .val (Value.int kA), .val (Value.int SA), .val (Value.int kA), .val (Value.int (kB + (1 : Int32))), .val (Value.int SB), .unset, .unset, .unset] [(Value.int rb), (Value.int (1 : Int32)), (Value.int (1 : Int32)), (Value.int SB)]))
          refine own_ixor X41 hx hby at_234 ?_
          show own_G p e below s _ _ _ (T41.setTop (mkF m 235 #[.val (Value.int x0), .val (Value.int x1), .val (Value.int x2), .val (Value.int x3), .val (Value.int ra), .val (Value.int rb), .val (Value.int pf), .val (Value.int df), .val (Value.ref ad1), .val (Value.int kA), .val (Value.int SA), .val (Value.int kA), .val (Value.int (kB + (1 : Int32))), .val (Value.int SB), .unset, .unset, .unset] [(Value.int ((1 : Int32) ^^^ rb)), (Value.int (1 : Int32)), (Value.int SB)]))
          refine own_ishl X41 hx hby at_235 ?_
          show own_G p e below s _ _ _ (T41.setTop (mkF m 236 #[.val (Value.int x0), .val (Value.int x1), .val (Value.int x2), .val (Value.int x3), .val (Value.int ra), .val (Value.int rb), .val (Value.int pf), .val (Value.int df), .val (Value.ref ad1), .val (Value.int kA), .val (Value.int SA), .val (Value.int kA), .val (Value.int (kB + (1 : Int32))), .val (Value.int SB), .unset, .unset, .unset] [(Value.int ((1 : Int32) <<< (((1 : Int32) ^^^ rb) &&& 31))), (Value.int SB)]))
          refine own_ior X41 hx hby at_236 ?_
          show own_G p e below s _ _ _ (T41.setTop (mkF m 237 #[.val (Value.int x0), .val (Value.int x1), .val (Value.int x2), .val (Value.int x3), .val (Value.int ra), .val (Value.int rb), .val (Value.int pf), .val (Value.int df), .val (Value.ref ad1), .val (Value.int kA), .val (Value.int SA), .val (Value.int kA), .val (Value.int (kB + (1 : Int32))), .val (Value.int SB), .unset, .unset, .unset] [(Value.int (SB ||| ((1 : Int32) <<< (((1 : Int32) ^^^ rb) &&& 31))))]))
          refine own_istore X41 hx hby at_237 (l' := #[.val (Value.int x0), .val (Value.int x1), .val (Value.int x2), .val (Value.int x3), .val (Value.int ra), .val (Value.int rb), .val (Value.int pf), .val (Value.int df), .val (Value.ref ad1), .val (Value.int kA), .val (Value.int SA), .val (Value.int kA), .val (Value.int (kB + (1 : Int32))), .val (Value.int (SB ||| ((1 : Int32) <<< (((1 : Int32) ^^^ rb) &&& 31)))), .unset, .unset, .unset]) rfl ?_
          show own_G p e below s _ _ _ (T41.setTop (mkF m 239 #[.val (Value.int x0), .val (Value.int x1), .val (Value.int x2), .val (Value.int x3), .val (Value.int ra), .val (Value.int rb), .val (Value.int pf), .val (Value.int df), .val (Value.ref ad1), .val (Value.int kA), .val (Value.int SA), .val (Value.int kA), .val (Value.int (kB + (1 : Int32))), .val (Value.int (SB ||| ((1 : Int32) <<< (((1 : Int32) ^^^ rb) &&& 31)))), .unset, .unset, .unset] []))
          exact JB2 _ _ _ (own_up f (4 + (own_s1 rb c0).length) ((1 : Int32) ^^^ rb)) c0 true (kB + (1 : Int32)) (SB ||| ((1 : Int32) <<< (((1 : Int32) ^^^ rb) &&& 31))) X41 e41 N41 O42 A41n (show _ = ((4 + (own_s2 rb c0 true).length : Nat) : Int) from own_kpush hkB _ (by have := own_l1 rb c0; omega)) (by show _ = own_mask ((own_s1 rb c0) ++ [_]); rw [own_mask_push]; first | rfl | rw [← hSB]) (own_ag_push hfB _) (own_ag_up hfA _ (by have := own_l4 ra b0 b1 b2 b3; omega))
      have own_k0B : (4 : Int32).toInt = ((4 + own_s0.length : Nat) : Int) := by decide
      show own_G p e below s _ _ _ (T3.setTop (mkF m 181 #[.val (Value.int x0), .val (Value.int x1), .val (Value.int x2), .val (Value.int x3), .val (Value.int ra), .val (Value.int rb), .val (Value.int pf), .val (Value.int df), .val (Value.ref ad1), .val (Value.int kA), .val (Value.int SA), .val (Value.int kA), .val (Value.int (4 : Int32)), .val (Value.int (0 : Int32)), .unset, .unset, .unset] []))
      refine own_iloadN X3 hx hby at_181 rfl ?_
      show own_G p e below s _ _ _ (T3.setTop (mkF m 182 #[.val (Value.int x0), .val (Value.int x1), .val (Value.int x2), .val (Value.int x3), .val (Value.int ra), .val (Value.int rb), .val (Value.int pf), .val (Value.int df), .val (Value.ref ad1), .val (Value.int kA), .val (Value.int SA), .val (Value.int kA), .val (Value.int (4 : Int32)), .val (Value.int (0 : Int32)), .unset, .unset, .unset] [(Value.int x1)]))
      refine own_iconst X3 hx hby at_182 ?_
      show own_G p e below s _ _ _ (T3.setTop (mkF m 183 #[.val (Value.int x0), .val (Value.int x1), .val (Value.int x2), .val (Value.int x3), .val (Value.int ra), .val (Value.int rb), .val (Value.int pf), .val (Value.int df), .val (Value.ref ad1), .val (Value.int kA), .val (Value.int SA), .val (Value.int kA), .val (Value.int (4 : Int32)), .val (Value.int (0 : Int32)), .unset, .unset, .unset] [(Value.int (1 : Int32)), (Value.int x1)]))
      refine own_iand X3 hx hby at_183 ?_
      show own_G p e below s _ _ _ (T3.setTop (mkF m 184 #[.val (Value.int x0), .val (Value.int x1), .val (Value.int x2), .val (Value.int x3), .val (Value.int ra), .val (Value.int rb), .val (Value.int pf), .val (Value.int df), .val (Value.ref ad1), .val (Value.int kA), .val (Value.int SA), .val (Value.int kA), .val (Value.int (4 : Int32)), .val (Value.int (0 : Int32)), .unset, .unset, .unset] [(Value.int (x1 &&& (1 : Int32)))]))
      refine own_if_eq X3 hx hby at_184 (pc' := 210) (by decide) (by decide) (fun hb43 => ?_) (fun hb43 => ?_)
      · show own_G p e below s _ _ _ (T3.setTop (mkF m 210 #[.val (Value.int x0), .val (Value.int x1), .val (Value.int x2), .val (Value.int x3), .val (Value.int ra), .val (Value.int rb), .val (Value.int pf), .val (Value.int df), .val (Value.ref ad1), .val (Value.int kA), .val (Value.int SA), .val (Value.int kA), .val (Value.int (4 : Int32)), .val (Value.int (0 : Int32)), .unset, .unset, .unset] []))
        exact JB1 _ _ _ f  false (4 : Int32) (0 : Int32) X3 e3 N3 O3 A3_ad1 (by rw [show (own_s1 rb false) = own_s0 from by simp [own_s1]]; exact own_k0B) (by rw [show (own_s1 rb false) = own_s0 from by simp [own_s1]]; exact (rfl : (0 : Int32) = own_mask own_s0)) (by rw [show (own_s1 rb false) = own_s0 from by simp [own_s1]]; exact (own_ag_nil _ 4)) hfA
      · show own_G p e below s _ _ _ (T3.setTop (mkF m 187 #[.val (Value.int x0), .val (Value.int x1), .val (Value.int x2), .val (Value.int x3), .val (Value.int ra), .val (Value.int rb), .val (Value.int pf), .val (Value.int df), .val (Value.ref ad1), .val (Value.int kA), .val (Value.int SA), .val (Value.int kA), .val (Value.int (4 : Int32)), .val (Value.int (0 : Int32)), .unset, .unset, .unset] []))
        refine own_aload X3 hx hby at_187 rfl rfl ?_
        show own_G p e below s _ _ _ (T3.setTop (mkF m 189 #[.val (Value.int x0), .val (Value.int x1), .val (Value.int x2), .val (Value.int x3), .val (Value.int ra), .val (Value.int rb), .val (Value.int pf), .val (Value.int df), .val (Value.ref ad1), .val (Value.int kA), .val (Value.int SA), .val (Value.int kA), .val (Value.int (4 : Int32)), .val (Value.int (0 : Int32)), .unset, .unset, .unset] [(Value.ref ad1)]))
        refine own_iload X3 hx hby at_189 rfl ?_
        show own_G p e below s _ _ _ (T3.setTop (mkF m 191 #[.val (Value.int x0), .val (Value.int x1), .val (Value.int x2), .val (Value.int x3), .val (Value.int ra), .val (Value.int rb), .val (Value.int pf), .val (Value.int df), .val (Value.ref ad1), .val (Value.int kA), .val (Value.int SA), .val (Value.int kA), .val (Value.int (4 : Int32)), .val (Value.int (0 : Int32)), .unset, .unset, .unset] [(Value.int (4 : Int32)), (Value.ref ad1)]))
        refine own_iconst X3 hx hby at_191 ?_
        show own_G p e below s _ _ _ (T3.setTop (mkF m 192 #[.val (Value.int x0), .val (Value.int x1), .val (Value.int x2), .val (Value.int x3), .val (Value.int ra), .val (Value.int rb), .val (Value.int pf), .val (Value.int df), .val (Value.ref ad1), .val (Value.int kA), .val (Value.int SA), .val (Value.int kA), .val (Value.int (4 : Int32)), .val (Value.int (0 : Int32)), .unset, .unset, .unset] [(Value.int (0 : Int32)), (Value.int (4 : Int32)), (Value.ref ad1)]))
        refine own_iload X3 hx hby at_192 rfl ?_
        show own_G p e below s _ _ _ (T3.setTop (mkF m 194 #[.val (Value.int x0), .val (Value.int x1), .val (Value.int x2), .val (Value.int x3), .val (Value.int ra), .val (Value.int rb), .val (Value.int pf), .val (Value.int df), .val (Value.ref ad1), .val (Value.int kA), .val (Value.int SA), .val (Value.int kA), .val (Value.int (4 : Int32)), .val (Value.int (0 : Int32)), .unset, .unset, .unset] [(Value.int rb), (Value.int (0 : Int32)), (Value.int (4 : Int32)), (Value.ref ad1)]))
        refine own_ixor X3 hx hby at_194 ?_
        show own_G p e below s _ _ _ (T3.setTop (mkF m 195 #[.val (Value.int x0), .val (Value.int x1), .val (Value.int x2), .val (Value.int x3), .val (Value.int ra), .val (Value.int rb), .val (Value.int pf), .val (Value.int df), .val (Value.ref ad1), .val (Value.int kA), .val (Value.int SA), .val (Value.int kA), .val (Value.int (4 : Int32)), .val (Value.int (0 : Int32)), .unset, .unset, .unset] [(Value.int ((0 : Int32) ^^^ rb)), (Value.int (4 : Int32)), (Value.ref ad1)]))
        obtain ⟨T44, h44, X44, e44, W44, A44, st44⟩ := own_iastore X3 hx hby hZ e3 A3_ad1 (j := (4 : Int32)) (i := (4 + own_s0.length)) own_k0B (by have := own_l0; omega) (x := ((0 : Int32) ^^^ rb)) at_195 (Ls := #[.val (Value.int x0), .val (Value.int x1), .val (Value.int x2), .val (Value.int x3), .val (Value.int ra), .val (Value.int rb), .val (Value.int pf), .val (Value.int df), .val (Value.ref ad1), .val (Value.int kA), .val (Value.int SA), .val (Value.int kA), .val (Value.int (4 : Int32)), .val (Value.int (0 : Int32)), .unset, .unset, .unset]) (st := [])
        have O45 := Old.wr O3 W44 g1n
        have N44 := Fr.snoc X44 N3 g1n
        have A44n : own_Ar Z h44 ad1 .int 8 (fun j => .int ((own_up f (4 + own_s0.length) ((0 : Int32) ^^^ rb)) j)) := own_Ar.fn A44 (by intro j _; simp only [own_set, own_up]; split <;> rfl)
        refine own_st st44 ?_
        show own_G p e below s _ _ _ (T44.setTop (mkF m 196 #[.val (Value.int x0), .val (Value.int x1), .val (Value.int x2), .val (Value.int x3), .val (Value.int ra), .val (Value.int rb), .val (Value.int pf), .val (Value.int df), .val (Value.ref ad1), .val (Value.int kA), .val (Value.int SA), .val (Value.int kA), .val (Value.int (4 : Int32)), .val (Value.int (0 : Int32)), .unset, .unset, .unset] []))
        refine own_iinc X44 hx hby at_196 rfl (l' := #[.val (Value.int x0), .val (Value.int x1), .val (Value.int x2), .val (Value.int x3), .val (Value.int ra), .val (Value.int rb), .val (Value.int pf), .val (Value.int df), .val (Value.ref ad1), .val (Value.int kA), .val (Value.int SA), .val (Value.int kA), .val (Value.int (5 : Int32)), .val (Value.int (0 : Int32)), .unset, .unset, .unset]) rfl ?_
        show own_G p e below s _ _ _ (T44.setTop (mkF m 199 #[.val (Value.int x0), .val (Value.int x1), .val (Value.int x2), .val (Value.int x3), .val (Value.int ra), .val (Value.int rb), .val (Value.int pf), .val (Value.int df), .val (Value.ref ad1), .val (Value.int kA), .val (Value.int SA), .val (Value.int kA), .val (Value.int (5 : Int32)), .val (Value.int (0 : Int32)), .unset, .unset, .unset] []))
        refine own_iload X44 hx hby at_199 rfl ?_
        show own_G p e below s _ _ _ (T44.setTop (mkF m 201 #[.val (Value.int x0), .val (Value.int x1), .val (Value.int x2), .val (Value.int x3), .val (Value.int ra), .val (Value.int rb), .val (Value.int pf), .val (Value.int df), .val (Value.ref ad1), .val (Value.int kA), .val (Value.int SA), .val (Value.int kA), .val (Value.int (5 : Int32)), .val (Value.int (0 : Int32)), .unset, .unset, .unset] [(Value.int (0 : Int32))]))
        refine own_iconst X44 hx hby at_201 ?_
        show own_G p e below s _ _ _ (T44.setTop (mkF m 202 #[.val (Value.int x0), .val (Value.int x1), .val (Value.int x2), .val (Value.int x3), .val (Value.int ra), .val (Value.int rb), .val (Value.int pf), .val (Value.int df), .val (Value.ref ad1), .val (Value.int kA), .val (Value.int SA), .val (Value.int kA), .val (Value.int (5 : Int32)), .val (Value.int (0 : Int32)), .unset, .unset, .unset] [(Value.int (1 : Int32)), (Value.int (0 : Int32))]))
        refine own_iconst X44 hx hby at_202 ?_
        show own_G p e below s _ _ _ (T44.setTop (mkF m 203 #[.val (Value.int x0), .val (Value.int x1), .val (Value.int x2), .val (Value.int x3), .val (Value.int ra), .val (Value.int rb), .val (Value.int pf), .val (Value.int df), .val (Value.ref ad1), .val (Value.int kA), .val (Value.int SA), .val (Value.int kA), .val (Value.int (5 : Int32)), .val (Value.int (0 : Int32)), .unset, .unset, .unset] [(Value.int (0 : Int32)), (Value.int (1 : Int32)), (Value.int (0 : Int32))]))
        refine own_iload X44 hx hby at_203 rfl ?_
        show own_G p e below s _ _ _ (T44.setTop (mkF m 205 #[.val (Value.int x0), .val (Value.int x1), .val (Value.int x2), .val (Value.int x3), .val (Value.int ra), .val (Value.int rb), .val (Value.int pf), .val (Value.int df), .val (Value.ref ad1), .val (Value.int kA), .val (Value.int SA), .val (Value.int kA), .val (Value.int (5 : Int32)), .val (Value.int (0 : Int32)), .unset, .unset, .unset] [(Value.int rb), (Value.int (0 : Int32)), (Value.int (1 : Int32)), (Value.int (0 : Int32))]))
        refine own_ixor X44 hx hby at_205 ?_
        show own_G p e below s _ _ _ (T44.setTop (mkF m 206 #[.val (Value.int x0), .val (Value.int x1), .val (Value.int x2), .val (Value.int x3), .val (Value.int ra), .val (Value.int rb), .val (Value.int pf), .val (Value.int df), .val (Value.ref ad1), .val (Value.int kA), .val (Value.int SA), .val (Value.int kA), .val (Value.int (5 : Int32)), .val (Value.int (0 : Int32)), .unset, .unset, .unset] [(Value.int ((0 : Int32) ^^^ rb)), (Value.int (1 : Int32)), (Value.int (0 : Int32))]))
        refine own_ishl X44 hx hby at_206 ?_
        show own_G p e below s _ _ _ (T44.setTop (mkF m 207 #[.val (Value.int x0), .val (Value.int x1), .val (Value.int x2), .val (Value.int x3), .val (Value.int ra), .val (Value.int rb), .val (Value.int pf), .val (Value.int df), .val (Value.ref ad1), .val (Value.int kA), .val (Value.int SA), .val (Value.int kA), .val (Value.int (5 : Int32)), .val (Value.int (0 : Int32)), .unset, .unset, .unset] [(Value.int ((1 : Int32) <<< (((0 : Int32) ^^^ rb) &&& 31))), (Value.int (0 : Int32))]))
        refine own_ior X44 hx hby at_207 ?_
        show own_G p e below s _ _ _ (T44.setTop (mkF m 208 #[.val (Value.int x0), .val (Value.int x1), .val (Value.int x2), .val (Value.int x3), .val (Value.int ra), .val (Value.int rb), .val (Value.int pf), .val (Value.int df), .val (Value.ref ad1), .val (Value.int kA), .val (Value.int SA), .val (Value.int kA), .val (Value.int (5 : Int32)), .val (Value.int (0 : Int32)), .unset, .unset, .unset] [(Value.int ((0 : Int32) ||| ((1 : Int32) <<< (((0 : Int32) ^^^ rb) &&& 31))))]))
        refine own_istore X44 hx hby at_208 (l' := #[.val (Value.int x0), .val (Value.int x1), .val (Value.int x2), .val (Value.int x3), .val (Value.int ra), .val (Value.int rb), .val (Value.int pf), .val (Value.int df), .val (Value.ref ad1), .val (Value.int kA), .val (Value.int SA), .val (Value.int kA), .val (Value.int (5 : Int32)), .val (Value.int ((0 : Int32) ||| ((1 : Int32) <<< (((0 : Int32) ^^^ rb) &&& 31)))), .unset, .unset, .unset]) rfl ?_
        show own_G p e below s _ _ _ (T44.setTop (mkF m 210 #[.val (Value.int x0), .val (Value.int x1), .val (Value.int x2), .val (Value.int x3), .val (Value.int ra), .val (Value.int rb), .val (Value.int pf), .val (Value.int df), .val (Value.ref ad1), .val (Value.int kA), .val (Value.int SA), .val (Value.int kA), .val (Value.int (5 : Int32)), .val (Value.int ((0 : Int32) ||| ((1 : Int32) <<< (((0 : Int32) ^^^ rb) &&& 31)))), .unset, .unset, .unset] []))
        exact JB1 _ _ _ (own_up f (4 + own_s0.length) ((0 : Int32) ^^^ rb))  true (5 : Int32) ((0 : Int32) ||| ((1 : Int32) <<< (((0 : Int32) ^^^ rb) &&& 31))) X44 e44 N44 O45 A44n (show _ = ((4 + (own_s1 rb true).length : Nat) : Int) from own_kpush own_k0B _ (by have := own_l0; omega)) (by show _ = own_mask (own_s0 ++ [_]); rw [own_mask_push]; first | rfl | rw [← (rfl : (0 : Int32) = own_mask own_s0)]) (own_ag_push (own_ag_nil _ 4) _) (own_ag_up hfA _ (by have := own_l4 ra b0 b1 b2 b3; omega))
    have JA3 : ∀ (T46 : State) (h46 : Heap) (lo46 : List Loc) (f : Nat → Int32) (b0 b1 b2 : Bool) (kA SA : Int32) (X46 : Stand p l e room_1 s m #[(Value.int x0), (Value.int x1), (Value.int x2), (Value.int x3)] below meth c T46 lo46 1 8) (e46 : T46.heap = h46) (N46 : Fr n0 lo46) (O46 : Old Z n0 h46) (A46_ad1 : own_Ar Z h46 ad1 .int 8 (fun j => .int (f j))) (hkA : kA.toInt = ((0 + (own_s3 ra b0 b1 b2).length : Nat) : Int)) (hSA : SA = own_mask (own_s3 ra b0 b1 b2)) (hfA : own_ag f 0 (own_s3 ra b0 b1 b2)), own_G p e below s (own_rm0_Q Z x0 x1 x2 x3 h0 n0) 16 128 (T46.setTop (mkF m 141 #[.val (Value.int x0), .val (Value.int x1), .val (Value.int x2), .val (Value.int x3), .val (Value.int ra), .val (Value.int rb), .val (Value.int pf), .val (Value.int df), .val (Value.ref ad1), .val (Value.int kA), .val (Value.int SA), .unset, .unset, .unset, .unset, .unset, .unset] [])) := by
      intro T46 h46 lo46 f b0 b1 b2 kA SA X46 e46 N46 O46 A46_ad1 hkA hSA hfA
      show own_G p e below s _ _ _ (T46.setTop (mkF m 141 #[.val (Value.int x0), .val (Value.int x1), .val (Value.int x2), .val (Value.int x3), .val (Value.int ra), .val (Value.int rb), .val (Value.int pf), .val (Value.int df), .val (Value.ref ad1), .val (Value.int kA), .val (Value.int SA), .unset, .unset, .unset, .unset, .unset, .unset] []))
      refine own_iloadN X46 hx hby at_141 rfl ?_
      show own_G p e below s _ _ _ (T46.setTop (mkF m 142 #[.val (Value.int x0), .val (Value.int x1), .val (Value.int x2), .val (Value.int x3), .val (Value.int ra), .val (Value.int rb), .val (Value.int pf), .val (Value.int df), .val (Value.ref ad1), .val (Value.int kA), .val (Value.int SA), .unset, .unset, .unset, .unset, .unset, .unset] [(Value.int x0)]))
      refine own_bipush X46 hx hby at_142 ?_
      show own_G p e below s _ _ _ (T46.setTop (mkF m 144 #[.val (Value.int x0), .val (Value.int x1), .val (Value.int x2), .val (Value.int x3), .val (Value.int ra), .val (Value.int rb), .val (Value.int pf), .val (Value.int df), .val (Value.ref ad1), .val (Value.int kA), .val (Value.int SA), .unset, .unset, .unset, .unset, .unset, .unset] [(Value.int (8 : Int32)), (Value.int x0)]))
      refine own_iand X46 hx hby at_144 ?_
      show own_G p e below s _ _ _ (T46.setTop (mkF m 145 #[.val (Value.int x0), .val (Value.int x1), .val (Value.int x2), .val (Value.int x3), .val (Value.int ra), .val (Value.int rb), .val (Value.int pf), .val (Value.int df), .val (Value.ref ad1), .val (Value.int kA), .val (Value.int SA), .unset, .unset, .unset, .unset, .unset, .unset] [(Value.int (x0 &&& (8 : Int32)))]))
      refine own_if_eq X46 hx hby at_145 (pc' := 171) (by decide) (by decide) (fun hb47 => ?_) (fun hb47 => ?_)
      · show own_G p e below s _ _ _ (T46.setTop (mkF m 171 #[.val (Value.int x0), .val (Value.int x1), .val (Value.int x2), .val (Value.int x3), .val (Value.int ra), .val (Value.int rb), .val (Value.int pf), .val (Value.int df), .val (Value.ref ad1), .val (Value.int kA), .val (Value.int SA), .unset, .unset, .unset, .unset, .unset, .unset] []))
        exact JA4 _ _ _ f b0 b1 b2 false kA SA X46 e46 N46 O46 A46_ad1 (by rw [show (own_s4 ra b0 b1 b2 false) = (own_s3 ra b0 b1 b2) from by simp [own_s4]]; exact hkA) (by rw [show (own_s4 ra b0 b1 b2 false) = (own_s3 ra b0 b1 b2) from by simp [own_s4]]; exact hSA) (by rw [show (own_s4 ra b0 b1 b2 false) = (own_s3 ra b0 b1 b2) from by simp [own_s4]]; exact hfA)
      · show own_G p e below s _ _ _ (T46.setTop (mkF m 148 #[.val (Value.int x0), .val (Value.int x1), .val (Value.int x2), .val (Value.int x3), .val (Value.int ra), .val (Value.int rb), .val (Value.int pf), .val (Value.int df), .val (Value.ref ad1), .val (Value.int kA), .val (Value.int SA), .unset, .unset, .unset, .unset, .unset, .unset] []))
        refine own_aload X46 hx hby at_148 rfl rfl ?_
        show own_G p e below s _ _ _ (T46.setTop (mkF m 150 #[.val (Value.int x0), .val (Value.int x1), .val (Value.int x2), .val (Value.int x3), .val (Value.int ra), .val (Value.int rb), .val (Value.int pf), .val (Value.int df), .val (Value.ref ad1), .val (Value.int kA), .val (Value.int SA), .unset, .unset, .unset, .unset, .unset, .unset] [(Value.ref ad1)]))
        refine own_iload X46 hx hby at_150 rfl ?_
        show own_G p e below s _ _ _ (T46.setTop (mkF m 152 #[.val (Value.int x0), .val (Value.int x1), .val (Value.int x2), .val (Value.int x3), .val (Value.int ra), .val (Value.int rb), .val (Value.int pf), .val (Value.int df), .val (Value.ref ad1), .val (Value.int kA), .val (Value.int SA), .unset, .unset, .unset, .unset, .unset, .unset] [(Value.int kA), (Value.ref ad1)]))
        refine own_iconst X46 hx hby at_152 ?_
        show own_G p e below s _ _ _ (T46.setTop (mkF m 153 #[.val (Value.int x0), .val (Value.int x1), .val (Value.int x2), .val (Value.int x3), .val (Value.int ra), .val (Value.int rb), .val (Value.int pf), .val (Value.int df), .val (Value.ref ad1), .val (Value.int kA), .val (Value.int SA), .unset, .unset, .unset, .unset, .unset, .unset] [(Value.int (3 : Int32)), (Value.int kA), (Value.ref ad1)]))
        refine own_iload X46 hx hby at_153 rfl ?_
        show own_G p e below s _ _ _ (T46.setTop (mkF m 155 #[.val (Value.int x0), .val (Value.int x1), .val (Value.int x2), .val (Value.int x3), .val (Value.int ra), .val (Value.int rb), .val (Value.int pf), .val (Value.int df), .val (Value.ref ad1), .val (Value.int kA), .val (Value.int SA), .unset, .unset, .unset, .unset, .unset, .unset] [(Value.int ra), (Value.int (3 : Int32)), (Value.int kA), (Value.ref ad1)]))
        refine own_ixor X46 hx hby at_155 ?_
        show own_G p e below s _ _ _ (T46.setTop (mkF m 156 #[.val (Value.int x0), .val (Value.int x1), .val (Value.int x2), .val (Value.int x3), .val (Value.int ra), .val (Value.int rb), .val (Value.int pf), .val (Value.int df), .val (Value.ref ad1), .val (Value.int kA), .val (Value.int SA), .unset, .unset, .unset, .unset, .unset, .unset] [(Value.int ((3 : Int32) ^^^ ra)), (Value.int kA), (Value.ref ad1)]))
        obtain ⟨T48, h48, X48, e48, W48, A48, st48⟩ := own_iastore X46 hx hby hZ e46 A46_ad1 (j := kA) (i := (0 + (own_s3 ra b0 b1 b2).length)) hkA (by have := own_l3 ra b0 b1 b2; omega) (x := ((3 : Int32) ^^^ ra)) at_156 (Ls := #[.val (Value.int x0), .val (Value.int x1), .val (Value.int x2), .val (Value.int x3), .val (Value.int ra), .val (Value.int rb), .val (Value.int pf), .val (Value.int df), .val (Value.ref ad1), .val (Value.int kA), .val (Value.int SA), .unset, .unset, .unset, .unset, .unset, .unset]) (st := [])
        have O49 := Old.wr O46 W48 g1n
        have N48 := Fr.snoc X48 N46 g1n
        have A48n : own_Ar Z h48 ad1 .int 8 (fun j => .int ((own_up f (0 + (own_s3 ra b0 b1 b2).length) ((3 : Int32) ^^^ ra)) j)) := own_Ar.fn A48 (by intro j _; simp only [own_set, own_up]; split <;> rfl)
        refine own_st st48 ?_
        show own_G p e below s _ _ _ (T48.setTop (mkF m 157 #[.val (Value.int x0), .val (Value.int x1), .val (Value.int x2), .val (Value.int x3), .val (Value.int ra), .val (Value.int rb), .val (Value.int pf), .val (Value.int df), .val (Value.ref ad1), .val (Value.int kA), .val (Value.int SA), .unset, .unset, .unset, .unset, .unset, .unset] []))
        refine own_iinc X48 hx hby at_157 rfl (l' := #[.val (Value.int x0), .val (Value.int x1), .val (Value.int x2), .val (Value.int x3), .val (Value.int ra), .val (Value.int rb), .val (Value.int pf), .val (Value.int df), .val (Value.ref ad1), .val (Value.int (kA + (1 : Int32))), .val (Value.int SA), .unset, .unset, .unset, .unset, .unset, .unset]) rfl ?_
        show own_G p e below s _ _ _ (T48.setTop (mkF m 160 #[.val (Value.int x0), .val (Value.int x1), .val (Value.int x2), .val (Value.int x3), .val (Value.int ra), .val (Value.int rb), .val (Value.int pf), .val (Value.int df), .val (Value.ref ad1), .val (Value.int (kA + (1 : Int32))), .val (Value.int SA), .unset, .unset, .unset, .unset, .unset, .unset] []))
        refine own_iload X48 hx hby at_160 rfl ?_
        show own_G p e below s _ _ _ (T48.setTop (mkF m 162 #[.val (Value.int x0), .val (Value.int x1), .val (Value.int x2), .val (Value.int x3), .val (Value.int ra), .val (Value.int rb), .val (Value.int pf), .val (Value.int df), .val (Value.ref ad1), .val (Value.int (kA + (1 : Int32))), .val (Value.int SA), .unset, .unset, .unset, .unset, .unset, .unset] [(Value.int SA)]))
        refine own_iconst X48 hx hby at_162 ?_
        show own_G p e below s _ _ _ (T48.setTop (mkF m 163 #[.val (Value.int x0), .val (Value.int x1), .val (Value.int x2), .val (Value.int x3), .val (Value.int ra), .val (Value.int rb), .val (Value.int pf), .val (Value.int df), .val (Value.ref ad1), .val (Value.int (kA + (1 : Int32))), .val (Value.int SA), .unset, .unset, .unset, .unset, .unset, .unset] [(Value.int (1 : Int32)), (Value.int SA)]))
        refine own_iconst X48 hx hby at_163 ?_
        show own_G p e below s _ _ _ (T48.setTop (mkF m 164 #[.val (Value.int x0), .val (Value.int x1), .val (Value.int x2), .val (Value.int x3), .val (Value.int ra), .val (Value.int rb), .val (Value.int pf), .val (Value.int df), .val (Value.ref ad1), .val (Value.int (kA + (1 : Int32))), .val (Value.int SA), .unset, .unset, .unset, .unset, .unset, .unset] [(Value.int (3 : Int32)), (Value.int (1 : Int32)), (Value.int SA)]))
        refine own_iload X48 hx hby at_164 rfl ?_
        show own_G p e below s _ _ _ (T48.setTop (mkF m 166 #[.val (Value.int x0), .val (Value.int x1), .val (Value.int x2), .val (Value.int x3), .val (Value.int ra), .val (Value.int rb), .val (Value.int pf), .val (Value.int df), .val (Value.ref ad1), .val (Value.int (kA + (1 : Int32))), .val (Value.int SA), .unset, .unset, .unset, .unset, .unset, .unset] [(Value.int ra), (Value.int (3 : Int32)), (Value.int (1 : Int32)), (Value.int SA)]))
        refine own_ixor X48 hx hby at_166 ?_
        show own_G p e below s _ _ _ (T48.setTop (mkF m 167 #[.val (Value.int x0), .val (Value.int x1), .val (Value.int x2), .val (Value.int x3), .val (Value.int ra), .val (Value.int rb), .val (Value.int pf), .val (Value.int df), .val (Value.ref ad1), .val (Value.int (kA + (1 : Int32))), .val (Value.int SA), .unset, .unset, .unset, .unset, .unset, .unset] [(Value.int ((3 : Int32) ^^^ ra)), (Value.int (1 : Int32)), (Value.int SA)]))
        refine own_ishl X48 hx hby at_167 ?_
        show own_G p e below s _ _ _ (T48.setTop (mkF m 168 #[.val (Value.int x0), .val (Value.int x1), .val (Value.int x2), .val (Value.int x3), .val (Value.int ra), .val (Value.int rb), .val (Value.int pf), .val (Value.int df), .val (Value.ref ad1), .val (Value.int (kA + (1 : Int32))), .val (Value.int SA), .unset, .unset, .unset, .unset, .unset, .unset] [(Value.int ((1 : Int32) <<< (((3 : Int32) ^^^ ra) &&& 31))), (Value.int SA)]))
        refine own_ior X48 hx hby at_168 ?_
        show own_G p e below s _ _ _ (T48.setTop (mkF m 169 #[.val (Value.int x0), .val (Value.int x1), .val (Value.int x2), .val (Value.int x3), .val (Value.int ra), .val (Value.int rb), .val (Value.int pf), .val (Value.int df), .val (Value.ref ad1), .val (Value.int (kA + (1 : Int32))), .val (Value.int SA), .unset, .unset, .unset, .unset, .unset, .unset] [(Value.int (SA ||| ((1 : Int32) <<< (((3 : Int32) ^^^ ra) &&& 31))))]))
        refine own_istore X48 hx hby at_169 (l' := #[.val (Value.int x0), .val (Value.int x1), .val (Value.int x2), .val (Value.int x3), .val (Value.int ra), .val (Value.int rb), .val (Value.int pf), .val (Value.int df), .val (Value.ref ad1), .val (Value.int (kA + (1 : Int32))), .val (Value.int (SA ||| ((1 : Int32) <<< (((3 : Int32) ^^^ ra) &&& 31)))), .unset, .unset, .unset, .unset, .unset, .unset]) rfl ?_
        show own_G p e below s _ _ _ (T48.setTop (mkF m 171 #[.val (Value.int x0), .val (Value.int x1), .val (Value.int x2), .val (Value.int x3), .val (Value.int ra), .val (Value.int rb), .val (Value.int pf), .val (Value.int df), .val (Value.ref ad1), .val (Value.int (kA + (1 : Int32))), .val (Value.int (SA ||| ((1 : Int32) <<< (((3 : Int32) ^^^ ra) &&& 31)))), .unset, .unset, .unset, .unset, .unset, .unset] []))
        exact JA4 _ _ _ (own_up f (0 + (own_s3 ra b0 b1 b2).length) ((3 : Int32) ^^^ ra)) b0 b1 b2 true (kA + (1 : Int32)) (SA ||| ((1 : Int32) <<< (((3 : Int32) ^^^ ra) &&& 31))) X48 e48 N48 O49 A48n (show _ = ((0 + (own_s4 ra b0 b1 b2 true).length : Nat) : Int) from own_kpush hkA _ (by have := own_l3 ra b0 b1 b2; omega)) (by show _ = own_mask ((own_s3 ra b0 b1 b2) ++ [_]); rw [own_mask_push]; first | rfl | rw [← hSA]) (own_ag_push hfA _)
    have JA2 : ∀ (T50 : State) (h50 : Heap) (lo50 : List Loc) (f : Nat → Int32) (b0 b1 : Bool) (kA SA : Int32) (X50 : Stand p l e room_1 s m #[(Value.int x0), (Value.int x1), (Value.int x2), (Value.int x3)] below meth c T50 lo50 1 8) (e50 : T50.heap = h50) (N50 : Fr n0 lo50) (O50 : Old Z n0 h50) (A50_ad1 : own_Ar Z h50 ad1 .int 8 (fun j => .int (f j))) (hkA : kA.toInt = ((0 + (own_s2 ra b0 b1).length : Nat) : Int)) (hSA : SA = own_mask (own_s2 ra b0 b1)) (hfA : own_ag f 0 (own_s2 ra b0 b1)), own_G p e below s (own_rm0_Q Z x0 x1 x2 x3 h0 n0) 16 128 (T50.setTop (mkF m 112 #[.val (Value.int x0), .val (Value.int x1), .val (Value.int x2), .val (Value.int x3), .val (Value.int ra), .val (Value.int rb), .val (Value.int pf), .val (Value.int df), .val (Value.ref ad1), .val (Value.int kA), .val (Value.int SA), .unset, .unset, .unset, .unset, .unset, .unset] [])) := by
      intro T50 h50 lo50 f b0 b1 kA SA X50 e50 N50 O50 A50_ad1 hkA hSA hfA
      show own_G p e below s _ _ _ (T50.setTop (mkF m 112 #[.val (Value.int x0), .val (Value.int x1), .val (Value.int x2), .val (Value.int x3), .val (Value.int ra), .val (Value.int rb), .val (Value.int pf), .val (Value.int df), .val (Value.ref ad1), .val (Value.int kA), .val (Value.int SA), .unset, .unset, .unset, .unset, .unset, .unset] []))
      refine own_iloadN X50 hx hby at_112 rfl ?_
      show own_G p e below s _ _ _ (T50.setTop (mkF m 113 #[.val (Value.int x0), .val (Value.int x1), .val (Value.int x2), .val (Value.int x3), .val (Value.int ra), .val (Value.int rb), .val (Value.int pf), .val (Value.int df), .val (Value.ref ad1), .val (Value.int kA), .val (Value.int SA), .unset, .unset, .unset, .unset, .unset, .unset] [(Value.int x0)]))
      refine own_iconst X50 hx hby at_113 ?_
      show own_G p e below s _ _ _ (T50.setTop (mkF m 114 #[.val (Value.int x0), .val (Value.int x1), .val (Value.int x2), .val (Value.int x3), .val (Value.int ra), .val (Value.int rb), .val (Value.int pf), .val (Value.int df), .val (Value.ref ad1), .val (Value.int kA), .val (Value.int SA), .unset, .unset, .unset, .unset, .unset, .unset] [(Value.int (4 : Int32)), (Value.int x0)]))
      refine own_iand X50 hx hby at_114 ?_
      show own_G p e below s _ _ _ (T50.setTop (mkF m 115 #[.val (Value.int x0), .val (Value.int x1), .val (Value.int x2), .val (Value.int x3), .val (Value.int ra), .val (Value.int rb), .val (Value.int pf), .val (Value.int df), .val (Value.ref ad1), .val (Value.int kA), .val (Value.int SA), .unset, .unset, .unset, .unset, .unset, .unset] [(Value.int (x0 &&& (4 : Int32)))]))
      refine own_if_eq X50 hx hby at_115 (pc' := 141) (by decide) (by decide) (fun hb51 => ?_) (fun hb51 => ?_)
      · show own_G p e below s _ _ _ (T50.setTop (mkF m 141 #[.val (Value.int x0), .val (Value.int x1), .val (Value.int x2), .val (Value.int x3), .val (Value.int ra), .val (Value.int rb), .val (Value.int pf), .val (Value.int df), .val (Value.ref ad1), .val (Value.int kA), .val (Value.int SA), .unset, .unset, .unset, .unset, .unset, .unset] []))
        exact JA3 _ _ _ f b0 b1 false kA SA X50 e50 N50 O50 A50_ad1 (by rw [show (own_s3 ra b0 b1 false) = (own_s2 ra b0 b1) from by simp [own_s3]]; exact hkA) (by rw [show (own_s3 ra b0 b1 false) = (own_s2 ra b0 b1) from by simp [own_s3]]; exact hSA) (by rw [show (own_s3 ra b0 b1 false) = (own_s2 ra b0 b1) from by simp [own_s3]]; exact hfA)
      · show own_G p e below s _ _ _ (T50.setTop (mkF m 118 #[.val (Value.int x0), .val (Value.int x1), .val (Value.int x2), .val (Value.int x3), .val (Value.int ra), .val (Value.int rb), .val (Value.int pf), .val (Value.int df), .val (Value.ref ad1), .val (Value.int kA), .val (Value.int SA), .unset, .unset, .unset, .unset, .unset, .unset] []))
        refine own_aload X50 hx hby at_118 rfl rfl ?_
        show own_G p e below s _ _ _ (T50.setTop (mkF m 120 #[.val (Value.int x0), .val (Value.int x1), .val (Value.int x2), .val (Value.int x3), .val (Value.int ra), .val (Value.int rb), .val (Value.int pf), .val (Value.int df), .val (Value.ref ad1), .val (Value.int kA), .val (Value.int SA), .unset, .unset, .unset, .unset, .unset, .unset] [(Value.ref ad1)]))
        refine own_iload X50 hx hby at_120 rfl ?_
        show own_G p e below s _ _ _ (T50.setTop (mkF m 122 #[.val (Value.int x0), .val (Value.int x1), .val (Value.int x2), .val (Value.int x3), .val (Value.int ra), .val (Value.int rb), .val (Value.int pf), .val (Value.int df), .val (Value.ref ad1), .val (Value.int kA), .val (Value.int SA), .unset, .unset, .unset, .unset, .unset, .unset] [(Value.int kA), (Value.ref ad1)]))
        refine own_iconst X50 hx hby at_122 ?_
        show own_G p e below s _ _ _ (T50.setTop (mkF m 123 #[.val (Value.int x0), .val (Value.int x1), .val (Value.int x2), .val (Value.int x3), .val (Value.int ra), .val (Value.int rb), .val (Value.int pf), .val (Value.int df), .val (Value.ref ad1), .val (Value.int kA), .val (Value.int SA), .unset, .unset, .unset, .unset, .unset, .unset] [(Value.int (2 : Int32)), (Value.int kA), (Value.ref ad1)]))
        refine own_iload X50 hx hby at_123 rfl ?_
        show own_G p e below s _ _ _ (T50.setTop (mkF m 125 #[.val (Value.int x0), .val (Value.int x1), .val (Value.int x2), .val (Value.int x3), .val (Value.int ra), .val (Value.int rb), .val (Value.int pf), .val (Value.int df), .val (Value.ref ad1), .val (Value.int kA), .val (Value.int SA), .unset, .unset, .unset, .unset, .unset, .unset] [(Value.int ra), (Value.int (2 : Int32)), (Value.int kA), (Value.ref ad1)]))
        refine own_ixor X50 hx hby at_125 ?_
        show own_G p e below s _ _ _ (T50.setTop (mkF m 126 #[.val (Value.int x0), .val (Value.int x1), .val (Value.int x2), .val (Value.int x3), .val (Value.int ra), .val (Value.int rb), .val (Value.int pf), .val (Value.int df), .val (Value.ref ad1), .val (Value.int kA), .val (Value.int SA), .unset, .unset, .unset, .unset, .unset, .unset] [(Value.int ((2 : Int32) ^^^ ra)), (Value.int kA), (Value.ref ad1)]))
        obtain ⟨T52, h52, X52, e52, W52, A52, st52⟩ := own_iastore X50 hx hby hZ e50 A50_ad1 (j := kA) (i := (0 + (own_s2 ra b0 b1).length)) hkA (by have := own_l2 ra b0 b1; omega) (x := ((2 : Int32) ^^^ ra)) at_126 (Ls := #[.val (Value.int x0), .val (Value.int x1), .val (Value.int x2), .val (Value.int x3), .val (Value.int ra), .val (Value.int rb), .val (Value.int pf), .val (Value.int df), .val (Value.ref ad1), .val (Value.int kA), .val (Value.int SA), .unset, .unset, .unset, .unset, .unset, .unset]) (st := [])
        have O53 := Old.wr O50 W52 g1n
        have N52 := Fr.snoc X52 N50 g1n
        have A52n : own_Ar Z h52 ad1 .int 8 (fun j => .int ((own_up f (0 + (own_s2 ra b0 b1).length) ((2 : Int32) ^^^ ra)) j)) := own_Ar.fn A52 (by intro j _; simp only [own_set, own_up]; split <;> rfl)
        refine own_st st52 ?_
        show own_G p e below s _ _ _ (T52.setTop (mkF m 127 #[.val (Value.int x0), .val (Value.int x1), .val (Value.int x2), .val (Value.int x3), .val (Value.int ra), .val (Value.int rb), .val (Value.int pf), .val (Value.int df), .val (Value.ref ad1), .val (Value.int kA), .val (Value.int SA), .unset, .unset, .unset, .unset, .unset, .unset] []))
        refine own_iinc X52 hx hby at_127 rfl (l' := #[.val (Value.int x0), .val (Value.int x1), .val (Value.int x2), .val (Value.int x3), .val (Value.int ra), .val (Value.int rb), .val (Value.int pf), .val (Value.int df), .val (Value.ref ad1), .val (Value.int (kA + (1 : Int32))), .val (Value.int SA), .unset, .unset, .unset, .unset, .unset, .unset]) rfl ?_
        show own_G p e below s _ _ _ (T52.setTop (mkF m 130 #[.val (Value.int x0), .val (Value.int x1), .val (Value.int x2), .val (Value.int x3), .val (Value.int ra), .val (Value.int rb), .val (Value.int pf), .val (Value.int df), .val (Value.ref ad1), .val (Value.int (kA + (1 : Int32))), .val (Value.int SA), .unset, .unset, .unset, .unset, .unset, .unset] []))
        refine own_iload X52 hx hby at_130 rfl ?_
        show own_G p e below s _ _ _ (T52.setTop (mkF m 132 #[.val (Value.int x0), .val (Value.int x1), .val (Value.int x2), .val (Value.int x3), .val (Value.int ra), .val (Value.int rb), .val (Value.int pf), .val (Value.int df), .val (Value.ref ad1), .val (Value.int (kA + (1 : Int32))), .val (Value.int SA), .unset, .unset, .unset, .unset, .unset, .unset] [(Value.int SA)]))
        refine own_iconst X52 hx hby at_132 ?_
        show own_G p e below s _ _ _ (T52.setTop (mkF m 133 #[.val (Value.int x0), .val (Value.int x1), .val (Value.int x2), .val (Value.int x3), .val (Value.int ra), .val (Value.int rb), .val (Value.int pf), .val (Value.int df), .val (Value.ref ad1), .val (Value.int (kA + (1 : Int32))), .val (Value.int SA), .unset, .unset, .unset, .unset, .unset, .unset] [(Value.int (1 : Int32)), (Value.int SA)]))
        refine own_iconst X52 hx hby at_133 ?_
        show own_G p e below s _ _ _ (T52.setTop (mkF m 134 #[.val (Value.int x0), .val (Value.int x1), .val (Value.int x2), .val (Value.int x3), .val (Value.int ra), .val (Value.int rb), .val (Value.int pf), .val (Value.int df), .val (Value.ref ad1), .val (Value.int (kA + (1 : Int32))), .val (Value.int SA), .unset, .unset, .unset, .unset, .unset, .unset] [(Value.int (2 : Int32)), (Value.int (1 : Int32)), (Value.int SA)]))
        refine own_iload X52 hx hby at_134 rfl ?_
        show own_G p e below s _ _ _ (T52.setTop (mkF m 136 #[.val (Value.int x0), .val (Value.int x1), .val (Value.int x2), .val (Value.int x3), .val (Value.int ra), .val (Value.int rb), .val (Value.int pf), .val (Value.int df), .val (Value.ref ad1), .val (Value.int (kA + (1 : Int32))), .val (Value.int SA), .unset, .unset, .unset, .unset, .unset, .unset] [(Value.int ra), (Value.int (2 : Int32)), (Value.int (1 : Int32)), (Value.int SA)]))
        refine own_ixor X52 hx hby at_136 ?_
        show own_G p e below s _ _ _ (T52.setTop (mkF m 137 #[.val (Value.int x0), .val (Value.int x1), .val (Value.int x2), .val (Value.int x3), .val (Value.int ra), .val (Value.int rb), .val (Value.int pf), .val (Value.int df), .val (Value.ref ad1), .val (Value.int (kA + (1 : Int32))), .val (Value.int SA), .unset, .unset, .unset, .unset, .unset, .unset] [(Value.int ((2 : Int32) ^^^ ra)), (Value.int (1 : Int32)), (Value.int SA)]))
        refine own_ishl X52 hx hby at_137 ?_
        show own_G p e below s _ _ _ (T52.setTop (mkF m 138 #[.val (Value.int x0), .val (Value.int x1), .val (Value.int x2), .val (Value.int x3), .val (Value.int ra), .val (Value.int rb), .val (Value.int pf), .val (Value.int df), .val (Value.ref ad1), .val (Value.int (kA + (1 : Int32))), .val (Value.int SA), .unset, .unset, .unset, .unset, .unset, .unset] [(Value.int ((1 : Int32) <<< (((2 : Int32) ^^^ ra) &&& 31))), (Value.int SA)]))
        refine own_ior X52 hx hby at_138 ?_
        show own_G p e below s _ _ _ (T52.setTop (mkF m 139 #[.val (Value.int x0), .val (Value.int x1), .val (Value.int x2), .val (Value.int x3), .val (Value.int ra), .val (Value.int rb), .val (Value.int pf), .val (Value.int df), .val (Value.ref ad1), .val (Value.int (kA + (1 : Int32))), .val (Value.int SA), .unset, .unset, .unset, .unset, .unset, .unset] [(Value.int (SA ||| ((1 : Int32) <<< (((2 : Int32) ^^^ ra) &&& 31))))]))
        refine own_istore X52 hx hby at_139 (l' := #[.val (Value.int x0), .val (Value.int x1), .val (Value.int x2), .val (Value.int x3), .val (Value.int ra), .val (Value.int rb), .val (Value.int pf), .val (Value.int df), .val (Value.ref ad1), .val (Value.int (kA + (1 : Int32))), .val (Value.int (SA ||| ((1 : Int32) <<< (((2 : Int32) ^^^ ra) &&& 31)))), .unset, .unset, .unset, .unset, .unset, .unset]) rfl ?_
        show own_G p e below s _ _ _ (T52.setTop (mkF m 141 #[.val (Value.int x0), .val (Value.int x1), .val (Value.int x2), .val (Value.int x3), .val (Value.int ra), .val (Value.int rb), .val (Value.int pf), .val (Value.int df), .val (Value.ref ad1), .val (Value.int (kA + (1 : Int32))), .val (Value.int (SA ||| ((1 : Int32) <<< (((2 : Int32) ^^^ ra) &&& 31)))), .unset, .unset, .unset, .unset, .unset, .unset] []))
        exact JA3 _ _ _ (own_up f (0 + (own_s2 ra b0 b1).length) ((2 : Int32) ^^^ ra)) b0 b1 true (kA + (1 : Int32)) (SA ||| ((1 : Int32) <<< (((2 : Int32) ^^^ ra) &&& 31))) X52 e52 N52 O53 A52n (show _ = ((0 + (own_s3 ra b0 b1 true).length : Nat) : Int) from own_kpush hkA _ (by have := own_l2 ra b0 b1; omega)) (by show _ = own_mask ((own_s2 ra b0 b1) ++ [_]); rw [own_mask_push]; first | rfl | rw [← hSA]) (own_ag_push hfA _)
    have JA1 : ∀ (T54 : State) (h54 : Heap) (lo54 : List Loc) (f : Nat → Int32) (b0 : Bool) (kA SA : Int32) (X54 : Stand p l e room_1 s m #[(Value.int x0), (Value.int x1), (Value.int x2), (Value.int x3)] below meth c T54 lo54 1 8) (e54 : T54.heap = h54) (N54 : Fr n0 lo54) (O54 : Old Z n0 h54) (A54_ad1 : own_Ar Z h54 ad1 .int 8 (fun j => .int (f j))) (hkA : kA.toInt = ((0 + (own_s1 ra b0).length : Nat) : Int)) (hSA : SA = own_mask (own_s1 ra b0)) (hfA : own_ag f 0 (own_s1 ra b0)), own_G p e below s (own_rm0_Q Z x0 x1 x2 x3 h0 n0) 16 128 (T54.setTop (mkF m 83 #[.val (Value.int x0), .val (Value.int x1), .val (Value.int x2), .val (Value.int x3), .val (Value.int ra), .val (Value.int rb), .val (Value.int pf), .val (Value.int df), .val (Value.ref ad1), .val (Value.int kA), .val (Value.int SA), .unset, .unset, .unset, .unset, .unset, .unset] [])) := by
      intro T54 h54 lo54 f b0 kA SA X54 e54 N54 O54 A54_ad1 hkA hSA hfA
      show own_G p e below s _ _ _ (T54.setTop (mkF m 83 #[.val (Value.int x0), .val (Value.int x1), .val (Value.int x2), .val (Value.int x3), .val (Value.int ra), .val (Value.int rb), .val (Value.int pf), .val (Value.int df), .val (Value.ref ad1), .val (Value.int kA), .val (Value.int SA), .unset, .unset, .unset, .unset, .unset, .unset] []))
      refine own_iloadN X54 hx hby at_83 rfl ?_
      show own_G p e below s _ _ _ (T54.setTop (mkF m 84 #[.val (Value.int x0), .val (Value.int x1), .val (Value.int x2), .val (Value.int x3), .val (Value.int ra), .val (Value.int rb), .val (Value.int pf), .val (Value.int df), .val (Value.ref ad1), .val (Value.int kA), .val (Value.int SA), .unset, .unset, .unset, .unset, .unset, .unset] [(Value.int x0)]))
      refine own_iconst X54 hx hby at_84 ?_
      show own_G p e below s _ _ _ (T54.setTop (mkF m 85 #[.val (Value.int x0), .val (Value.int x1), .val (Value.int x2), .val (Value.int x3), .val (Value.int ra), .val (Value.int rb), .val (Value.int pf), .val (Value.int df), .val (Value.ref ad1), .val (Value.int kA), .val (Value.int SA), .unset, .unset, .unset, .unset, .unset, .unset] [(Value.int (2 : Int32)), (Value.int x0)]))
      refine own_iand X54 hx hby at_85 ?_
      show own_G p e below s _ _ _ (T54.setTop (mkF m 86 #[.val (Value.int x0), .val (Value.int x1), .val (Value.int x2), .val (Value.int x3), .val (Value.int ra), .val (Value.int rb), .val (Value.int pf), .val (Value.int df), .val (Value.ref ad1), .val (Value.int kA), .val (Value.int SA), .unset, .unset, .unset, .unset, .unset, .unset] [(Value.int (x0 &&& (2 : Int32)))]))
      refine own_if_eq X54 hx hby at_86 (pc' := 112) (by decide) (by decide) (fun hb55 => ?_) (fun hb55 => ?_)
      · show own_G p e below s _ _ _ (T54.setTop (mkF m 112 #[.val (Value.int x0), .val (Value.int x1), .val (Value.int x2), .val (Value.int x3), .val (Value.int ra), .val (Value.int rb), .val (Value.int pf), .val (Value.int df), .val (Value.ref ad1), .val (Value.int kA), .val (Value.int SA), .unset, .unset, .unset, .unset, .unset, .unset] []))
        exact JA2 _ _ _ f b0 false kA SA X54 e54 N54 O54 A54_ad1 (by rw [show (own_s2 ra b0 false) = (own_s1 ra b0) from by simp [own_s2]]; exact hkA) (by rw [show (own_s2 ra b0 false) = (own_s1 ra b0) from by simp [own_s2]]; exact hSA) (by rw [show (own_s2 ra b0 false) = (own_s1 ra b0) from by simp [own_s2]]; exact hfA)
      · show own_G p e below s _ _ _ (T54.setTop (mkF m 89 #[.val (Value.int x0), .val (Value.int x1), .val (Value.int x2), .val (Value.int x3), .val (Value.int ra), .val (Value.int rb), .val (Value.int pf), .val (Value.int df), .val (Value.ref ad1), .val (Value.int kA), .val (Value.int SA), .unset, .unset, .unset, .unset, .unset, .unset] []))
        refine own_aload X54 hx hby at_89 rfl rfl ?_
        show own_G p e below s _ _ _ (T54.setTop (mkF m 91 #[.val (Value.int x0), .val (Value.int x1), .val (Value.int x2), .val (Value.int x3), .val (Value.int ra), .val (Value.int rb), .val (Value.int pf), .val (Value.int df), .val (Value.ref ad1), .val (Value.int kA), .val (Value.int SA), .unset, .unset, .unset, .unset, .unset, .unset] [(Value.ref ad1)]))
        refine own_iload X54 hx hby at_91 rfl ?_
        show own_G p e below s _ _ _ (T54.setTop (mkF m 93 #[.val (Value.int x0), .val (Value.int x1), .val (Value.int x2), .val (Value.int x3), .val (Value.int ra), .val (Value.int rb), .val (Value.int pf), .val (Value.int df), .val (Value.ref ad1), .val (Value.int kA), .val (Value.int SA), .unset, .unset, .unset, .unset, .unset, .unset] [(Value.int kA), (Value.ref ad1)]))
        refine own_iconst X54 hx hby at_93 ?_
        show own_G p e below s _ _ _ (T54.setTop (mkF m 94 #[.val (Value.int x0), .val (Value.int x1), .val (Value.int x2), .val (Value.int x3), .val (Value.int ra), .val (Value.int rb), .val (Value.int pf), .val (Value.int df), .val (Value.ref ad1), .val (Value.int kA), .val (Value.int SA), .unset, .unset, .unset, .unset, .unset, .unset] [(Value.int (1 : Int32)), (Value.int kA), (Value.ref ad1)]))
        refine own_iload X54 hx hby at_94 rfl ?_
        show own_G p e below s _ _ _ (T54.setTop (mkF m 96 #[.val (Value.int x0), .val (Value.int x1), .val (Value.int x2), .val (Value.int x3), .val (Value.int ra), .val (Value.int rb), .val (Value.int pf), .val (Value.int df), .val (Value.ref ad1), .val (Value.int kA), .val (Value.int SA), .unset, .unset, .unset, .unset, .unset, .unset] [(Value.int ra), (Value.int (1 : Int32)), (Value.int kA), (Value.ref ad1)]))
        refine own_ixor X54 hx hby at_96 ?_
        show own_G p e below s _ _ _ (T54.setTop (mkF m 97 #[.val (Value.int x0), .val (Value.int x1), .val (Value.int x2), .val (Value.int x3), .val (Value.int ra), .val (Value.int rb), .val (Value.int pf), .val (Value.int df), .val (Value.ref ad1), .val (Value.int kA), .val (Value.int SA), .unset, .unset, .unset, .unset, .unset, .unset] [(Value.int ((1 : Int32) ^^^ ra)), (Value.int kA), (Value.ref ad1)]))
        obtain ⟨T56, h56, X56, e56, W56, A56, st56⟩ := own_iastore X54 hx hby hZ e54 A54_ad1 (j := kA) (i := (0 + (own_s1 ra b0).length)) hkA (by have := own_l1 ra b0; omega) (x := ((1 : Int32) ^^^ ra)) at_97 (Ls := #[.val (Value.int x0), .val (Value.int x1), .val (Value.int x2), .val (Value.int x3), .val (Value.int ra), .val (Value.int rb), .val (Value.int pf), .val (Value.int df), .val (Value.ref ad1), .val (Value.int kA), .val (Value.int SA), .unset, .unset, .unset, .unset, .unset, .unset]) (st := [])
        have O57 := Old.wr O54 W56 g1n
        have N56 := Fr.snoc X56 N54 g1n
        have A56n : own_Ar Z h56 ad1 .int 8 (fun j => .int ((own_up f (0 + (own_s1 ra b0).length) ((1 : Int32) ^^^ ra)) j)) := own_Ar.fn A56 (by intro j _; simp only [own_set, own_up]; split <;> rfl)
        refine own_st st56 ?_
        show own_G p e below s _ _ _ (T56.setTop (mkF m 98 #[.val (Value.int x0), .val (Value.int x1), .val (Value.int x2), .val (Value.int x3), .val (Value.int ra), .val (Value.int rb), .val (Value.int pf), .val (Value.int df), .val (Value.ref ad1), .val (Value.int kA), .val (Value.int SA), .unset, .unset, .unset, .unset, .unset, .unset] []))
        refine own_iinc X56 hx hby at_98 rfl (l' := #[.val (Value.int x0), .val (Value.int x1), .val (Value.int x2), .val (Value.int x3), .val (Value.int ra), .val (Value.int rb), .val (Value.int pf), .val (Value.int df), .val (Value.ref ad1), .val (Value.int (kA + (1 : Int32))), .val (Value.int SA), .unset, .unset, .unset, .unset, .unset, .unset]) rfl ?_
        show own_G p e below s _ _ _ (T56.setTop (mkF m 101 #[.val (Value.int x0), .val (Value.int x1), .val (Value.int x2), .val (Value.int x3), .val (Value.int ra), .val (Value.int rb), .val (Value.int pf), .val (Value.int df), .val (Value.ref ad1), .val (Value.int (kA + (1 : Int32))), .val (Value.int SA), .unset, .unset, .unset, .unset, .unset, .unset] []))
        refine own_iload X56 hx hby at_101 rfl ?_
        show own_G p e below s _ _ _ (T56.setTop (mkF m 103 #[.val (Value.int x0), .val (Value.int x1), .val (Value.int x2), .val (Value.int x3), .val (Value.int ra), .val (Value.int rb), .val (Value.int pf), .val (Value.int df), .val (Value.ref ad1), .val (Value.int (kA + (1 : Int32))), .val (Value.int SA), .unset, .unset, .unset, .unset, .unset, .unset] [(Value.int SA)]))
        refine own_iconst X56 hx hby at_103 ?_
        show own_G p e below s _ _ _ (T56.setTop (mkF m 104 #[.val (Value.int x0), .val (Value.int x1), .val (Value.int x2), .val (Value.int x3), .val (Value.int ra), .val (Value.int rb), .val (Value.int pf), .val (Value.int df), .val (Value.ref ad1), .val (Value.int (kA + (1 : Int32))), .val (Value.int SA), .unset, .unset, .unset, .unset, .unset, .unset] [(Value.int (1 : Int32)), (Value.int SA)]))
        refine own_iconst X56 hx hby at_104 ?_
        show own_G p e below s _ _ _ (T56.setTop (mkF m 105 #[.val (Value.int x0), .val (Value.int x1), .val (Value.int x2), .val (Value.int x3), .val (Value.int ra), .val (Value.int rb), .val (Value.int pf), .val (Value.int df), .val (Value.ref ad1), .val (Value.int (kA + (1 : Int32))), .val (Value.int SA), .unset, .unset, .unset, .unset, .unset, .unset] [(Value.int (1 : Int32)), (Value.int (1 : Int32)), (Value.int SA)]))
        refine own_iload X56 hx hby at_105 rfl ?_
        show own_G p e below s _ _ _ (T56.setTop (mkF m 107 #[.val (Value.int x0), .val (Value.int x1), .val (Value.int x2), .val (Value.int x3), .val (Value.int ra), .val (Value.int rb), .val (Value.int pf), .val (Value.int df), .val (Value.ref ad1), .val (Value.int (kA + (1 : Int32))), .val (Value.int SA), .unset, .unset, .unset, .unset, .unset, .unset] [(Value.int ra), (Value.int (1 : Int32)), (Value.int (1 : Int32)), (Value.int SA)]))
        refine own_ixor X56 hx hby at_107 ?_
        show own_G p e below s _ _ _ (T56.setTop (mkF m 108 #[.val (Value.int x0), .val (Value.int x1), .val (Value.int x2), .val (Value.int x3), .val (Value.int ra), .val (Value.int rb), .val (Value.int pf), .val (Value.int df), .val (Value.ref ad1), .val (Value.int (kA + (1 : Int32))), .val (Value.int SA), .unset, .unset, .unset, .unset, .unset, .unset] [(Value.int ((1 : Int32) ^^^ ra)), (Value.int (1 : Int32)), (Value.int SA)]))
        refine own_ishl X56 hx hby at_108 ?_
        show own_G p e below s _ _ _ (T56.setTop (mkF m 109 #[.val (Value.int x0), .val (Value.int x1), .val (Value.int x2), .val (Value.int x3), .val (Value.int ra), .val (Value.int rb), .val (Value.int pf), .val (Value.int df), .val (Value.ref ad1), .val (Value.int (kA + (1 : Int32))), .val (Value.int SA), .unset, .unset, .unset, .unset, .unset, .unset] [(Value.int ((1 : Int32) <<< (((1 : Int32) ^^^ ra) &&& 31))), (Value.int SA)]))
        refine own_ior X56 hx hby at_109 ?_
        show own_G p e below s _ _ _ (T56.setTop (mkF m 110 #[.val (Value.int x0), .val (Value.int x1), .val (Value.int x2), .val (Value.int x3), .val (Value.int ra), .val (Value.int rb), .val (Value.int pf), .val (Value.int df), .val (Value.ref ad1), .val (Value.int (kA + (1 : Int32))), .val (Value.int SA), .unset, .unset, .unset, .unset, .unset, .unset] [(Value.int (SA ||| ((1 : Int32) <<< (((1 : Int32) ^^^ ra) &&& 31))))]))
        refine own_istore X56 hx hby at_110 (l' := #[.val (Value.int x0), .val (Value.int x1), .val (Value.int x2), .val (Value.int x3), .val (Value.int ra), .val (Value.int rb), .val (Value.int pf), .val (Value.int df), .val (Value.ref ad1), .val (Value.int (kA + (1 : Int32))), .val (Value.int (SA ||| ((1 : Int32) <<< (((1 : Int32) ^^^ ra) &&& 31)))), .unset, .unset, .unset, .unset, .unset, .unset]) rfl ?_
        show own_G p e below s _ _ _ (T56.setTop (mkF m 112 #[.val (Value.int x0), .val (Value.int x1), .val (Value.int x2), .val (Value.int x3), .val (Value.int ra), .val (Value.int rb), .val (Value.int pf), .val (Value.int df), .val (Value.ref ad1), .val (Value.int (kA + (1 : Int32))), .val (Value.int (SA ||| ((1 : Int32) <<< (((1 : Int32) ^^^ ra) &&& 31)))), .unset, .unset, .unset, .unset, .unset, .unset] []))
        exact JA2 _ _ _ (own_up f (0 + (own_s1 ra b0).length) ((1 : Int32) ^^^ ra)) b0 true (kA + (1 : Int32)) (SA ||| ((1 : Int32) <<< (((1 : Int32) ^^^ ra) &&& 31))) X56 e56 N56 O57 A56n (show _ = ((0 + (own_s2 ra b0 true).length : Nat) : Int) from own_kpush hkA _ (by have := own_l1 ra b0; omega)) (by show _ = own_mask ((own_s1 ra b0) ++ [_]); rw [own_mask_push]; first | rfl | rw [← hSA]) (own_ag_push hfA _)
    have own_k0A : (0 : Int32).toInt = ((0 + own_s0.length : Nat) : Int) := by decide
    show own_G p e below s _ _ _ (T1.setTop (mkF m 54 #[.val (Value.int x0), .val (Value.int x1), .val (Value.int x2), .val (Value.int x3), .val (Value.int ra), .val (Value.int rb), .val (Value.int pf), .val (Value.int df), .val (Value.ref ad1), .val (Value.int (0 : Int32)), .val (Value.int (0 : Int32)), .unset, .unset, .unset, .unset, .unset, .unset] []))
    refine own_iloadN X1 hx hby at_54 rfl ?_
    show own_G p e below s _ _ _ (T1.setTop (mkF m 55 #[.val (Value.int x0), .val (Value.int x1), .val (Value.int x2), .val (Value.int x3), .val (Value.int ra), .val (Value.int rb), .val (Value.int pf), .val (Value.int df), .val (Value.ref ad1), .val (Value.int (0 : Int32)), .val (Value.int (0 : Int32)), .unset, .unset, .unset, .unset, .unset, .unset] [(Value.int x0)]))
    refine own_iconst X1 hx hby at_55 ?_
    show own_G p e below s _ _ _ (T1.setTop (mkF m 56 #[.val (Value.int x0), .val (Value.int x1), .val (Value.int x2), .val (Value.int x3), .val (Value.int ra), .val (Value.int rb), .val (Value.int pf), .val (Value.int df), .val (Value.ref ad1), .val (Value.int (0 : Int32)), .val (Value.int (0 : Int32)), .unset, .unset, .unset, .unset, .unset, .unset] [(Value.int (1 : Int32)), (Value.int x0)]))
    refine own_iand X1 hx hby at_56 ?_
    show own_G p e below s _ _ _ (T1.setTop (mkF m 57 #[.val (Value.int x0), .val (Value.int x1), .val (Value.int x2), .val (Value.int x3), .val (Value.int ra), .val (Value.int rb), .val (Value.int pf), .val (Value.int df), .val (Value.ref ad1), .val (Value.int (0 : Int32)), .val (Value.int (0 : Int32)), .unset, .unset, .unset, .unset, .unset, .unset] [(Value.int (x0 &&& (1 : Int32)))]))
    refine own_if_eq X1 hx hby at_57 (pc' := 83) (by decide) (by decide) (fun hb58 => ?_) (fun hb58 => ?_)
    · show own_G p e below s _ _ _ (T1.setTop (mkF m 83 #[.val (Value.int x0), .val (Value.int x1), .val (Value.int x2), .val (Value.int x3), .val (Value.int ra), .val (Value.int rb), .val (Value.int pf), .val (Value.int df), .val (Value.ref ad1), .val (Value.int (0 : Int32)), .val (Value.int (0 : Int32)), .unset, .unset, .unset, .unset, .unset, .unset] []))
      exact JA1 _ _ _ (fun _ => (0 : Int32))  false (0 : Int32) (0 : Int32) X1 e1 N0 O2 Af (by rw [show (own_s1 ra false) = own_s0 from by simp [own_s1]]; exact own_k0A) (by rw [show (own_s1 ra false) = own_s0 from by simp [own_s1]]; exact (rfl : (0 : Int32) = own_mask own_s0)) (by rw [show (own_s1 ra false) = own_s0 from by simp [own_s1]]; exact (own_ag_nil _ 0))
    · show own_G p e below s _ _ _ (T1.setTop (mkF m 60 #[.val (Value.int x0), .val (Value.int x1), .val (Value.int x2), .val (Value.int x3), .val (Value.int ra), .val (Value.int rb), .val (Value.int pf), .val (Value.int df), .val (Value.ref ad1), .val (Value.int (0 : Int32)), .val (Value.int (0 : Int32)), .unset, .unset, .unset, .unset, .unset, .unset] []))
      refine own_aload X1 hx hby at_60 rfl rfl ?_
      show own_G p e below s _ _ _ (T1.setTop (mkF m 62 #[.val (Value.int x0), .val (Value.int x1), .val (Value.int x2), .val (Value.int x3), .val (Value.int ra), .val (Value.int rb), .val (Value.int pf), .val (Value.int df), .val (Value.ref ad1), .val (Value.int (0 : Int32)), .val (Value.int (0 : Int32)), .unset, .unset, .unset, .unset, .unset, .unset] [(Value.ref ad1)]))
      refine own_iload X1 hx hby at_62 rfl ?_
      show own_G p e below s _ _ _ (T1.setTop (mkF m 64 #[.val (Value.int x0), .val (Value.int x1), .val (Value.int x2), .val (Value.int x3), .val (Value.int ra), .val (Value.int rb), .val (Value.int pf), .val (Value.int df), .val (Value.ref ad1), .val (Value.int (0 : Int32)), .val (Value.int (0 : Int32)), .unset, .unset, .unset, .unset, .unset, .unset] [(Value.int (0 : Int32)), (Value.ref ad1)]))
      refine own_iconst X1 hx hby at_64 ?_
      show own_G p e below s _ _ _ (T1.setTop (mkF m 65 #[.val (Value.int x0), .val (Value.int x1), .val (Value.int x2), .val (Value.int x3), .val (Value.int ra), .val (Value.int rb), .val (Value.int pf), .val (Value.int df), .val (Value.ref ad1), .val (Value.int (0 : Int32)), .val (Value.int (0 : Int32)), .unset, .unset, .unset, .unset, .unset, .unset] [(Value.int (0 : Int32)), (Value.int (0 : Int32)), (Value.ref ad1)]))
      refine own_iload X1 hx hby at_65 rfl ?_
      show own_G p e below s _ _ _ (T1.setTop (mkF m 67 #[.val (Value.int x0), .val (Value.int x1), .val (Value.int x2), .val (Value.int x3), .val (Value.int ra), .val (Value.int rb), .val (Value.int pf), .val (Value.int df), .val (Value.ref ad1), .val (Value.int (0 : Int32)), .val (Value.int (0 : Int32)), .unset, .unset, .unset, .unset, .unset, .unset] [(Value.int ra), (Value.int (0 : Int32)), (Value.int (0 : Int32)), (Value.ref ad1)]))
      refine own_ixor X1 hx hby at_67 ?_
      show own_G p e below s _ _ _ (T1.setTop (mkF m 68 #[.val (Value.int x0), .val (Value.int x1), .val (Value.int x2), .val (Value.int x3), .val (Value.int ra), .val (Value.int rb), .val (Value.int pf), .val (Value.int df), .val (Value.ref ad1), .val (Value.int (0 : Int32)), .val (Value.int (0 : Int32)), .unset, .unset, .unset, .unset, .unset, .unset] [(Value.int ((0 : Int32) ^^^ ra)), (Value.int (0 : Int32)), (Value.ref ad1)]))
      obtain ⟨T59, h59, X59, e59, W59, A59, st59⟩ := own_iastore X1 hx hby hZ e1 Af (j := (0 : Int32)) (i := (0 + own_s0.length)) own_k0A (by have := own_l0; omega) (x := ((0 : Int32) ^^^ ra)) at_68 (Ls := #[.val (Value.int x0), .val (Value.int x1), .val (Value.int x2), .val (Value.int x3), .val (Value.int ra), .val (Value.int rb), .val (Value.int pf), .val (Value.int df), .val (Value.ref ad1), .val (Value.int (0 : Int32)), .val (Value.int (0 : Int32)), .unset, .unset, .unset, .unset, .unset, .unset]) (st := [])
      have O60 := Old.wr O2 W59 g1n
      have N59 := Fr.snoc X59 N0 g1n
      have A59n : own_Ar Z h59 ad1 .int 8 (fun j => .int ((own_up (fun _ => (0 : Int32)) (0 + own_s0.length) ((0 : Int32) ^^^ ra)) j)) := own_Ar.fn A59 (by intro j _; simp only [own_set, own_up]; split <;> rfl)
      refine own_st st59 ?_
      show own_G p e below s _ _ _ (T59.setTop (mkF m 69 #[.val (Value.int x0), .val (Value.int x1), .val (Value.int x2), .val (Value.int x3), .val (Value.int ra), .val (Value.int rb), .val (Value.int pf), .val (Value.int df), .val (Value.ref ad1), .val (Value.int (0 : Int32)), .val (Value.int (0 : Int32)), .unset, .unset, .unset, .unset, .unset, .unset] []))
      refine own_iinc X59 hx hby at_69 rfl (l' := #[.val (Value.int x0), .val (Value.int x1), .val (Value.int x2), .val (Value.int x3), .val (Value.int ra), .val (Value.int rb), .val (Value.int pf), .val (Value.int df), .val (Value.ref ad1), .val (Value.int (1 : Int32)), .val (Value.int (0 : Int32)), .unset, .unset, .unset, .unset, .unset, .unset]) rfl ?_
      show own_G p e below s _ _ _ (T59.setTop (mkF m 72 #[.val (Value.int x0), .val (Value.int x1), .val (Value.int x2), .val (Value.int x3), .val (Value.int ra), .val (Value.int rb), .val (Value.int pf), .val (Value.int df), .val (Value.ref ad1), .val (Value.int (1 : Int32)), .val (Value.int (0 : Int32)), .unset, .unset, .unset, .unset, .unset, .unset] []))
      refine own_iload X59 hx hby at_72 rfl ?_
      show own_G p e below s _ _ _ (T59.setTop (mkF m 74 #[.val (Value.int x0), .val (Value.int x1), .val (Value.int x2), .val (Value.int x3), .val (Value.int ra), .val (Value.int rb), .val (Value.int pf), .val (Value.int df), .val (Value.ref ad1), .val (Value.int (1 : Int32)), .val (Value.int (0 : Int32)), .unset, .unset, .unset, .unset, .unset, .unset] [(Value.int (0 : Int32))]))
      refine own_iconst X59 hx hby at_74 ?_
      show own_G p e below s _ _ _ (T59.setTop (mkF m 75 #[.val (Value.int x0), .val (Value.int x1), .val (Value.int x2), .val (Value.int x3), .val (Value.int ra), .val (Value.int rb), .val (Value.int pf), .val (Value.int df), .val (Value.ref ad1), .val (Value.int (1 : Int32)), .val (Value.int (0 : Int32)), .unset, .unset, .unset, .unset, .unset, .unset] [(Value.int (1 : Int32)), (Value.int (0 : Int32))]))
      refine own_iconst X59 hx hby at_75 ?_
      show own_G p e below s _ _ _ (T59.setTop (mkF m 76 #[.val (Value.int x0), .val (Value.int x1), .val (Value.int x2), .val (Value.int x3), .val (Value.int ra), .val (Value.int rb), .val (Value.int pf), .val (Value.int df), .val (Value.ref ad1), .val (Value.int (1 : Int32)), .val (Value.int (0 : Int32)), .unset, .unset, .unset, .unset, .unset, .unset] [(Value.int (0 : Int32)), (Value.int (1 : Int32)), (Value.int (0 : Int32))]))
      refine own_iload X59 hx hby at_76 rfl ?_
      show own_G p e below s _ _ _ (T59.setTop (mkF m 78 #[.val (Value.int x0), .val (Value.int x1), .val (Value.int x2), .val (Value.int x3), .val (Value.int ra), .val (Value.int rb), .val (Value.int pf), .val (Value.int df), .val (Value.ref ad1), .val (Value.int (1 : Int32)), .val (Value.int (0 : Int32)), .unset, .unset, .unset, .unset, .unset, .unset] [(Value.int ra), (Value.int (0 : Int32)), (Value.int (1 : Int32)), (Value.int (0 : Int32))]))
      refine own_ixor X59 hx hby at_78 ?_
      show own_G p e below s _ _ _ (T59.setTop (mkF m 79 #[.val (Value.int x0), .val (Value.int x1), .val (Value.int x2), .val (Value.int x3), .val (Value.int ra), .val (Value.int rb), .val (Value.int pf), .val (Value.int df), .val (Value.ref ad1), .val (Value.int (1 : Int32)), .val (Value.int (0 : Int32)), .unset, .unset, .unset, .unset, .unset, .unset] [(Value.int ((0 : Int32) ^^^ ra)), (Value.int (1 : Int32)), (Value.int (0 : Int32))]))
      refine own_ishl X59 hx hby at_79 ?_
      show own_G p e below s _ _ _ (T59.setTop (mkF m 80 #[.val (Value.int x0), .val (Value.int x1), .val (Value.int x2), .val (Value.int x3), .val (Value.int ra), .val (Value.int rb), .val (Value.int pf), .val (Value.int df), .val (Value.ref ad1), .val (Value.int (1 : Int32)), .val (Value.int (0 : Int32)), .unset, .unset, .unset, .unset, .unset, .unset] [(Value.int ((1 : Int32) <<< (((0 : Int32) ^^^ ra) &&& 31))), (Value.int (0 : Int32))]))
      refine own_ior X59 hx hby at_80 ?_
      show own_G p e below s _ _ _ (T59.setTop (mkF m 81 #[.val (Value.int x0), .val (Value.int x1), .val (Value.int x2), .val (Value.int x3), .val (Value.int ra), .val (Value.int rb), .val (Value.int pf), .val (Value.int df), .val (Value.ref ad1), .val (Value.int (1 : Int32)), .val (Value.int (0 : Int32)), .unset, .unset, .unset, .unset, .unset, .unset] [(Value.int ((0 : Int32) ||| ((1 : Int32) <<< (((0 : Int32) ^^^ ra) &&& 31))))]))
      refine own_istore X59 hx hby at_81 (l' := #[.val (Value.int x0), .val (Value.int x1), .val (Value.int x2), .val (Value.int x3), .val (Value.int ra), .val (Value.int rb), .val (Value.int pf), .val (Value.int df), .val (Value.ref ad1), .val (Value.int (1 : Int32)), .val (Value.int ((0 : Int32) ||| ((1 : Int32) <<< (((0 : Int32) ^^^ ra) &&& 31)))), .unset, .unset, .unset, .unset, .unset, .unset]) rfl ?_
      show own_G p e below s _ _ _ (T59.setTop (mkF m 83 #[.val (Value.int x0), .val (Value.int x1), .val (Value.int x2), .val (Value.int x3), .val (Value.int ra), .val (Value.int rb), .val (Value.int pf), .val (Value.int df), .val (Value.ref ad1), .val (Value.int (1 : Int32)), .val (Value.int ((0 : Int32) ||| ((1 : Int32) <<< (((0 : Int32) ^^^ ra) &&& 31)))), .unset, .unset, .unset, .unset, .unset, .unset] []))
      exact JA1 _ _ _ (own_up (fun _ => (0 : Int32)) (0 + own_s0.length) ((0 : Int32) ^^^ ra))  true (1 : Int32) ((0 : Int32) ||| ((1 : Int32) <<< (((0 : Int32) ^^^ ra) &&& 31))) X59 e59 N59 O60 A59n (show _ = ((0 + (own_s1 ra true).length : Nat) : Int) from own_kpush own_k0A _ (by have := own_l0; omega)) (by show _ = own_mask (own_s0 ++ [_]); rw [own_mask_push]; first | rfl | rw [← (rfl : (0 : Int32) = own_mask own_s0)]) (own_ag_push (own_ag_nil _ 0) _)
  show own_G p e below s _ _ _ (s₁.setTop (mkF m 0 #[.val (Value.int x0), .val (Value.int x1), .val (Value.int x2), .val (Value.int x3), .unset, .unset, .unset, .unset, .unset, .unset, .unset, .unset, .unset, .unset, .unset, .unset, .unset] []))
  refine own_iloadN X0 hx hby at_0 rfl ?_
  show own_G p e below s _ _ _ (s₁.setTop (mkF m 1 #[.val (Value.int x0), .val (Value.int x1), .val (Value.int x2), .val (Value.int x3), .unset, .unset, .unset, .unset, .unset, .unset, .unset, .unset, .unset, .unset, .unset, .unset, .unset] [(Value.int x2)]))
  refine own_iconst X0 hx hby at_1 ?_
  show own_G p e below s _ _ _ (s₁.setTop (mkF m 2 #[.val (Value.int x0), .val (Value.int x1), .val (Value.int x2), .val (Value.int x3), .unset, .unset, .unset, .unset, .unset, .unset, .unset, .unset, .unset, .unset, .unset, .unset, .unset] [(Value.int (3 : Int32)), (Value.int x2)]))
  refine own_iand X0 hx hby at_2 ?_
  show own_G p e below s _ _ _ (s₁.setTop (mkF m 3 #[.val (Value.int x0), .val (Value.int x1), .val (Value.int x2), .val (Value.int x3), .unset, .unset, .unset, .unset, .unset, .unset, .unset, .unset, .unset, .unset, .unset, .unset, .unset] [(Value.int (x2 &&& (3 : Int32)))]))
  refine own_istore X0 hx hby at_3 (l' := #[.val (Value.int x0), .val (Value.int x1), .val (Value.int x2), .val (Value.int x3), .val (Value.int (x2 &&& (3 : Int32))), .unset, .unset, .unset, .unset, .unset, .unset, .unset, .unset, .unset, .unset, .unset, .unset]) rfl ?_
  show own_G p e below s _ _ _ (s₁.setTop (mkF m 5 #[.val (Value.int x0), .val (Value.int x1), .val (Value.int x2), .val (Value.int x3), .val (Value.int (x2 &&& (3 : Int32))), .unset, .unset, .unset, .unset, .unset, .unset, .unset, .unset, .unset, .unset, .unset, .unset] []))
  refine own_iloadN X0 hx hby at_5 rfl ?_
  show own_G p e below s _ _ _ (s₁.setTop (mkF m 6 #[.val (Value.int x0), .val (Value.int x1), .val (Value.int x2), .val (Value.int x3), .val (Value.int (x2 &&& (3 : Int32))), .unset, .unset, .unset, .unset, .unset, .unset, .unset, .unset, .unset, .unset, .unset, .unset] [(Value.int x2)]))
  refine own_iconst X0 hx hby at_6 ?_
  show own_G p e below s _ _ _ (s₁.setTop (mkF m 7 #[.val (Value.int x0), .val (Value.int x1), .val (Value.int x2), .val (Value.int x3), .val (Value.int (x2 &&& (3 : Int32))), .unset, .unset, .unset, .unset, .unset, .unset, .unset, .unset, .unset, .unset, .unset, .unset] [(Value.int (2 : Int32)), (Value.int x2)]))
  refine own_ishr X0 hx hby at_7 ?_
  show own_G p e below s _ _ _ (s₁.setTop (mkF m 8 #[.val (Value.int x0), .val (Value.int x1), .val (Value.int x2), .val (Value.int x3), .val (Value.int (x2 &&& (3 : Int32))), .unset, .unset, .unset, .unset, .unset, .unset, .unset, .unset, .unset, .unset, .unset, .unset] [(Value.int (x2 >>> ((2 : Int32) &&& 31)))]))
  refine own_iconst X0 hx hby at_8 ?_
  show own_G p e below s _ _ _ (s₁.setTop (mkF m 9 #[.val (Value.int x0), .val (Value.int x1), .val (Value.int x2), .val (Value.int x3), .val (Value.int (x2 &&& (3 : Int32))), .unset, .unset, .unset, .unset, .unset, .unset, .unset, .unset, .unset, .unset, .unset, .unset] [(Value.int (3 : Int32)), (Value.int (x2 >>> ((2 : Int32) &&& 31)))]))
  refine own_iand X0 hx hby at_9 ?_
  show own_G p e below s _ _ _ (s₁.setTop (mkF m 10 #[.val (Value.int x0), .val (Value.int x1), .val (Value.int x2), .val (Value.int x3), .val (Value.int (x2 &&& (3 : Int32))), .unset, .unset, .unset, .unset, .unset, .unset, .unset, .unset, .unset, .unset, .unset, .unset] [(Value.int ((x2 >>> ((2 : Int32) &&& 31)) &&& (3 : Int32)))]))
  refine own_istore X0 hx hby at_10 (l' := #[.val (Value.int x0), .val (Value.int x1), .val (Value.int x2), .val (Value.int x3), .val (Value.int (x2 &&& (3 : Int32))), .val (Value.int ((x2 >>> ((2 : Int32) &&& 31)) &&& (3 : Int32))), .unset, .unset, .unset, .unset, .unset, .unset, .unset, .unset, .unset, .unset, .unset]) rfl ?_
  show own_G p e below s _ _ _ (s₁.setTop (mkF m 12 #[.val (Value.int x0), .val (Value.int x1), .val (Value.int x2), .val (Value.int x3), .val (Value.int (x2 &&& (3 : Int32))), .val (Value.int ((x2 >>> ((2 : Int32) &&& 31)) &&& (3 : Int32))), .unset, .unset, .unset, .unset, .unset, .unset, .unset, .unset, .unset, .unset, .unset] []))
  refine own_iloadN X0 hx hby at_12 rfl ?_
  show own_G p e below s _ _ _ (s₁.setTop (mkF m 13 #[.val (Value.int x0), .val (Value.int x1), .val (Value.int x2), .val (Value.int x3), .val (Value.int (x2 &&& (3 : Int32))), .val (Value.int ((x2 >>> ((2 : Int32) &&& 31)) &&& (3 : Int32))), .unset, .unset, .unset, .unset, .unset, .unset, .unset, .unset, .unset, .unset, .unset] [(Value.int x2)]))
  refine own_iconst X0 hx hby at_13 ?_
  show own_G p e below s _ _ _ (s₁.setTop (mkF m 14 #[.val (Value.int x0), .val (Value.int x1), .val (Value.int x2), .val (Value.int x3), .val (Value.int (x2 &&& (3 : Int32))), .val (Value.int ((x2 >>> ((2 : Int32) &&& 31)) &&& (3 : Int32))), .unset, .unset, .unset, .unset, .unset, .unset, .unset, .unset, .unset, .unset, .unset] [(Value.int (4 : Int32)), (Value.int x2)]))
  refine own_ishr X0 hx hby at_14 ?_
  show own_G p e below s _ _ _ (s₁.setTop (mkF m 15 #[.val (Value.int x0), .val (Value.int x1), .val (Value.int x2), .val (Value.int x3), .val (Value.int (x2 &&& (3 : Int32))), .val (Value.int ((x2 >>> ((2 : Int32) &&& 31)) &&& (3 : Int32))), .unset, .unset, .unset, .unset, .unset, .unset, .unset, .unset, .unset, .unset, .unset] [(Value.int (x2 >>> ((4 : Int32) &&& 31)))]))
  refine own_iconst X0 hx hby at_15 ?_
  show own_G p e below s _ _ _ (s₁.setTop (mkF m 16 #[.val (Value.int x0), .val (Value.int x1), .val (Value.int x2), .val (Value.int x3), .val (Value.int (x2 &&& (3 : Int32))), .val (Value.int ((x2 >>> ((2 : Int32) &&& 31)) &&& (3 : Int32))), .unset, .unset, .unset, .unset, .unset, .unset, .unset, .unset, .unset, .unset, .unset] [(Value.int (1 : Int32)), (Value.int (x2 >>> ((4 : Int32) &&& 31)))]))
  refine own_iand X0 hx hby at_16 ?_
  show own_G p e below s _ _ _ (s₁.setTop (mkF m 17 #[.val (Value.int x0), .val (Value.int x1), .val (Value.int x2), .val (Value.int x3), .val (Value.int (x2 &&& (3 : Int32))), .val (Value.int ((x2 >>> ((2 : Int32) &&& 31)) &&& (3 : Int32))), .unset, .unset, .unset, .unset, .unset, .unset, .unset, .unset, .unset, .unset, .unset] [(Value.int ((x2 >>> ((4 : Int32) &&& 31)) &&& (1 : Int32)))]))
  refine own_if_eq X0 hx hby at_17 (pc' := 24) (by decide) (by decide) (fun hb61 => ?_) (fun hb61 => ?_)
  · show own_G p e below s _ _ _ (s₁.setTop (mkF m 24 #[.val (Value.int x0), .val (Value.int x1), .val (Value.int x2), .val (Value.int x3), .val (Value.int (x2 &&& (3 : Int32))), .val (Value.int ((x2 >>> ((2 : Int32) &&& 31)) &&& (3 : Int32))), .unset, .unset, .unset, .unset, .unset, .unset, .unset, .unset, .unset, .unset, .unset] []))
    refine own_iconst X0 hx hby at_24 ?_
    show own_G p e below s _ _ _ (s₁.setTop (mkF m 25 #[.val (Value.int x0), .val (Value.int x1), .val (Value.int x2), .val (Value.int x3), .val (Value.int (x2 &&& (3 : Int32))), .val (Value.int ((x2 >>> ((2 : Int32) &&& 31)) &&& (3 : Int32))), .unset, .unset, .unset, .unset, .unset, .unset, .unset, .unset, .unset, .unset, .unset] [(Value.int (0 : Int32))]))
    refine own_istore X0 hx hby at_25 (l' := #[.val (Value.int x0), .val (Value.int x1), .val (Value.int x2), .val (Value.int x3), .val (Value.int (x2 &&& (3 : Int32))), .val (Value.int ((x2 >>> ((2 : Int32) &&& 31)) &&& (3 : Int32))), .val (Value.int (0 : Int32)), .unset, .unset, .unset, .unset, .unset, .unset, .unset, .unset, .unset, .unset]) rfl ?_
    show own_G p e below s _ _ _ (s₁.setTop (mkF m 27 #[.val (Value.int x0), .val (Value.int x1), .val (Value.int x2), .val (Value.int x3), .val (Value.int (x2 &&& (3 : Int32))), .val (Value.int ((x2 >>> ((2 : Int32) &&& 31)) &&& (3 : Int32))), .val (Value.int (0 : Int32)), .unset, .unset, .unset, .unset, .unset, .unset, .unset, .unset, .unset, .unset] []))
    refine own_iloadN X0 hx hby at_27 rfl ?_
    show own_G p e below s _ _ _ (s₁.setTop (mkF m 28 #[.val (Value.int x0), .val (Value.int x1), .val (Value.int x2), .val (Value.int x3), .val (Value.int (x2 &&& (3 : Int32))), .val (Value.int ((x2 >>> ((2 : Int32) &&& 31)) &&& (3 : Int32))), .val (Value.int (0 : Int32)), .unset, .unset, .unset, .unset, .unset, .unset, .unset, .unset, .unset, .unset] [(Value.int x2)]))
    refine own_iconst X0 hx hby at_28 ?_
    show own_G p e below s _ _ _ (s₁.setTop (mkF m 29 #[.val (Value.int x0), .val (Value.int x1), .val (Value.int x2), .val (Value.int x3), .val (Value.int (x2 &&& (3 : Int32))), .val (Value.int ((x2 >>> ((2 : Int32) &&& 31)) &&& (3 : Int32))), .val (Value.int (0 : Int32)), .unset, .unset, .unset, .unset, .unset, .unset, .unset, .unset, .unset, .unset] [(Value.int (5 : Int32)), (Value.int x2)]))
    refine own_ishr X0 hx hby at_29 ?_
    show own_G p e below s _ _ _ (s₁.setTop (mkF m 30 #[.val (Value.int x0), .val (Value.int x1), .val (Value.int x2), .val (Value.int x3), .val (Value.int (x2 &&& (3 : Int32))), .val (Value.int ((x2 >>> ((2 : Int32) &&& 31)) &&& (3 : Int32))), .val (Value.int (0 : Int32)), .unset, .unset, .unset, .unset, .unset, .unset, .unset, .unset, .unset, .unset] [(Value.int (x2 >>> ((5 : Int32) &&& 31)))]))
    refine own_iconst X0 hx hby at_30 ?_
    show own_G p e below s _ _ _ (s₁.setTop (mkF m 31 #[.val (Value.int x0), .val (Value.int x1), .val (Value.int x2), .val (Value.int x3), .val (Value.int (x2 &&& (3 : Int32))), .val (Value.int ((x2 >>> ((2 : Int32) &&& 31)) &&& (3 : Int32))), .val (Value.int (0 : Int32)), .unset, .unset, .unset, .unset, .unset, .unset, .unset, .unset, .unset, .unset] [(Value.int (1 : Int32)), (Value.int (x2 >>> ((5 : Int32) &&& 31)))]))
    refine own_iand X0 hx hby at_31 ?_
    show own_G p e below s _ _ _ (s₁.setTop (mkF m 32 #[.val (Value.int x0), .val (Value.int x1), .val (Value.int x2), .val (Value.int x3), .val (Value.int (x2 &&& (3 : Int32))), .val (Value.int ((x2 >>> ((2 : Int32) &&& 31)) &&& (3 : Int32))), .val (Value.int (0 : Int32)), .unset, .unset, .unset, .unset, .unset, .unset, .unset, .unset, .unset, .unset] [(Value.int ((x2 >>> ((5 : Int32) &&& 31)) &&& (1 : Int32)))]))
    refine own_if_eq X0 hx hby at_32 (pc' := 39) (by decide) (by decide) (fun hb62 => ?_) (fun hb62 => ?_)
    · show own_G p e below s _ _ _ (s₁.setTop (mkF m 39 #[.val (Value.int x0), .val (Value.int x1), .val (Value.int x2), .val (Value.int x3), .val (Value.int (x2 &&& (3 : Int32))), .val (Value.int ((x2 >>> ((2 : Int32) &&& 31)) &&& (3 : Int32))), .val (Value.int (0 : Int32)), .unset, .unset, .unset, .unset, .unset, .unset, .unset, .unset, .unset, .unset] []))
      refine own_iconst X0 hx hby at_39 ?_
      show own_G p e below s _ _ _ (s₁.setTop (mkF m 40 #[.val (Value.int x0), .val (Value.int x1), .val (Value.int x2), .val (Value.int x3), .val (Value.int (x2 &&& (3 : Int32))), .val (Value.int ((x2 >>> ((2 : Int32) &&& 31)) &&& (3 : Int32))), .val (Value.int (0 : Int32)), .unset, .unset, .unset, .unset, .unset, .unset, .unset, .unset, .unset, .unset] [(Value.int (0 : Int32))]))
      refine own_istore X0 hx hby at_40 (l' := #[.val (Value.int x0), .val (Value.int x1), .val (Value.int x2), .val (Value.int x3), .val (Value.int (x2 &&& (3 : Int32))), .val (Value.int ((x2 >>> ((2 : Int32) &&& 31)) &&& (3 : Int32))), .val (Value.int (0 : Int32)), .val (Value.int (0 : Int32)), .unset, .unset, .unset, .unset, .unset, .unset, .unset, .unset, .unset]) rfl ?_
      show own_G p e below s _ _ _ (s₁.setTop (mkF m 42 #[.val (Value.int x0), .val (Value.int x1), .val (Value.int x2), .val (Value.int x3), .val (Value.int (x2 &&& (3 : Int32))), .val (Value.int ((x2 >>> ((2 : Int32) &&& 31)) &&& (3 : Int32))), .val (Value.int (0 : Int32)), .val (Value.int (0 : Int32)), .unset, .unset, .unset, .unset, .unset, .unset, .unset, .unset, .unset] []))
      exact J42 _ _
    · show own_G p e below s _ _ _ (s₁.setTop (mkF m 35 #[.val (Value.int x0), .val (Value.int x1), .val (Value.int x2), .val (Value.int x3), .val (Value.int (x2 &&& (3 : Int32))), .val (Value.int ((x2 >>> ((2 : Int32) &&& 31)) &&& (3 : Int32))), .val (Value.int (0 : Int32)), .unset, .unset, .unset, .unset, .unset, .unset, .unset, .unset, .unset, .unset] []))
      refine own_iconst X0 hx hby at_35 ?_
      show own_G p e below s _ _ _ (s₁.setTop (mkF m 36 #[.val (Value.int x0), .val (Value.int x1), .val (Value.int x2), .val (Value.int x3), .val (Value.int (x2 &&& (3 : Int32))), .val (Value.int ((x2 >>> ((2 : Int32) &&& 31)) &&& (3 : Int32))), .val (Value.int (0 : Int32)), .unset, .unset, .unset, .unset, .unset, .unset, .unset, .unset, .unset, .unset] [(Value.int (1 : Int32))]))
      refine own_goto X0 hx hby at_36 (pc' := 40) (by decide) (by decide) ?_
      show own_G p e below s _ _ _ (s₁.setTop (mkF m 40 #[.val (Value.int x0), .val (Value.int x1), .val (Value.int x2), .val (Value.int x3), .val (Value.int (x2 &&& (3 : Int32))), .val (Value.int ((x2 >>> ((2 : Int32) &&& 31)) &&& (3 : Int32))), .val (Value.int (0 : Int32)), .unset, .unset, .unset, .unset, .unset, .unset, .unset, .unset, .unset, .unset] [(Value.int (1 : Int32))]))
      refine own_istore X0 hx hby at_40 (l' := #[.val (Value.int x0), .val (Value.int x1), .val (Value.int x2), .val (Value.int x3), .val (Value.int (x2 &&& (3 : Int32))), .val (Value.int ((x2 >>> ((2 : Int32) &&& 31)) &&& (3 : Int32))), .val (Value.int (0 : Int32)), .val (Value.int (1 : Int32)), .unset, .unset, .unset, .unset, .unset, .unset, .unset, .unset, .unset]) rfl ?_
      show own_G p e below s _ _ _ (s₁.setTop (mkF m 42 #[.val (Value.int x0), .val (Value.int x1), .val (Value.int x2), .val (Value.int x3), .val (Value.int (x2 &&& (3 : Int32))), .val (Value.int ((x2 >>> ((2 : Int32) &&& 31)) &&& (3 : Int32))), .val (Value.int (0 : Int32)), .val (Value.int (1 : Int32)), .unset, .unset, .unset, .unset, .unset, .unset, .unset, .unset, .unset] []))
      exact J42 _ _
  · show own_G p e below s _ _ _ (s₁.setTop (mkF m 20 #[.val (Value.int x0), .val (Value.int x1), .val (Value.int x2), .val (Value.int x3), .val (Value.int (x2 &&& (3 : Int32))), .val (Value.int ((x2 >>> ((2 : Int32) &&& 31)) &&& (3 : Int32))), .unset, .unset, .unset, .unset, .unset, .unset, .unset, .unset, .unset, .unset, .unset] []))
    refine own_iconst X0 hx hby at_20 ?_
    show own_G p e below s _ _ _ (s₁.setTop (mkF m 21 #[.val (Value.int x0), .val (Value.int x1), .val (Value.int x2), .val (Value.int x3), .val (Value.int (x2 &&& (3 : Int32))), .val (Value.int ((x2 >>> ((2 : Int32) &&& 31)) &&& (3 : Int32))), .unset, .unset, .unset, .unset, .unset, .unset, .unset, .unset, .unset, .unset, .unset] [(Value.int (1 : Int32))]))
    refine own_goto X0 hx hby at_21 (pc' := 25) (by decide) (by decide) ?_
    show own_G p e below s _ _ _ (s₁.setTop (mkF m 25 #[.val (Value.int x0), .val (Value.int x1), .val (Value.int x2), .val (Value.int x3), .val (Value.int (x2 &&& (3 : Int32))), .val (Value.int ((x2 >>> ((2 : Int32) &&& 31)) &&& (3 : Int32))), .unset, .unset, .unset, .unset, .unset, .unset, .unset, .unset, .unset, .unset, .unset] [(Value.int (1 : Int32))]))
    refine own_istore X0 hx hby at_25 (l' := #[.val (Value.int x0), .val (Value.int x1), .val (Value.int x2), .val (Value.int x3), .val (Value.int (x2 &&& (3 : Int32))), .val (Value.int ((x2 >>> ((2 : Int32) &&& 31)) &&& (3 : Int32))), .val (Value.int (1 : Int32)), .unset, .unset, .unset, .unset, .unset, .unset, .unset, .unset, .unset, .unset]) rfl ?_
    show own_G p e below s _ _ _ (s₁.setTop (mkF m 27 #[.val (Value.int x0), .val (Value.int x1), .val (Value.int x2), .val (Value.int x3), .val (Value.int (x2 &&& (3 : Int32))), .val (Value.int ((x2 >>> ((2 : Int32) &&& 31)) &&& (3 : Int32))), .val (Value.int (1 : Int32)), .unset, .unset, .unset, .unset, .unset, .unset, .unset, .unset, .unset, .unset] []))
    refine own_iloadN X0 hx hby at_27 rfl ?_
    show own_G p e below s _ _ _ (s₁.setTop (mkF m 28 #[.val (Value.int x0), .val (Value.int x1), .val (Value.int x2), .val (Value.int x3), .val (Value.int (x2 &&& (3 : Int32))), .val (Value.int ((x2 >>> ((2 : Int32) &&& 31)) &&& (3 : Int32))), .val (Value.int (1 : Int32)), .unset, .unset, .unset, .unset, .unset, .unset, .unset, .unset, .unset, .unset] [(Value.int x2)]))
    refine own_iconst X0 hx hby at_28 ?_
    show own_G p e below s _ _ _ (s₁.setTop (mkF m 29 #[.val (Value.int x0), .val (Value.int x1), .val (Value.int x2), .val (Value.int x3), .val (Value.int (x2 &&& (3 : Int32))), .val (Value.int ((x2 >>> ((2 : Int32) &&& 31)) &&& (3 : Int32))), .val (Value.int (1 : Int32)), .unset, .unset, .unset, .unset, .unset, .unset, .unset, .unset, .unset, .unset] [(Value.int (5 : Int32)), (Value.int x2)]))
    refine own_ishr X0 hx hby at_29 ?_
    show own_G p e below s _ _ _ (s₁.setTop (mkF m 30 #[.val (Value.int x0), .val (Value.int x1), .val (Value.int x2), .val (Value.int x3), .val (Value.int (x2 &&& (3 : Int32))), .val (Value.int ((x2 >>> ((2 : Int32) &&& 31)) &&& (3 : Int32))), .val (Value.int (1 : Int32)), .unset, .unset, .unset, .unset, .unset, .unset, .unset, .unset, .unset, .unset] [(Value.int (x2 >>> ((5 : Int32) &&& 31)))]))
    refine own_iconst X0 hx hby at_30 ?_
    show own_G p e below s _ _ _ (s₁.setTop (mkF m 31 #[.val (Value.int x0), .val (Value.int x1), .val (Value.int x2), .val (Value.int x3), .val (Value.int (x2 &&& (3 : Int32))), .val (Value.int ((x2 >>> ((2 : Int32) &&& 31)) &&& (3 : Int32))), .val (Value.int (1 : Int32)), .unset, .unset, .unset, .unset, .unset, .unset, .unset, .unset, .unset, .unset] [(Value.int (1 : Int32)), (Value.int (x2 >>> ((5 : Int32) &&& 31)))]))
    refine own_iand X0 hx hby at_31 ?_
    show own_G p e below s _ _ _ (s₁.setTop (mkF m 32 #[.val (Value.int x0), .val (Value.int x1), .val (Value.int x2), .val (Value.int x3), .val (Value.int (x2 &&& (3 : Int32))), .val (Value.int ((x2 >>> ((2 : Int32) &&& 31)) &&& (3 : Int32))), .val (Value.int (1 : Int32)), .unset, .unset, .unset, .unset, .unset, .unset, .unset, .unset, .unset, .unset] [(Value.int ((x2 >>> ((5 : Int32) &&& 31)) &&& (1 : Int32)))]))
    refine own_if_eq X0 hx hby at_32 (pc' := 39) (by decide) (by decide) (fun hb63 => ?_) (fun hb63 => ?_)
    · show own_G p e below s _ _ _ (s₁.setTop (mkF m 39 #[.val (Value.int x0), .val (Value.int x1), .val (Value.int x2), .val (Value.int x3), .val (Value.int (x2 &&& (3 : Int32))), .val (Value.int ((x2 >>> ((2 : Int32) &&& 31)) &&& (3 : Int32))), .val (Value.int (1 : Int32)), .unset, .unset, .unset, .unset, .unset, .unset, .unset, .unset, .unset, .unset] []))
      refine own_iconst X0 hx hby at_39 ?_
      show own_G p e below s _ _ _ (s₁.setTop (mkF m 40 #[.val (Value.int x0), .val (Value.int x1), .val (Value.int x2), .val (Value.int x3), .val (Value.int (x2 &&& (3 : Int32))), .val (Value.int ((x2 >>> ((2 : Int32) &&& 31)) &&& (3 : Int32))), .val (Value.int (1 : Int32)), .unset, .unset, .unset, .unset, .unset, .unset, .unset, .unset, .unset, .unset] [(Value.int (0 : Int32))]))
      refine own_istore X0 hx hby at_40 (l' := #[.val (Value.int x0), .val (Value.int x1), .val (Value.int x2), .val (Value.int x3), .val (Value.int (x2 &&& (3 : Int32))), .val (Value.int ((x2 >>> ((2 : Int32) &&& 31)) &&& (3 : Int32))), .val (Value.int (1 : Int32)), .val (Value.int (0 : Int32)), .unset, .unset, .unset, .unset, .unset, .unset, .unset, .unset, .unset]) rfl ?_
      show own_G p e below s _ _ _ (s₁.setTop (mkF m 42 #[.val (Value.int x0), .val (Value.int x1), .val (Value.int x2), .val (Value.int x3), .val (Value.int (x2 &&& (3 : Int32))), .val (Value.int ((x2 >>> ((2 : Int32) &&& 31)) &&& (3 : Int32))), .val (Value.int (1 : Int32)), .val (Value.int (0 : Int32)), .unset, .unset, .unset, .unset, .unset, .unset, .unset, .unset, .unset] []))
      exact J42 _ _
    · show own_G p e below s _ _ _ (s₁.setTop (mkF m 35 #[.val (Value.int x0), .val (Value.int x1), .val (Value.int x2), .val (Value.int x3), .val (Value.int (x2 &&& (3 : Int32))), .val (Value.int ((x2 >>> ((2 : Int32) &&& 31)) &&& (3 : Int32))), .val (Value.int (1 : Int32)), .unset, .unset, .unset, .unset, .unset, .unset, .unset, .unset, .unset, .unset] []))
      refine own_iconst X0 hx hby at_35 ?_
      show own_G p e below s _ _ _ (s₁.setTop (mkF m 36 #[.val (Value.int x0), .val (Value.int x1), .val (Value.int x2), .val (Value.int x3), .val (Value.int (x2 &&& (3 : Int32))), .val (Value.int ((x2 >>> ((2 : Int32) &&& 31)) &&& (3 : Int32))), .val (Value.int (1 : Int32)), .unset, .unset, .unset, .unset, .unset, .unset, .unset, .unset, .unset, .unset] [(Value.int (1 : Int32))]))
      refine own_goto X0 hx hby at_36 (pc' := 40) (by decide) (by decide) ?_
      show own_G p e below s _ _ _ (s₁.setTop (mkF m 40 #[.val (Value.int x0), .val (Value.int x1), .val (Value.int x2), .val (Value.int x3), .val (Value.int (x2 &&& (3 : Int32))), .val (Value.int ((x2 >>> ((2 : Int32) &&& 31)) &&& (3 : Int32))), .val (Value.int (1 : Int32)), .unset, .unset, .unset, .unset, .unset, .unset, .unset, .unset, .unset, .unset] [(Value.int (1 : Int32))]))
      refine own_istore X0 hx hby at_40 (l' := #[.val (Value.int x0), .val (Value.int x1), .val (Value.int x2), .val (Value.int x3), .val (Value.int (x2 &&& (3 : Int32))), .val (Value.int ((x2 >>> ((2 : Int32) &&& 31)) &&& (3 : Int32))), .val (Value.int (1 : Int32)), .val (Value.int (1 : Int32)), .unset, .unset, .unset, .unset, .unset, .unset, .unset, .unset, .unset]) rfl ?_
      show own_G p e below s _ _ _ (s₁.setTop (mkF m 42 #[.val (Value.int x0), .val (Value.int x1), .val (Value.int x2), .val (Value.int x3), .val (Value.int (x2 &&& (3 : Int32))), .val (Value.int ((x2 >>> ((2 : Int32) &&& 31)) &&& (3 : Int32))), .val (Value.int (1 : Int32)), .val (Value.int (1 : Int32)), .unset, .unset, .unset, .unset, .unset, .unset, .unset, .unset, .unset] []))
      exact J42 _ _
set_option maxRecDepth 65536 in
set_option maxHeartbeats 40000000 in
theorem comes_1 {Post : Tables → Env → Array Value → State → Outcome → State → Prop} (hpost : ∀ tb e args s v u, (limb_1_1.after args s (.returned v) u = true ∧ limb_1_2.after args s (.returned v) u = true ∧ True) → FrameEnd s (.returned v) u (Jvm.fieldLocs frame_1_writes args s ++ Jvm.arrayLocs frame_1_arrays args s ++ Jvm.staticLocs frame_1_statics s) 16 128 → Post tb e args s (.returned v) u) :
    ArmFor flags0 classFile x code maxLocals ret World_1 tables_1 room_1 Calls_1 rest_1 Pre_1 Post := by
  intro l hfl _ _ p e ha hc hk s m args below hf hA hF happ hP
  obtain ⟨hcalls, hrest, hpre⟩ := hP
  obtain ⟨-, -, -, hnamed, -, -, -, hat⟩ := (Spec.applies_iff hf).mp happ
  obtain ⟨hg, hn⟩ := and_e (Cond.before_iff.mp (show (Jvm.Cond.and given_1 narrow_1).before args s = true from hpre))
  obtain ⟨hgc, hgr0⟩ := and_e hg
  obtain ⟨hga0, hgr1⟩ := and_e hgr0
  obtain ⟨hga1, hgr2⟩ := and_e hgr1
  obtain ⟨hga2, hgr3⟩ := and_e hgr2
  have hga3 := hgr3
  obtain ⟨w0, w1, w2, w3, rfl⟩ : ∃ w0 w1 w2 w3 : Value, args = #[w0, w1, w2, w3] := by
    have hs : args.size = 4 := by simpa [Cond.value, given_1] using hgc
    obtain ⟨L⟩ := args
    match L, hs with
    | [w0, w1, w2, w3], _ => exact ⟨w0, w1, w2, w3, rfl⟩
  have hw := fun d (hd : d ∈ tables_1) => atoms_spec (ws := Jvm.Cond.code x code maxLocals ret :: tables_1) hat d (List.mem_cons_of_mem _ hd)
  have hfit : Fit s := fun {y c} hc i hi => by
    obtain ⟨ha, rfl⟩ := Array.getElem?_eq_some_iff.mp hc
    have q := List.all_eq_true.mp ((Array.all_eq_true_iff_forall_mem.mp hF) _ (Array.getElem_mem ha)) i (List.mem_range.mpr hi)
    simpa [Array.getElem?_eq_getElem hi] using q
  obtain ⟨i0, ei0⟩ := is_v hga0
  obtain rfl : w0 = (.int i0) := Option.some.inj ei0
  obtain ⟨i1, ei1⟩ := is_v hga1
  obtain rfl : w1 = (.int i1) := Option.some.inj ei1
  obtain ⟨i2, ei2⟩ := is_v hga2
  obtain rfl : w2 = (.int i2) := Option.some.inj ei2
  obtain ⟨i3, ei3⟩ := is_v hga3
  obtain rfl : w3 = (.int i3) := Option.some.inj ei3
  obtain ⟨n, o, h1, h2, h3, _, L, rfl, ⟨rfl, N⟩, hq⟩ := own_rm0 l s _ hw tables_1 i0 i1 i2 i3  s.heap s.heap.size (Old.start s)  p e ha hc hk s m _ below hf ((Spec.applies_iff_loose hf).mp happ).1 ⟨rfl, State.Warmed39.refl s, rfl⟩ trivial
  refine ⟨n, _, h1, h2, h3, hpost _ _ _ _ _ _ ⟨Cond.after_iff.mpr rfl, Cond.after_iff.mpr (eq_i res_at (Term.int_eval (1)) rfl), trivial⟩ ⟨hq.1, hq.2.1, (hq.2.2.sift fun y hy => Or.inr (N y hy)).mono (by decide) (by decide)⟩⟩
theorem main_1_1 : Claimed_1_1 := comes_1 fun _ _ _ _ _ _ h hF => ⟨h.1, hF⟩
theorem main_1_2 : Claimed_1_2 := comes_1 fun _ _ _ _ _ _ h hF => ⟨h.2.1, hF⟩
end Jvm.Pilot.@@N@@
namespace Jvm.Pilot.@@N@@
open Jvm Jvm.ClassFile Sem Op Lib Jvm.Free Jvm.Stand Jvm.Pilot.@@N@@.Jvm.D
/-! MADE BY PROGRAM (witnessworld.py) out of the Statement's table words and the real class files: 9 classes; the members and pool entries that the words name. The judged class is class 1, her method 2. -/
namespace start1
open Jvm.ClassFile
def u (s : String) : CpInfo := .utf8 (stringToUtf16 s)
/-- a pool by its gaps: so many unusable entries, then the entry; so many at the end -/
def gap : Nat → List CpInfo → List CpInfo
  | 0, r => r
  | n + 1, r => .unusable :: gap n r
def poolList (es : List (Nat × CpInfo)) (last : Nat) : List CpInfo := es.foldr (fun e r => gap e.1 (e.2 :: r)) (gap last [])
def pool (es : List (Nat × CpInfo)) (last : Nat) : Array CpInfo := ⟨poolList es last⟩
def fileOf (pool : Array CpInfo) (this : Nat) (attrs : Array Attribute := #[]) (ms : Array MethodInfo := #[]) (fl : Nat := 33) (sup : Nat := 0) (ifs : Array Nat := #[]) (fds : Array FieldInfo := #[]) : ClassFile where
  minorVersion := 0
  majorVersion := 65
  constantPool := pool
  accessFlags := fl
  thisClass := this
  superClass := sup
  interfaces := ifs
  fields := fds
  methods := ms
  attributes := attrs
def plain (name : String) (sup : Option ClassId) : Class where
  name := name
  kind := .ordinary
  loader := none
  accessFlags := 33
  super := sup
  interfaces := #[]
  cf := none
  fields := #[]
  methods := #[]
  instanceTypes := #[]
  staticTypes := #[]
  resolved := #[]
  callSites := []
  init := .initialized
  statics := none
  mirror := none

def pool0 : Array CpInfo := pool [(5, u "<init>"), (0, u "()V"), (1, .class_ 10), (1, u "java/lang/Object")] 113

def k0c0 : Code := { maxStack := 0, maxLocals := 1, code := object_method_1_code, exceptionTable := #[], attributes := #[] }
def k0m0 : Method := { name := "<init>", desc := "()V", sig := { parameters := [], returnType := none }, accessFlags := 1, code := some k0c0 }
/-- java/lang/Object -/
def k0 : Class := { plain "java/lang/Object" none with
  accessFlags := 33
  interfaces := #[]
  cf := some (fileOf pool0 8 #[] #[{ accessFlags := 1, nameIndex := 5, descriptorIndex := 6, attributes := #[] }] 33 0 #[] #[])
  fields := #[]
  methods := #[k0m0]
  instanceTypes := #[]
  staticTypes := #[]
  resolved := Array.replicate 124 none
  statics := none }

def pool1 : Array CpInfo := pool [(2, .class_ 4), (1, u "java/lang/Object"), (0, u "<init>"), (0, u "()V"), (0, .class_ 8), (0, u "com/example/tuck/tuck/ListMarks"), (0, .methodref 7 10), (0, .nameAndType 5 11), (0, u "(I)V"), (0, .methodref 7 13), (0, .nameAndType 14 15), (0, u "mark"), (0, u "([III)V"), (0, .methodref 7 17), (0, .nameAndType 18 11), (0, u "unmark"), (0, .methodref 20 21), (0, .class_ 22), (0, .nameAndType 23 24), (0, u "com/example/tuck/tuck/ListMarksDifferencesPinLaw"), (0, u "bits"), (0, u "(I)I"), (0, .methodref 7 26), (0, .nameAndType 27 28), (0, u "differences"), (0, u "([IIII)I"), (2, u "law"), (0, u "(IIII)Z")] 5

def k1m0 : Method := { name := "<init>", desc := "()V", sig := { parameters := [], returnType := none }, accessFlags := 1, code := none }
def k1c1 : Code := { maxStack := 3, maxLocals := 1, code := method_2_code, exceptionTable := #[], attributes := #[] }
def k1m1 : Method := { name := "bits", desc := "(I)I", sig := { parameters := [.int], returnType := some .int }, accessFlags := 10, code := some k1c1 }
def k1c2 : Code := { maxStack := 5, maxLocals := 17, code := code, exceptionTable := #[], attributes := #[] }
def k1m2 : Method := { name := "law", desc := "(IIII)Z", sig := { parameters := [.int, .int, .int, .int], returnType := some .boolean }, accessFlags := 9, code := some k1c2 }
/-- com/example/tuck/tuck/ListMarksDifferencesPinLaw -/
def k1 : Class := { plain "com/example/tuck/tuck/ListMarksDifferencesPinLaw" (some 0) with
  accessFlags := 49
  interfaces := #[]
  cf := some (fileOf pool1 20 #[] #[{ accessFlags := 1, nameIndex := 5, descriptorIndex := 6, attributes := #[] }, { accessFlags := 10, nameIndex := 23, descriptorIndex := 24, attributes := #[] }, { accessFlags := 9, nameIndex := 31, descriptorIndex := 32, attributes := #[] }] 49 2 #[] #[])
  fields := #[]
  methods := #[k1m0, k1m1, k1m2]
  instanceTypes := #[]
  staticTypes := #[]
  resolved := Array.replicate 38 none
  statics := none }

def pool2 : Array CpInfo := pool [(1, .methodref 2 3), (0, .class_ 4), (0, .nameAndType 5 6), (0, u "java/lang/Object"), (0, u "<init>"), (0, u "()V"), (0, .fieldref 8 9), (0, .class_ 10), (0, .nameAndType 11 12), (0, u "com/example/tuck/tuck/ListMarks"), (0, u "marks"), (0, u "[I"), (0, .fieldref 8 14), (0, .nameAndType 15 16), (0, u "mark"), (0, u "I"), (2, .integer 2147483647), (6, .fieldref 8 27), (0, .nameAndType 28 16), (0, u "length"), (0, u "(I)V"), (2, u "([III)V"), (1, u "unmark"), (2, u "differences"), (0, u "([IIII)I")] 2

def k2c0 : Code := { maxStack := 2, maxLocals := 2, code := prog_47_method_1_code, exceptionTable := #[], attributes := #[] }
def k2m0 : Method := { name := "<init>", desc := "(I)V", sig := { parameters := [.int], returnType := none }, accessFlags := 0, code := some k2c0 }
def k2c1 : Code := { maxStack := 3, maxLocals := 5, code := prog_47_method_2_code, exceptionTable := #[], attributes := #[] }
def k2m1 : Method := { name := "mark", desc := "([III)V", sig := { parameters := [(.array .int), .int, .int], returnType := none }, accessFlags := 0, code := some k2c1 }
def k2c2 : Code := { maxStack := 3, maxLocals := 2, code := prog_47_method_3_code, exceptionTable := #[], attributes := #[] }
def k2m2 : Method := { name := "unmark", desc := "(I)V", sig := { parameters := [.int], returnType := none }, accessFlags := 0, code := some k2c2 }
def k2c3 : Code := { maxStack := 3, maxLocals := 7, code := prog_47_method_5_code, exceptionTable := #[], attributes := #[] }
def k2m3 : Method := { name := "differences", desc := "([IIII)I", sig := { parameters := [(.array .int), .int, .int, .int], returnType := some .int }, accessFlags := 0, code := some k2c3 }
/-- com/example/tuck/tuck/ListMarks -/
def k2 : Class := { plain "com/example/tuck/tuck/ListMarks" (some 0) with
  accessFlags := 32
  interfaces := #[]
  cf := some (fileOf pool2 8 #[] #[{ accessFlags := 0, nameIndex := 5, descriptorIndex := 29, attributes := #[] }, { accessFlags := 0, nameIndex := 15, descriptorIndex := 32, attributes := #[] }, { accessFlags := 0, nameIndex := 34, descriptorIndex := 29, attributes := #[] }, { accessFlags := 0, nameIndex := 37, descriptorIndex := 38, attributes := #[] }] 32 2 #[] #[{ accessFlags := 18, nameIndex := 11, descriptorIndex := 12, attributes := #[] }, { accessFlags := 2, nameIndex := 15, descriptorIndex := 16, attributes := #[] }, { accessFlags := 2, nameIndex := 28, descriptorIndex := 16, attributes := #[] }])
  fields := #[{ name := "marks", type := (.array .int), accessFlags := 18, slot := 0, constantValue := 0 }, { name := "mark", type := .int, accessFlags := 2, slot := 1, constantValue := 0 }, { name := "length", type := .int, accessFlags := 2, slot := 2, constantValue := 0 }]
  methods := #[k2m0, k2m1, k2m2, k2m3]
  instanceTypes := #[(.array .int), .int, .int]
  staticTypes := #[]
  resolved := Array.replicate 41 none
  statics := none }

def pool3 : Array CpInfo := pool [(1, u "java/lang/Cloneable"), (0, .class_ 1), (0, u "java/lang/Object"), (0, .class_ 3)] 3

/-- java/lang/Cloneable -/
def k3 : Class := { plain "java/lang/Cloneable" (some 0) with
  accessFlags := 1537
  interfaces := #[]
  cf := some (fileOf pool3 2 #[] #[] 1537 4 #[] #[])
  fields := #[]
  methods := #[]
  instanceTypes := #[]
  staticTypes := #[]
  resolved := Array.replicate 8 none
  statics := none }

def pool4 : Array CpInfo := pool [(1, u "java/io/Serializable"), (0, .class_ 1), (0, u "java/lang/Object"), (0, .class_ 3)] 3

/-- java/io/Serializable -/
def k4 : Class := { plain "java/io/Serializable" (some 0) with
  accessFlags := 1537
  interfaces := #[]
  cf := some (fileOf pool4 2 #[] #[] 1537 4 #[] #[])
  fields := #[]
  methods := #[]
  instanceTypes := #[]
  staticTypes := #[]
  resolved := Array.replicate 8 none
  statics := none }

/-- the primitive byte -/
def k5 : Class := { plain "byte" none with kind := .primitive 'B', accessFlags := 0x411 }
/-- [B -/
def k6 : Class := { plain "[B" (some 0) with kind := .array 5 .byte, interfaces := #[3, 4], accessFlags := 1041 }

/-- the primitive int -/
def k7 : Class := { plain "int" none with kind := .primitive 'I', accessFlags := 0x411 }
/-- [I -/
def k8 : Class := { plain "[I" (some 0) with kind := .array 7 .int, interfaces := #[3, 4], accessFlags := 1041 }

def heap : Heap := #[]
def classes : Array Class := #[k0, k1, k2, k3, k4, k5, k6, k7, k8]
def interned : List (Array UInt16 × Addr) := []
def slotsUsed : Nat := 0
def theMethod : MethodId := ⟨1, 2⟩
def args0 : Array Value := #[.int 5, .int 6, .int 3, .int 2]
def aboutOver (below : List Frame) : State where
  vm := { classes := classes, interned := interned.toArray }
  heap := heap
  slotsUsed := slotsUsed
  threads := #[{ frames := .invoking theMethod args0 :: below }]
def below0 : List Frame := [.native { method := ⟨0, 0⟩, args := #[] }]
def about1 : State := aboutOver below0
def p0 : Program := .bare "" "" ""
def e0 : Env := launch0.env 0 0 0
theorem w_frames : about1.frames = Frame.invoking theMethod args0 :: below0 := rfl
set_option maxRecDepth 65536 in
theorem w_args : argsFit about1.vm theMethod args0 = true := by decide +kernel
set_option maxRecDepth 65536 in
theorem w_heap : heapFits about1 = true := by decide +kernel
set_option maxRecDepth 65536 in
theorem w_runnable : about1.curStatus? = some .runnable := by decide +kernel
set_option maxRecDepth 65536 in
theorem w_alone : about1.alone = true := by decide +kernel
set_option maxRecDepth 65536 in
theorem w_named : about1.methodNamed? x = some theMethod := by decide +kernel
set_option maxRecDepth 65536 in
theorem w_hears : about1.hears theMethod below0 = true := by decide +kernel
set_option maxRecDepth 65536 in
theorem w_ripe : about1.ripe theMethod args0 below0 = true := by decide +kernel
theorem w_running : about1.status = .running := rfl
set_option maxRecDepth 65536 in
theorem w_room : about1.hasRoom e0.platform room_1 = true :=
  launch0.hasRoom_least _ room_1 (by decide +kernel) (by decide +kernel) (by decide +kernel) (by decide +kernel) (by decide +kernel) (by decide +kernel)
theorem allAtoms_all (ts : List Jvm.Cond) (a : Array Jvm.Value) (st : Jvm.State) : (allAtoms ts).before a st = ts.all (fun c => c.before a st) := by
  induction ts with
  | nil => rfl
  | cons c t ih =>
    show (Jvm.Cond.and c (allAtoms t)).before a st = _
    rw [Jvm.Cond.before_and, ih, List.all_cons]
def words1 : List Jvm.Cond := Jvm.Cond.code x code maxLocals ret :: tables_1
/-- a 'code' word, met by the world's own term for the bytes: nothing is compared byte by byte -/
theorem code_word {y : MethodName} {bytes : ByteArray} {mx : Nat} {rt : Option FieldType} {a : Array Value} {s : State} {m : MethodId} {meth : Method} {c : Code} (h1 : s.methodNamed? y = some m) (h2 : s.vm.method? m = some meth) (h3 : meth.code = some c) (h4 : c.code = bytes)
    (h5 : (c.maxLocals == mx && c.exceptionTable.isEmpty && decide (c.maxStack ≤ mostOperands) && decide (meth.sig.returnType = rt) && !meth.locks && decide (parseMethodDescriptor y.desc = some meth.sig)) = true) : (Jvm.Cond.code y bytes mx rt).before a s = true := by
  simp only [Bool.and_eq_true, beq_iff_eq, Bool.not_eq_true', decide_eq_true_eq] at h5
  obtain ⟨⟨⟨⟨⟨g1, g2⟩, g3⟩, g4⟩, g5⟩, g6⟩ := h5
  simp [Cond.before, Cond.holds, Cond.value, h1, h2, h3, h4, g1, g2, g3, g4, g5, g6]
def isCode : Jvm.Cond → Bool
  | .code _ _ _ _ => true
  | _ => false
theorem all_split {L : List Jvm.Cond} {P : Jvm.Cond → Bool} (h1 : L.all (fun c => isCode c || P c) = true) (h2 : ∀ c ∈ L.filter isCode, P c = true) : L.all P = true := by
  refine List.all_eq_true.mpr fun c hc => ?_
  have h := List.all_eq_true.mp h1 c hc
  rcases Bool.eq_false_or_eq_true (isCode c) with hi | hi
  · exact h2 c (List.mem_filter.mpr ⟨hc, hi⟩)
  · simpa [hi] using h
set_option maxRecDepth 65536 in
theorem w_c0 : (Jvm.Cond.code x code maxLocals ret).before args0 about1 = true := code_word (m := ⟨1, 2⟩) (meth := k1m2) (c := k1c2) (by decide +kernel) rfl rfl rfl (by decide +kernel)
set_option maxRecDepth 65536 in
theorem w_c1 : (Jvm.Cond.code ({ cls := "com/example/tuck/tuck/ListMarks", name := "<init>", desc := "(I)V" } : Jvm.MethodName) prog_47_method_1_code (2 : Nat) (Option.none : Option Jvm.ClassFile.FieldType)).before args0 about1 = true := code_word (m := ⟨2, 0⟩) (meth := k2m0) (c := k2c0) (by decide +kernel) rfl rfl rfl (by decide +kernel)
set_option maxRecDepth 65536 in
theorem w_c2 : (Jvm.Cond.code ({ cls := "java/lang/Object", name := "<init>", desc := "()V" } : Jvm.MethodName) object_method_1_code (1 : Nat) (Option.none : Option Jvm.ClassFile.FieldType)).before args0 about1 = true := code_word (m := ⟨0, 0⟩) (meth := k0m0) (c := k0c0) (by decide +kernel) rfl rfl rfl (by decide +kernel)
set_option maxRecDepth 65536 in
theorem w_c3 : (Jvm.Cond.code ({ cls := "com/example/tuck/tuck/ListMarks", name := "mark", desc := "([III)V" } : Jvm.MethodName) prog_47_method_2_code (5 : Nat) (Option.none : Option Jvm.ClassFile.FieldType)).before args0 about1 = true := code_word (m := ⟨2, 1⟩) (meth := k2m1) (c := k2c1) (by decide +kernel) rfl rfl rfl (by decide +kernel)
set_option maxRecDepth 65536 in
theorem w_c4 : (Jvm.Cond.code ({ cls := "com/example/tuck/tuck/ListMarksDifferencesPinLaw", name := "bits", desc := "(I)I" } : Jvm.MethodName) method_2_code (1 : Nat) (Option.some Jvm.ClassFile.FieldType.int)).before args0 about1 = true := code_word (m := ⟨1, 1⟩) (meth := k1m1) (c := k1c1) (by decide +kernel) rfl rfl rfl (by decide +kernel)
set_option maxRecDepth 65536 in
theorem w_c5 : (Jvm.Cond.code ({ cls := "com/example/tuck/tuck/ListMarks", name := "differences", desc := "([IIII)I" } : Jvm.MethodName) prog_47_method_5_code (7 : Nat) (Option.some Jvm.ClassFile.FieldType.int)).before args0 about1 = true := code_word (m := ⟨2, 3⟩) (meth := k2m3) (c := k2c3) (by decide +kernel) rfl rfl rfl (by decide +kernel)
set_option maxRecDepth 65536 in
theorem w_c6 : (Jvm.Cond.code ({ cls := "com/example/tuck/tuck/ListMarks", name := "unmark", desc := "(I)V" } : Jvm.MethodName) prog_47_method_3_code (2 : Nat) (Option.none : Option Jvm.ClassFile.FieldType)).before args0 about1 = true := code_word (m := ⟨2, 2⟩) (meth := k2m2) (c := k2c2) (by decide +kernel) rfl rfl rfl (by decide +kernel)
def codes1 : List Jvm.Cond := [Jvm.Cond.code x code maxLocals ret, Jvm.Cond.code ({ cls := "com/example/tuck/tuck/ListMarks", name := "<init>", desc := "(I)V" } : Jvm.MethodName) prog_47_method_1_code (2 : Nat) (Option.none : Option Jvm.ClassFile.FieldType), Jvm.Cond.code ({ cls := "java/lang/Object", name := "<init>", desc := "()V" } : Jvm.MethodName) object_method_1_code (1 : Nat) (Option.none : Option Jvm.ClassFile.FieldType), Jvm.Cond.code ({ cls := "com/example/tuck/tuck/ListMarks", name := "mark", desc := "([III)V" } : Jvm.MethodName) prog_47_method_2_code (5 : Nat) (Option.none : Option Jvm.ClassFile.FieldType), Jvm.Cond.code ({ cls := "com/example/tuck/tuck/ListMarksDifferencesPinLaw", name := "bits", desc := "(I)I" } : Jvm.MethodName) method_2_code (1 : Nat) (Option.some Jvm.ClassFile.FieldType.int), Jvm.Cond.code ({ cls := "com/example/tuck/tuck/ListMarks", name := "differences", desc := "([IIII)I" } : Jvm.MethodName) prog_47_method_5_code (7 : Nat) (Option.some Jvm.ClassFile.FieldType.int), Jvm.Cond.code ({ cls := "com/example/tuck/tuck/ListMarks", name := "unmark", desc := "(I)V" } : Jvm.MethodName) prog_47_method_3_code (2 : Nat) (Option.none : Option Jvm.ClassFile.FieldType)]
set_option maxRecDepth 65536 in
theorem codes_eq : words1.filter isCode = codes1 := rfl
theorem w_codes : ∀ c ∈ words1.filter isCode, c.before args0 about1 = true := by
  rw [codes_eq]
  intro c hc
  simp only [codes1, List.mem_cons, List.not_mem_nil, or_false] at hc
  rcases hc with rfl | rfl | rfl | rfl | rfl | rfl | rfl
  · exact w_c0
  · exact w_c1
  · exact w_c2
  · exact w_c3
  · exact w_c4
  · exact w_c5
  · exact w_c6
set_option maxRecDepth 65536 in
theorem w_t1 : (words1.take 24).all (fun c => isCode c || c.before args0 about1) = true := by decide +kernel
set_option maxRecDepth 65536 in
theorem w_t2 : (words1.drop 24).all (fun c => isCode c || c.before args0 about1) = true := by decide +kernel
theorem w_tables : (allAtoms (Jvm.Cond.code x code maxLocals ret :: tables_1)).before args0 about1 = true := by
  rw [allAtoms_all]
  show words1.all (fun c => c.before args0 about1) = true
  refine all_split ?_ w_codes
  rw [← List.take_append_drop 24 words1, List.all_append, w_t1, w_t2]
  rfl
set_option maxRecDepth 65536 in
theorem w_case : (Jvm.Cond.and given_1 narrow_1).before args0 about1 = true := by decide +kernel
theorem w_applies : (headSpec (Jvm.Cond.code x code maxLocals ret :: tables_1) room_1).applies x e0.platform about1 = true :=
  (Spec.applies_iff w_frames).mpr ⟨w_running, w_runnable, w_alone, w_named, w_hears, w_ripe, w_room, w_tables⟩
theorem atStart : AtStart classFile x code maxLocals ret World_1 tables_1 room_1 Calls_1 rest_1 Pre_1 launch0 p0 e0 about1 theMethod args0 below0 :=
  ⟨lists_1, trivial, launch0.admits_env _ _ _, launch0.least_env, fairChoices_fair.cas, fairChoices_fair.clock, w_frames, w_args, w_heap, w_applies, trivial, trivial, w_case⟩
end start1
theorem witness_1 : WitnessClaimed_1 := ⟨start1.p0, start1.e0, start1.about1, start1.theMethod, start1.args0, start1.below0, start1.atStart⟩
end Jvm.Pilot.@@N@@
