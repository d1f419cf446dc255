import JvmDerived
import JvmDerived.Pilot.@@N@@Statement
import JvmDerived.Pilot.@@N@@Code
set_option linter.unusedVariables false
set_option linter.unusedSimpArgs false
namespace Jvm.Pilot.@@N@@
open Jvm Jvm.ClassFile Sem Op Lib Jvm.Free Jvm.Stand Jvm.LawKit Jvm.RoadKit Bundle Jvm.Pilot.@@N@@.Jvm.D
def own_G (p : Program) (e : Env) (below : List Frame) (s : State) (Q : Option Value → Heap → List Loc → Prop) (k n : Nat) (A : State) : Prop :=
  ∃ s₂ o, Steps p.tables e below A s₂ ∧ s₂.status = .running ∧ Ended s₂ below o ∧ ∃ v L, o = .returned v ∧ Q v s₂.heap L ∧ FrameEnd s o s₂ L k n
theorem own_st {p : Program} {e : Env} {below : List Frame} {s : State} {Q : Option Value → Heap → List Loc → Prop} {k n : Nat} {A B : State} (f : ∀ t, Steps p.tables e below B t → Steps p.tables e below A t) (h : own_G p e below s Q k n B) : own_G p e below s Q k n A := by
  obtain ⟨t, o, h1, h2⟩ := h; exact ⟨t, o, f t h1, h2⟩
theorem own_tr {p : Program} {e : Env} {below : List Frame} {s : State} {Q : Option Value → Heap → List Loc → Prop} {k n : Nat} {A B : State} (f : Steps p.tables e below A B) (h : own_G p e below s Q k n B) : own_G p e below s Q k n A := own_st (fun _ => f.trans) h
theorem own_cast {p : Program} {e : Env} {below : List Frame} {s T : State} {Q : Option Value → Heap → List Loc → Prop} {k n : Nat} {g g' : JFrame} (q : g = g') (h : own_G p e below s Q k n (T.setTop g')) : own_G p e below s Q k n (T.setTop g) := q ▸ h
section OwnSteps
variable {p : Program} {l : Launch} {e : Env} {R : Room} {s : State} {m : MethodId} {args : Array Value} {below : List Frame} {meth : Method} {c : Code} {T : State} {locs : List Loc} {cells slots : Nat} {Q : Option Value → Heap → List Loc → Prop} {k n : Nat} {code : ByteArray} {pc : Nat} {Ls : Array Slot} {st : List Value} {Z : State} {a0 : Array Value} {h : Heap}
theorem own_retI (X : Stand p l e R s m args below meth c T locs cells slots) (hx : p.tables.exec = Jvm.exec) (hby : c.code = code) (hlk : meth.locks = false) (hret : meth.sig.returnType = some .int) {z : Int32} (hd : decode code pc = .ok (.ireturn, 1)) (hk : cells ≤ k) (hn : slots ≤ n) (hQ : Q (some (.int z)) T.heap locs) : own_G p e below s Q k n (T.setTop (mkF m pc Ls (.int z :: st))) := by
  obtain ⟨fs, hr, hrun, hended, hW, hsame⟩ := X.leave (v := some (.int z)) (fun h => by rw [hret] at h; cases h) hlk
  exact ⟨_, _, retOut X hx (t := .int) hret rfl (Or.inl ⟨rfl, Or.inl rfl, z, rfl⟩) (hb hby hd) hr, hrun, hended, _, _, rfl, hQ, ⟨_, rfl⟩, hW, hsame.mono hk hn⟩
theorem own_retJ (X : Stand p l e R s m args below meth c T locs cells slots) (hx : p.tables.exec = Jvm.exec) (hby : c.code = code) (hlk : meth.locks = false) (hret : meth.sig.returnType = some .long) {z : Int64} (hd : decode code pc = .ok (.lreturn, 1)) (hk : cells ≤ k) (hn : slots ≤ n) (hQ : Q (some (.long z)) T.heap locs) : own_G p e below s Q k n (T.setTop (mkF m pc Ls (.long z :: st))) := by
  obtain ⟨fs, hr, hrun, hended, hW, hsame⟩ := X.leave (v := some (.long z)) (fun h => by rw [hret] at h; cases h) hlk
  exact ⟨_, _, retOut X hx (t := .long) hret rfl (Or.inr (Or.inl ⟨rfl, rfl, z, rfl⟩)) (hb hby hd) hr, hrun, hended, _, _, rfl, hQ, ⟨_, rfl⟩, hW, hsame.mono hk hn⟩
theorem own_retD (X : Stand p l e R s m args below meth c T locs cells slots) (hx : p.tables.exec = Jvm.exec) (hby : c.code = code) (hlk : meth.locks = false) (hret : meth.sig.returnType = some .double) {z : UInt64} (hd : decode code pc = .ok (.dreturn, 1)) (hk : cells ≤ k) (hn : slots ≤ n) (hQ : Q (some (.double z)) T.heap locs) : own_G p e below s Q k n (T.setTop (mkF m pc Ls (.double z :: st))) := by
  obtain ⟨fs, hr, hrun, hended, hW, hsame⟩ := X.leave (v := some (.double z)) (fun h => by rw [hret] at h; cases h) hlk
  exact ⟨_, _, retOut X hx (t := .double) hret rfl (Or.inr (Or.inr (Or.inl ⟨rfl, rfl, z, rfl⟩))) (hb hby hd) hr, hrun, hended, _, _, rfl, hQ, ⟨_, rfl⟩, hW, hsame.mono hk hn⟩
theorem own_retA (X : Stand p l e R s m args below meth c T locs cells slots) (hx : p.tables.exec = Jvm.exec) (hby : c.code = code) (hlk : meth.locks = false) {ty : FieldType} (hret : meth.sig.returnType = some ty) (hty : ty.isReference = true) {z : Value} (hz : z.isRef = true) (hnz : narrow ty z = z) (hd : decode code pc = .ok (.areturn, 1)) (hk : cells ≤ k) (hn : slots ≤ n) (hQ : Q (some z) T.heap locs) : own_G p e below s Q k n (T.setTop (mkF m pc Ls (z :: st))) := by
  obtain ⟨fs, hr, hrun, hended, hW, hsame⟩ := X.leave (v := some z) (fun h => by rw [hret] at h; cases h) hlk
  exact ⟨_, _, retOut X hx (t := ty) hret hnz (Or.inr (Or.inr (Or.inr (Or.inr ⟨rfl, hty, hz⟩)))) (hb hby hd) hr, hrun, hended, _, _, rfl, hQ, ⟨_, rfl⟩, hW, hsame.mono hk hn⟩
theorem own_retN (X : Stand p l e R s m args below meth c T locs cells slots) (hx : p.tables.exec = Jvm.exec) (hby : c.code = code) (hlk : meth.locks = false) {t : FieldType} (hret : meth.sig.returnType = some t) (ht : t = .boolean ∨ t = .byte ∨ t = .char ∨ t = .short) {z : Int32} (hd : decode code pc = .ok (.ireturn, 1)) (hk : cells ≤ k) (hn : slots ≤ n) (hQ : Q (some (.int (nar t z))) T.heap locs) : own_G p e below s Q k n (T.setTop (mkF m pc Ls (.int z :: st))) := by
  obtain ⟨fs, hr, hrun, hended, hW, hsame⟩ := X.leave (v := some (.int (nar t z))) (fun h => by rw [hret] at h; cases h) hlk
  exact ⟨_, _, retN X hx (t := t) hret ht (hb hby hd) hr, hrun, hended, _, _, rfl, hQ, ⟨_, rfl⟩, hW, hsame.mono hk hn⟩
theorem own_ret0 (X : Stand p l e R s m args below meth c T locs cells slots) (hx : p.tables.exec = Jvm.exec) (hby : c.code = code) (hlk : meth.locks = false) (hret : meth.sig.returnType = none) (hd : decode code pc = .ok (.return_, 1)) (hk : cells ≤ k) (hn : slots ≤ n) (hQ : Q none T.heap locs) : own_G p e below s Q k n (T.setTop (mkF m pc Ls [])) := by
  obtain ⟨fs, hr, hrun, hended, hW, hsame⟩ := X.leave (v := none) (fun _ => rfl) hlk
  exact ⟨_, _, X.returnOut hx hret (hb hby hd) hr, hrun, hended, _, _, rfl, hQ, ⟨_, rfl⟩, hW, hsame.mono hk hn⟩
theorem own_iloadN (X : Stand p l e R s m args below meth c T locs cells slots) (hx : p.tables.exec = Jvm.exec) (hby : c.code = code) {kk : Fin 4} {v : Int32} (hd : decode code pc = .ok (.iload_n kk, 1)) (hl : Ls[kk.val]? = some (.val (.int v))) (h : own_G p e below s Q k n (T.setTop (mkF m (pc + 1) Ls (.int v :: st)))) : own_G p e below s Q k n (T.setTop (mkF m pc Ls st)) := own_st (fun _ => XS.iloadN X.here hx rfl (hb hby hd) hl) h
theorem own_iload (X : Stand p l e R s m args below meth c T locs cells slots) (hx : p.tables.exec = Jvm.exec) (hby : c.code = code) {kk : Nat} {v : Int32} (hd : decode code pc = .ok (.iload kk, 2)) (hl : Ls[kk]? = some (.val (.int v))) (h : own_G p e below s Q k n (T.setTop (mkF m (pc + 2) Ls (.int v :: st)))) : own_G p e below s Q k n (T.setTop (mkF m pc Ls st)) := own_st (fun _ => XS.iload X.here hx rfl (hb hby hd) hl) h
theorem own_lloadN (X : Stand p l e R s m args below meth c T locs cells slots) (hx : p.tables.exec = Jvm.exec) (hby : c.code = code) {kk : Fin 4} {v : Int64} (hd : decode code pc = .ok (.lload_n kk, 1)) (hl : Ls[kk.val]? = some (.val (.long v))) (h : own_G p e below s Q k n (T.setTop (mkF m (pc + 1) Ls (.long v :: st)))) : own_G p e below s Q k n (T.setTop (mkF m pc Ls st)) := own_st (fun _ => XS.lloadN X.here hx rfl (hb hby hd) hl) h
theorem own_lload (X : Stand p l e R s m args below meth c T locs cells slots) (hx : p.tables.exec = Jvm.exec) (hby : c.code = code) {kk : Nat} {v : Int64} (hd : decode code pc = .ok (.lload kk, 2)) (hl : Ls[kk]? = some (.val (.long v))) (h : own_G p e below s Q k n (T.setTop (mkF m (pc + 2) Ls (.long v :: st)))) : own_G p e below s Q k n (T.setTop (mkF m pc Ls st)) := own_st (fun _ => XS.lload X.here hx rfl (hb hby hd) hl) h
theorem own_dloadN (X : Stand p l e R s m args below meth c T locs cells slots) (hx : p.tables.exec = Jvm.exec) (hby : c.code = code) {kk : Fin 4} {v : UInt64} (hd : decode code pc = .ok (.dload_n kk, 1)) (hl : Ls[kk.val]? = some (.val (.double v))) (h : own_G p e below s Q k n (T.setTop (mkF m (pc + 1) Ls (.double v :: st)))) : own_G p e below s Q k n (T.setTop (mkF m pc Ls st)) := own_st (fun _ => XS.dloadN X.here hx rfl (hb hby hd) hl) h
theorem own_dload (X : Stand p l e R s m args below meth c T locs cells slots) (hx : p.tables.exec = Jvm.exec) (hby : c.code = code) {kk : Nat} {v : UInt64} (hd : decode code pc = .ok (.dload kk, 2)) (hl : Ls[kk]? = some (.val (.double v))) (h : own_G p e below s Q k n (T.setTop (mkF m (pc + 2) Ls (.double v :: st)))) : own_G p e below s Q k n (T.setTop (mkF m pc Ls st)) := own_st (fun _ => XS.dload X.here hx rfl (hb hby hd) hl) h
theorem own_aloadN (X : Stand p l e R s m args below meth c T locs cells slots) (hx : p.tables.exec = Jvm.exec) (hby : c.code = code) {kk : Fin 4} {v : Value} (hd : decode code pc = .ok (.aload_n kk, 1)) (hl : Ls[kk.val]? = some (.val v)) (hv : v.isRef = true) (h : own_G p e below s Q k n (T.setTop (mkF m (pc + 1) Ls (v :: st)))) : own_G p e below s Q k n (T.setTop (mkF m pc Ls st)) := own_st (fun _ => XS.aloadN X.here hx rfl (hb hby hd) hl hv) h
theorem own_aload (X : Stand p l e R s m args below meth c T locs cells slots) (hx : p.tables.exec = Jvm.exec) (hby : c.code = code) {kk : Nat} {v : Value} (hd : decode code pc = .ok (.aload kk, 2)) (hl : Ls[kk]? = some (.val v)) (hv : v.isRef = true) (h : own_G p e below s Q k n (T.setTop (mkF m (pc + 2) Ls (v :: st)))) : own_G p e below s Q k n (T.setTop (mkF m pc Ls st)) := own_st (fun _ => XS.aload X.here hx rfl (hb hby hd) hl hv) h
theorem own_istoreN (X : Stand p l e R s m args below meth c T locs cells slots) (hx : p.tables.exec = Jvm.exec) (hby : c.code = code) {kk : Fin 4} {v : Int32} {l' : Array Slot} (hd : decode code pc = .ok (.istore_n kk, 1)) (hl : storeLocals Ls kk.val (.int v) = some l') (h : own_G p e below s Q k n (T.setTop (mkF m (pc + 1) l' st))) : own_G p e below s Q k n (T.setTop (mkF m pc Ls (.int v :: st))) := own_st (fun _ => XS.istoreN X.here hx rfl (hb hby hd) rfl hl) h
theorem own_istore (X : Stand p l e R s m args below meth c T locs cells slots) (hx : p.tables.exec = Jvm.exec) (hby : c.code = code) {kk : Nat} {v : Int32} {l' : Array Slot} (hd : decode code pc = .ok (.istore kk, 2)) (hl : storeLocals Ls kk (.int v) = some l') (h : own_G p e below s Q k n (T.setTop (mkF m (pc + 2) l' st))) : own_G p e below s Q k n (T.setTop (mkF m pc Ls (.int v :: st))) := own_st (fun _ => XS.istore X.here hx rfl (hb hby hd) rfl hl) h
theorem own_lstoreN (X : Stand p l e R s m args below meth c T locs cells slots) (hx : p.tables.exec = Jvm.exec) (hby : c.code = code) {kk : Fin 4} {v : Int64} {l' : Array Slot} (hd : decode code pc = .ok (.lstore_n kk, 1)) (hl : storeLocals Ls kk.val (.long v) = some l') (h : own_G p e below s Q k n (T.setTop (mkF m (pc + 1) l' st))) : own_G p e below s Q k n (T.setTop (mkF m pc Ls (.long v :: st))) := own_st (fun _ => XS.lstoreN X.here hx rfl (hb hby hd) rfl hl) h
theorem own_lstore (X : Stand p l e R s m args below meth c T locs cells slots) (hx : p.tables.exec = Jvm.exec) (hby : c.code = code) {kk : Nat} {v : Int64} {l' : Array Slot} (hd : decode code pc = .ok (.lstore kk, 2)) (hl : storeLocals Ls kk (.long v) = some l') (h : own_G p e below s Q k n (T.setTop (mkF m (pc + 2) l' st))) : own_G p e below s Q k n (T.setTop (mkF m pc Ls (.long v :: st))) := own_st (fun _ => XS.lstore X.here hx rfl (hb hby hd) rfl hl) h
theorem own_dstoreN (X : Stand p l e R s m args below meth c T locs cells slots) (hx : p.tables.exec = Jvm.exec) (hby : c.code = code) {kk : Fin 4} {v : UInt64} {l' : Array Slot} (hd : decode code pc = .ok (.dstore_n kk, 1)) (hl : storeLocals Ls kk.val (.double v) = some l') (h : own_G p e below s Q k n (T.setTop (mkF m (pc + 1) l' st))) : own_G p e below s Q k n (T.setTop (mkF m pc Ls (.double v :: st))) := own_st (fun _ => XS.dstoreN X.here hx rfl (hb hby hd) rfl hl) h
theorem own_dstore (X : Stand p l e R s m args below meth c T locs cells slots) (hx : p.tables.exec = Jvm.exec) (hby : c.code = code) {kk : Nat} {v : UInt64} {l' : Array Slot} (hd : decode code pc = .ok (.dstore kk, 2)) (hl : storeLocals Ls kk (.double v) = some l') (h : own_G p e below s Q k n (T.setTop (mkF m (pc + 2) l' st))) : own_G p e below s Q k n (T.setTop (mkF m pc Ls (.double v :: st))) := own_st (fun _ => XS.dstore X.here hx rfl (hb hby hd) rfl hl) h
theorem own_astoreN (X : Stand p l e R s m args below meth c T locs cells slots) (hx : p.tables.exec = Jvm.exec) (hby : c.code = code) {kk : Fin 4} {v : Value} {l' : Array Slot} (hd : decode code pc = .ok (.astore_n kk, 1)) (hv : v.isRef = true) (hl : storeLocals Ls kk.val v = some l') (h : own_G p e below s Q k n (T.setTop (mkF m (pc + 1) l' st))) : own_G p e below s Q k n (T.setTop (mkF m pc Ls (v :: st))) := own_st (fun _ => XS.astoreN X.here hx rfl (hb hby hd) rfl hv hl) h
theorem own_astore (X : Stand p l e R s m args below meth c T locs cells slots) (hx : p.tables.exec = Jvm.exec) (hby : c.code = code) {kk : Nat} {v : Value} {l' : Array Slot} (hd : decode code pc = .ok (.astore kk, 2)) (hv : v.isRef = true) (hl : storeLocals Ls kk v = some l') (h : own_G p e below s Q k n (T.setTop (mkF m (pc + 2) l' st))) : own_G p e below s Q k n (T.setTop (mkF m pc Ls (v :: st))) := own_st (fun _ => XS.astore X.here hx rfl (hb hby hd) rfl hv hl) h
theorem own_iconst (X : Stand p l e R s m args below meth c T locs cells slots) (hx : p.tables.exec = Jvm.exec) (hby : c.code = code) {i : Int} (hd : decode code pc = .ok (.iconst i, 1))  (h : own_G p e below s Q k n (T.setTop (mkF m (pc + 1) Ls (.int (Int32.ofInt i) :: st)))) : own_G p e below s Q k n (T.setTop (mkF m pc Ls st)) := own_st (fun _ => XS.iconst X.here hx rfl (hb hby hd)) h
theorem own_bipush (X : Stand p l e R s m args below meth c T locs cells slots) (hx : p.tables.exec = Jvm.exec) (hby : c.code = code) {i : Int} (hd : decode code pc = .ok (.bipush i, 2))  (h : own_G p e below s Q k n (T.setTop (mkF m (pc + 2) Ls (.int (Int8.ofInt i).toInt32 :: st)))) : own_G p e below s Q k n (T.setTop (mkF m pc Ls st)) := own_st (fun _ => XS.bipush X.here hx rfl (hb hby hd)) h
theorem own_sipush (X : Stand p l e R s m args below meth c T locs cells slots) (hx : p.tables.exec = Jvm.exec) (hby : c.code = code) {i : Int} (hd : decode code pc = .ok (.sipush i, 3))  (h : own_G p e below s Q k n (T.setTop (mkF m (pc + 3) Ls (.int (Int16.ofInt i).toInt32 :: st)))) : own_G p e below s Q k n (T.setTop (mkF m pc Ls st)) := own_st (fun _ => XS.sipush X.here hx rfl (hb hby hd)) h
theorem own_lconst (X : Stand p l e R s m args below meth c T locs cells slots) (hx : p.tables.exec = Jvm.exec) (hby : c.code = code) {i : Fin 2} (hd : decode code pc = .ok (.lconst i, 1))  (h : own_G p e below s Q k n (T.setTop (mkF m (pc + 1) Ls (.long (Int64.ofNat i) :: st)))) : own_G p e below s Q k n (T.setTop (mkF m pc Ls st)) := own_st (fun _ => XS.lconst X.here hx rfl (hb hby hd)) h
theorem own_aconst_null (X : Stand p l e R s m args below meth c T locs cells slots) (hx : p.tables.exec = Jvm.exec) (hby : c.code = code)  (hd : decode code pc = .ok (.aconst_null, 1))  (h : own_G p e below s Q k n (T.setTop (mkF m (pc + 1) Ls (.null :: st)))) : own_G p e below s Q k n (T.setTop (mkF m pc Ls st)) := own_st (fun _ => XS.aconstNull X.here hx rfl (hb hby hd)) h
theorem own_iadd (X : Stand p l e R s m args below meth c T locs cells slots) (hx : p.tables.exec = Jvm.exec) (hby : c.code = code) {x y : Int32} (hd : decode code pc = .ok (.iadd, 1))  (h : own_G p e below s Q k n (T.setTop (mkF m (pc + 1) Ls (.int (x + y) :: st)))) : own_G p e below s Q k n (T.setTop (mkF m pc Ls (.int y :: .int x :: st))) := own_st (fun _ => XS.iadd X.here hx rfl (hb hby hd) rfl) h
theorem own_isub (X : Stand p l e R s m args below meth c T locs cells slots) (hx : p.tables.exec = Jvm.exec) (hby : c.code = code) {x y : Int32} (hd : decode code pc = .ok (.isub, 1))  (h : own_G p e below s Q k n (T.setTop (mkF m (pc + 1) Ls (.int (x - y) :: st)))) : own_G p e below s Q k n (T.setTop (mkF m pc Ls (.int y :: .int x :: st))) := own_st (fun _ => XS.isub X.here hx rfl (hb hby hd) rfl) h
theorem own_imul (X : Stand p l e R s m args below meth c T locs cells slots) (hx : p.tables.exec = Jvm.exec) (hby : c.code = code) {x y : Int32} (hd : decode code pc = .ok (.imul, 1))  (h : own_G p e below s Q k n (T.setTop (mkF m (pc + 1) Ls (.int (x * y) :: st)))) : own_G p e below s Q k n (T.setTop (mkF m pc Ls (.int y :: .int x :: st))) := own_st (fun _ => XS.imul X.here hx rfl (hb hby hd) rfl) h
theorem own_iand (X : Stand p l e R s m args below meth c T locs cells slots) (hx : p.tables.exec = Jvm.exec) (hby : c.code = code) {x y : Int32} (hd : decode code pc = .ok (.iand, 1))  (h : own_G p e below s Q k n (T.setTop (mkF m (pc + 1) Ls (.int (x &&& y) :: st)))) : own_G p e below s Q k n (T.setTop (mkF m pc Ls (.int y :: .int x :: st))) := own_st (fun _ => XS.iand X.here hx rfl (hb hby hd) rfl) h
theorem own_ior (X : Stand p l e R s m args below meth c T locs cells slots) (hx : p.tables.exec = Jvm.exec) (hby : c.code = code) {x y : Int32} (hd : decode code pc = .ok (.ior, 1))  (h : own_G p e below s Q k n (T.setTop (mkF m (pc + 1) Ls (.int (x ||| y) :: st)))) : own_G p e below s Q k n (T.setTop (mkF m pc Ls (.int y :: .int x :: st))) := own_st (fun _ => XS.ior X.here hx rfl (hb hby hd) rfl) h
theorem own_ixor (X : Stand p l e R s m args below meth c T locs cells slots) (hx : p.tables.exec = Jvm.exec) (hby : c.code = code) {x y : Int32} (hd : decode code pc = .ok (.ixor, 1))  (h : own_G p e below s Q k n (T.setTop (mkF m (pc + 1) Ls (.int (x ^^^ y) :: st)))) : own_G p e below s Q k n (T.setTop (mkF m pc Ls (.int y :: .int x :: st))) := own_st (fun _ => XS.ixor X.here hx rfl (hb hby hd) rfl) h
theorem own_ishl (X : Stand p l e R s m args below meth c T locs cells slots) (hx : p.tables.exec = Jvm.exec) (hby : c.code = code) {x y : Int32} (hd : decode code pc = .ok (.ishl, 1))  (h : own_G p e below s Q k n (T.setTop (mkF m (pc + 1) Ls (.int (x <<< (y &&& 31)) :: st)))) : own_G p e below s Q k n (T.setTop (mkF m pc Ls (.int y :: .int x :: st))) := own_st (fun _ => XS.ishl X.here hx rfl (hb hby hd) rfl) h
theorem own_ishr (X : Stand p l e R s m args below meth c T locs cells slots) (hx : p.tables.exec = Jvm.exec) (hby : c.code = code) {x y : Int32} (hd : decode code pc = .ok (.ishr, 1))  (h : own_G p e below s Q k n (T.setTop (mkF m (pc + 1) Ls (.int (x >>> (y &&& 31)) :: st)))) : own_G p e below s Q k n (T.setTop (mkF m pc Ls (.int y :: .int x :: st))) := own_st (fun _ => XS.ishr X.here hx rfl (hb hby hd) rfl) h
theorem own_iushr (X : Stand p l e R s m args below meth c T locs cells slots) (hx : p.tables.exec = Jvm.exec) (hby : c.code = code) {x y : Int32} (hd : decode code pc = .ok (.iushr, 1))  (h : own_G p e below s Q k n (T.setTop (mkF m (pc + 1) Ls (.int ((x.toUInt32 >>> (y &&& 31).toUInt32).toInt32) :: st)))) : own_G p e below s Q k n (T.setTop (mkF m pc Ls (.int y :: .int x :: st))) := own_st (fun _ => XS.iushr X.here hx rfl (hb hby hd) rfl) h
theorem own_ladd (X : Stand p l e R s m args below meth c T locs cells slots) (hx : p.tables.exec = Jvm.exec) (hby : c.code = code) {x y : Int64} (hd : decode code pc = .ok (.ladd, 1))  (h : own_G p e below s Q k n (T.setTop (mkF m (pc + 1) Ls (.long (x + y) :: st)))) : own_G p e below s Q k n (T.setTop (mkF m pc Ls (.long y :: .long x :: st))) := own_st (fun _ => XS.ladd X.here hx rfl (hb hby hd) rfl) h
theorem own_lsub (X : Stand p l e R s m args below meth c T locs cells slots) (hx : p.tables.exec = Jvm.exec) (hby : c.code = code) {x y : Int64} (hd : decode code pc = .ok (.lsub, 1))  (h : own_G p e below s Q k n (T.setTop (mkF m (pc + 1) Ls (.long (x - y) :: st)))) : own_G p e below s Q k n (T.setTop (mkF m pc Ls (.long y :: .long x :: st))) := own_st (fun _ => XS.lsub X.here hx rfl (hb hby hd) rfl) h
theorem own_lmul (X : Stand p l e R s m args below meth c T locs cells slots) (hx : p.tables.exec = Jvm.exec) (hby : c.code = code) {x y : Int64} (hd : decode code pc = .ok (.lmul, 1))  (h : own_G p e below s Q k n (T.setTop (mkF m (pc + 1) Ls (.long (x * y) :: st)))) : own_G p e below s Q k n (T.setTop (mkF m pc Ls (.long y :: .long x :: st))) := own_st (fun _ => XS.lmul X.here hx rfl (hb hby hd) rfl) h
theorem own_land (X : Stand p l e R s m args below meth c T locs cells slots) (hx : p.tables.exec = Jvm.exec) (hby : c.code = code) {x y : Int64} (hd : decode code pc = .ok (.land, 1))  (h : own_G p e below s Q k n (T.setTop (mkF m (pc + 1) Ls (.long (x &&& y) :: st)))) : own_G p e below s Q k n (T.setTop (mkF m pc Ls (.long y :: .long x :: st))) := own_st (fun _ => XS.land X.here hx rfl (hb hby hd) rfl) h
theorem own_lor (X : Stand p l e R s m args below meth c T locs cells slots) (hx : p.tables.exec = Jvm.exec) (hby : c.code = code) {x y : Int64} (hd : decode code pc = .ok (.lor, 1))  (h : own_G p e below s Q k n (T.setTop (mkF m (pc + 1) Ls (.long (x ||| y) :: st)))) : own_G p e below s Q k n (T.setTop (mkF m pc Ls (.long y :: .long x :: st))) := own_st (fun _ => XS.lor X.here hx rfl (hb hby hd) rfl) h
theorem own_lxor (X : Stand p l e R s m args below meth c T locs cells slots) (hx : p.tables.exec = Jvm.exec) (hby : c.code = code) {x y : Int64} (hd : decode code pc = .ok (.lxor, 1))  (h : own_G p e below s Q k n (T.setTop (mkF m (pc + 1) Ls (.long (x ^^^ y) :: st)))) : own_G p e below s Q k n (T.setTop (mkF m pc Ls (.long y :: .long x :: st))) := own_st (fun _ => XS.lxor X.here hx rfl (hb hby hd) rfl) h
theorem own_lshl (X : Stand p l e R s m args below meth c T locs cells slots) (hx : p.tables.exec = Jvm.exec) (hby : c.code = code) {x : Int64} {y : Int32} (hd : decode code pc = .ok (.lshl, 1))  (h : own_G p e below s Q k n (T.setTop (mkF m (pc + 1) Ls (.long (x <<< (y &&& 0x3f).toInt64) :: st)))) : own_G p e below s Q k n (T.setTop (mkF m pc Ls (.int y :: .long x :: st))) := own_st (fun _ => XS.lshl X.here hx rfl (hb hby hd) rfl) h
theorem own_lshr (X : Stand p l e R s m args below meth c T locs cells slots) (hx : p.tables.exec = Jvm.exec) (hby : c.code = code) {x : Int64} {y : Int32} (hd : decode code pc = .ok (.lshr, 1))  (h : own_G p e below s Q k n (T.setTop (mkF m (pc + 1) Ls (.long (x >>> (y &&& 0x3f).toInt64) :: st)))) : own_G p e below s Q k n (T.setTop (mkF m pc Ls (.int y :: .long x :: st))) := own_st (fun _ => XS.lshr X.here hx rfl (hb hby hd) rfl) h
theorem own_lushr (X : Stand p l e R s m args below meth c T locs cells slots) (hx : p.tables.exec = Jvm.exec) (hby : c.code = code) {x : Int64} {y : Int32} (hd : decode code pc = .ok (.lushr, 1))  (h : own_G p e below s Q k n (T.setTop (mkF m (pc + 1) Ls (.long ((x.toUInt64 >>> (y &&& 0x3f).toInt64.toUInt64).toInt64) :: st)))) : own_G p e below s Q k n (T.setTop (mkF m pc Ls (.int y :: .long x :: st))) := own_st (fun _ => XS.lushr X.here hx rfl (hb hby hd) rfl) h
theorem own_idiv (X : Stand p l e R s m args below meth c T locs cells slots) (hx : p.tables.exec = Jvm.exec) (hby : c.code = code) {x y : Int32} (hd : decode code pc = .ok (.idiv, 1)) (hy : y ≠ 0) (h : own_G p e below s Q k n (T.setTop (mkF m (pc + 1) Ls (.int (x / y) :: st)))) : own_G p e below s Q k n (T.setTop (mkF m pc Ls (.int y :: .int x :: st))) := own_st (fun _ => XS.idiv X.here hx rfl (hb hby hd) rfl hy) h
theorem own_irem (X : Stand p l e R s m args below meth c T locs cells slots) (hx : p.tables.exec = Jvm.exec) (hby : c.code = code) {x y : Int32} (hd : decode code pc = .ok (.irem, 1)) (hy : y ≠ 0) (h : own_G p e below s Q k n (T.setTop (mkF m (pc + 1) Ls (.int (x % y) :: st)))) : own_G p e below s Q k n (T.setTop (mkF m pc Ls (.int y :: .int x :: st))) := own_st (fun _ => iremM X hx rfl (hb hby hd) rfl hy) h
theorem own_ldiv (X : Stand p l e R s m args below meth c T locs cells slots) (hx : p.tables.exec = Jvm.exec) (hby : c.code = code) {x y : Int64} (hd : decode code pc = .ok (.ldiv, 1)) (hy : y ≠ 0) (h : own_G p e below s Q k n (T.setTop (mkF m (pc + 1) Ls (.long (x / y) :: st)))) : own_G p e below s Q k n (T.setTop (mkF m pc Ls (.long y :: .long x :: st))) := own_st (fun _ => XS.ldiv X.here hx rfl (hb hby hd) rfl hy) h
theorem own_lrem (X : Stand p l e R s m args below meth c T locs cells slots) (hx : p.tables.exec = Jvm.exec) (hby : c.code = code) {x y : Int64} (hd : decode code pc = .ok (.lrem, 1)) (hy : y ≠ 0) (h : own_G p e below s Q k n (T.setTop (mkF m (pc + 1) Ls (.long (x % y) :: st)))) : own_G p e below s Q k n (T.setTop (mkF m pc Ls (.long y :: .long x :: st))) := own_st (fun _ hr => XS.lrem X.here hx rfl (hb hby hd) rfl hy (by rw [lrem_mod]; exact hr)) h
theorem own_ineg (X : Stand p l e R s m args below meth c T locs cells slots) (hx : p.tables.exec = Jvm.exec) (hby : c.code = code) {x : Int32} (hd : decode code pc = .ok (.ineg, 1))  (h : own_G p e below s Q k n (T.setTop (mkF m (pc + 1) Ls (.int (-x) :: st)))) : own_G p e below s Q k n (T.setTop (mkF m pc Ls (.int x :: st))) := own_st (fun _ => XS.ineg X.here hx rfl (hb hby hd) rfl) h
theorem own_lneg (X : Stand p l e R s m args below meth c T locs cells slots) (hx : p.tables.exec = Jvm.exec) (hby : c.code = code) {x : Int64} (hd : decode code pc = .ok (.lneg, 1))  (h : own_G p e below s Q k n (T.setTop (mkF m (pc + 1) Ls (.long (-x) :: st)))) : own_G p e below s Q k n (T.setTop (mkF m pc Ls (.long x :: st))) := own_st (fun _ => XS.lneg X.here hx rfl (hb hby hd) rfl) h
theorem own_i2l (X : Stand p l e R s m args below meth c T locs cells slots) (hx : p.tables.exec = Jvm.exec) (hby : c.code = code) {x : Int32} (hd : decode code pc = .ok (.i2l, 1))  (h : own_G p e below s Q k n (T.setTop (mkF m (pc + 1) Ls (.long (x.toInt64) :: st)))) : own_G p e below s Q k n (T.setTop (mkF m pc Ls (.int x :: st))) := own_st (fun _ => XS.i2l X.here hx rfl (hb hby hd) rfl) h
theorem own_l2i (X : Stand p l e R s m args below meth c T locs cells slots) (hx : p.tables.exec = Jvm.exec) (hby : c.code = code) {x : Int64} (hd : decode code pc = .ok (.l2i, 1))  (h : own_G p e below s Q k n (T.setTop (mkF m (pc + 1) Ls (.int (x.toInt32) :: st)))) : own_G p e below s Q k n (T.setTop (mkF m pc Ls (.long x :: st))) := own_st (fun _ => XS.l2i X.here hx rfl (hb hby hd) rfl) h
theorem own_i2b (X : Stand p l e R s m args below meth c T locs cells slots) (hx : p.tables.exec = Jvm.exec) (hby : c.code = code) {x : Int32} (hd : decode code pc = .ok (.i2b, 1))  (h : own_G p e below s Q k n (T.setTop (mkF m (pc + 1) Ls (.int (x.toInt8.toInt32) :: st)))) : own_G p e below s Q k n (T.setTop (mkF m pc Ls (.int x :: st))) := own_st (fun _ => XS.i2b X.here hx rfl (hb hby hd) rfl) h
theorem own_i2s (X : Stand p l e R s m args below meth c T locs cells slots) (hx : p.tables.exec = Jvm.exec) (hby : c.code = code) {x : Int32} (hd : decode code pc = .ok (.i2s, 1))  (h : own_G p e below s Q k n (T.setTop (mkF m (pc + 1) Ls (.int (x.toInt16.toInt32) :: st)))) : own_G p e below s Q k n (T.setTop (mkF m pc Ls (.int x :: st))) := own_st (fun _ => XS.i2s X.here hx rfl (hb hby hd) rfl) h
theorem own_i2c (X : Stand p l e R s m args below meth c T locs cells slots) (hx : p.tables.exec = Jvm.exec) (hby : c.code = code) {x : Int32} (hd : decode code pc = .ok (.i2c, 1))  (h : own_G p e below s Q k n (T.setTop (mkF m (pc + 1) Ls (.int (x.toUInt32.toUInt16.toUInt32.toInt32) :: st)))) : own_G p e below s Q k n (T.setTop (mkF m pc Ls (.int x :: st))) := own_st (fun _ => XS.i2c X.here hx rfl (hb hby hd) rfl) h
theorem own_dup (X : Stand p l e R s m args below meth c T locs cells slots) (hx : p.tables.exec = Jvm.exec) (hby : c.code = code) {v : Value} (hd : decode code pc = .ok (.dup, 1)) (hc : v.category = 1) (h : own_G p e below s Q k n (T.setTop (mkF m (pc + 1) Ls (v :: v :: st)))) : own_G p e below s Q k n (T.setTop (mkF m pc Ls (v :: st))) := own_st (fun _ => XS.dup X.here hx rfl (hb hby hd) rfl hc) h
theorem own_dup_x1 (X : Stand p l e R s m args below meth c T locs cells slots) (hx : p.tables.exec = Jvm.exec) (hby : c.code = code) {v w : Value} (hd : decode code pc = .ok (.dup_x1, 1)) (hc : v.category = 1) (hc' : w.category = 1) (h : own_G p e below s Q k n (T.setTop (mkF m (pc + 1) Ls (v :: w :: v :: st)))) : own_G p e below s Q k n (T.setTop (mkF m pc Ls (v :: w :: st))) := own_st (fun _ => XS.dupX1 X.here hx rfl (hb hby hd) rfl hc hc') h
theorem own_dup2 (X : Stand p l e R s m args below meth c T locs cells slots) (hx : p.tables.exec = Jvm.exec) (hby : c.code = code) {v w : Value} (hd : decode code pc = .ok (.dup2, 1)) (hc : v.category = 1) (hc' : w.category = 1) (h : own_G p e below s Q k n (T.setTop (mkF m (pc + 1) Ls (v :: w :: v :: w :: st)))) : own_G p e below s Q k n (T.setTop (mkF m pc Ls (v :: w :: st))) := own_st (fun _ => Jvm.Free.XT.dup2 X.here hx rfl (hb hby hd) rfl hc hc') h
theorem own_dup2L (X : Stand p l e R s m args below meth c T locs cells slots) (hx : p.tables.exec = Jvm.exec) (hby : c.code = code) {v : Int64} (hd : decode code pc = .ok (.dup2, 1))  (h : own_G p e below s Q k n (T.setTop (mkF m (pc + 1) Ls (.long v :: .long v :: st)))) : own_G p e below s Q k n (T.setTop (mkF m pc Ls (.long v :: st))) := own_st (fun _ => Jvm.Free.XT.dup2L X.here hx rfl (hb hby hd) rfl) h
theorem own_pop (X : Stand p l e R s m args below meth c T locs cells slots) (hx : p.tables.exec = Jvm.exec) (hby : c.code = code) {v : Value} (hd : decode code pc = .ok (.pop, 1)) (hc : v.category = 1) (h : own_G p e below s Q k n (T.setTop (mkF m (pc + 1) Ls st))) : own_G p e below s Q k n (T.setTop (mkF m pc Ls (v :: st))) := own_st (fun _ => XS.pop X.here hx rfl (hb hby hd) rfl hc) h
theorem own_iinc (X : Stand p l e R s m args below meth c T locs cells slots) (hx : p.tables.exec = Jvm.exec) (hby : c.code = code) {kk : Nat} {cst : Int} {x : Int32} {l' : Array Slot} (hd : decode code pc = .ok (.iinc kk cst, 3)) (hl : Ls[kk]? = some (.val (.int x))) (hl' : storeLocals Ls kk (.int (x + Int32.ofInt cst)) = some l') (h : own_G p e below s Q k n (T.setTop (mkF m (pc + 3) l' st))) : own_G p e below s Q k n (T.setTop (mkF m pc Ls st)) := own_st (fun _ => XS.iinc X.here hx rfl (hb hby hd) hl hl') h
theorem own_goto (X : Stand p l e R s m args below meth c T locs cells slots) (hx : p.tables.exec = Jvm.exec) (hby : c.code = code) {o : Int} {pc' : Nat} (hd : decode code pc = .ok (.goto o, 3)) (ho : 0 ≤ (pc : Int) + o) (hp : ((pc : Int) + o).toNat = pc') (h : own_G p e below s Q k n (T.setTop (mkF m pc' Ls st))) : own_G p e below s Q k n (T.setTop (mkF m pc Ls st)) := own_st (fun _ => XS.goto X.here hx rfl rfl (hb hby hd) ho hp) h
theorem own_icmp_eq (X : Stand p l e R s m args below meth c T locs cells slots) (hx : p.tables.exec = Jvm.exec) (hby : c.code = code) {x y : Int32} {o : Int} {pc' : Nat} (hd : decode code pc = .ok (.if_icmp .eq o, 3)) (ho : 0 ≤ (pc : Int) + o) (hp : ((pc : Int) + o).toNat = pc') (hY : x = y → own_G p e below s Q k n (T.setTop (mkF m pc' Ls st))) (hN : ¬ x = y → own_G p e below s Q k n (T.setTop (mkF m (pc + 3) Ls st))) : own_G p e below s Q k n (T.setTop (mkF m pc Ls (.int y :: .int x :: st))) := by
  by_cases q : x = y
  · exact own_st (fun _ => XS.icmpYes X.here hx rfl rfl (hb hby hd) rfl (teq q).1 ho hp) (hY q)
  · exact own_st (fun _ => XS.icmpNo X.here hx rfl (hb hby hd) rfl (feq q).1) (hN q)
theorem own_if_eq (X : Stand p l e R s m args below meth c T locs cells slots) (hx : p.tables.exec = Jvm.exec) (hby : c.code = code) {x : Int32} {o : Int} {pc' : Nat} (hd : decode code pc = .ok (.ifCond .eq o, 3)) (ho : 0 ≤ (pc : Int) + o) (hp : ((pc : Int) + o).toNat = pc') (hY : x = 0 → own_G p e below s Q k n (T.setTop (mkF m pc' Ls st))) (hN : ¬ x = 0 → own_G p e below s Q k n (T.setTop (mkF m (pc + 3) Ls st))) : own_G p e below s Q k n (T.setTop (mkF m pc Ls (.int x :: st))) := by
  by_cases q : x = 0
  · exact own_st (fun _ => XS.ifYes X.here hx rfl rfl (hb hby hd) rfl ((if0 _ _).trans (teq q).1) ho hp) (hY q)
  · exact own_st (fun _ => XS.ifNo X.here hx rfl (hb hby hd) rfl ((if0 _ _).trans (feq q).1)) (hN q)
theorem own_lcmp_eq (X : Stand p l e R s m args below meth c T locs cells slots) (hx : p.tables.exec = Jvm.exec) (hby : c.code = code) {x y : Int64} {o : Int} {pc' : Nat} (hd : decode code pc = .ok (.lcmp, 1)) (hd2 : decode code (pc + 1) = .ok (.ifCond .eq o, 3)) (ho : 0 ≤ ((pc + 1 : Nat) : Int) + o) (hp : (((pc + 1 : Nat) : Int) + o).toNat = pc') (hY : x = y → own_G p e below s Q k n (T.setTop (mkF m pc' Ls st))) (hN : ¬ x = y → own_G p e below s Q k n (T.setTop (mkF m (pc + 4) Ls st))) : own_G p e below s Q k n (T.setTop (mkF m pc Ls (.long y :: .long x :: st))) := by
  refine own_st (fun _ => XS.lcmp X.here hx rfl (hb hby hd) rfl) ?_
  exact own_if_eq (x := lcmpW x y) X hx hby hd2 ho hp (fun q => hY ((lw_eq x y).mp q)) (fun q => hN (fun z => q ((lw_eq x y).mpr z)))
theorem own_icmp_ne (X : Stand p l e R s m args below meth c T locs cells slots) (hx : p.tables.exec = Jvm.exec) (hby : c.code = code) {x y : Int32} {o : Int} {pc' : Nat} (hd : decode code pc = .ok (.if_icmp .ne o, 3)) (ho : 0 ≤ (pc : Int) + o) (hp : ((pc : Int) + o).toNat = pc') (hY : ¬ x = y → own_G p e below s Q k n (T.setTop (mkF m pc' Ls st))) (hN : x = y → own_G p e below s Q k n (T.setTop (mkF m (pc + 3) Ls st))) : own_G p e below s Q k n (T.setTop (mkF m pc Ls (.int y :: .int x :: st))) := by
  by_cases q : x = y
  · exact own_st (fun _ => XS.icmpNo X.here hx rfl (hb hby hd) rfl (teq q).2) (hN q)
  · exact own_st (fun _ => XS.icmpYes X.here hx rfl rfl (hb hby hd) rfl (feq q).2 ho hp) (hY q)
theorem own_if_ne (X : Stand p l e R s m args below meth c T locs cells slots) (hx : p.tables.exec = Jvm.exec) (hby : c.code = code) {x : Int32} {o : Int} {pc' : Nat} (hd : decode code pc = .ok (.ifCond .ne o, 3)) (ho : 0 ≤ (pc : Int) + o) (hp : ((pc : Int) + o).toNat = pc') (hY : ¬ x = 0 → own_G p e below s Q k n (T.setTop (mkF m pc' Ls st))) (hN : x = 0 → own_G p e below s Q k n (T.setTop (mkF m (pc + 3) Ls st))) : own_G p e below s Q k n (T.setTop (mkF m pc Ls (.int x :: st))) := by
  by_cases q : x = 0
  · exact own_st (fun _ => XS.ifNo X.here hx rfl (hb hby hd) rfl ((if0 _ _).trans (teq q).2)) (hN q)
  · exact own_st (fun _ => XS.ifYes X.here hx rfl rfl (hb hby hd) rfl ((if0 _ _).trans (feq q).2) ho hp) (hY q)
theorem own_lcmp_ne (X : Stand p l e R s m args below meth c T locs cells slots) (hx : p.tables.exec = Jvm.exec) (hby : c.code = code) {x y : Int64} {o : Int} {pc' : Nat} (hd : decode code pc = .ok (.lcmp, 1)) (hd2 : decode code (pc + 1) = .ok (.ifCond .ne o, 3)) (ho : 0 ≤ ((pc + 1 : Nat) : Int) + o) (hp : (((pc + 1 : Nat) : Int) + o).toNat = pc') (hY : ¬ x = y → own_G p e below s Q k n (T.setTop (mkF m pc' Ls st))) (hN : x = y → own_G p e below s Q k n (T.setTop (mkF m (pc + 4) Ls st))) : own_G p e below s Q k n (T.setTop (mkF m pc Ls (.long y :: .long x :: st))) := by
  refine own_st (fun _ => XS.lcmp X.here hx rfl (hb hby hd) rfl) ?_
  exact own_if_ne (x := lcmpW x y) X hx hby hd2 ho hp (fun q => hY (fun z => q ((lw_eq x y).mpr z))) (fun q => hN ((lw_eq x y).mp q))
theorem own_icmp_lt (X : Stand p l e R s m args below meth c T locs cells slots) (hx : p.tables.exec = Jvm.exec) (hby : c.code = code) {x y : Int32} {o : Int} {pc' : Nat} (hd : decode code pc = .ok (.if_icmp .lt o, 3)) (ho : 0 ≤ (pc : Int) + o) (hp : ((pc : Int) + o).toNat = pc') (hY : x < y → own_G p e below s Q k n (T.setTop (mkF m pc' Ls st))) (hN : ¬ x < y → own_G p e below s Q k n (T.setTop (mkF m (pc + 3) Ls st))) : own_G p e below s Q k n (T.setTop (mkF m pc Ls (.int y :: .int x :: st))) := by
  by_cases q : x < y
  · exact own_st (fun _ => XS.icmpYes X.here hx rfl rfl (hb hby hd) rfl (tlt q).1 ho hp) (hY q)
  · exact own_st (fun _ => XS.icmpNo X.here hx rfl (hb hby hd) rfl (flt q).1) (hN q)
theorem own_if_lt (X : Stand p l e R s m args below meth c T locs cells slots) (hx : p.tables.exec = Jvm.exec) (hby : c.code = code) {x : Int32} {o : Int} {pc' : Nat} (hd : decode code pc = .ok (.ifCond .lt o, 3)) (ho : 0 ≤ (pc : Int) + o) (hp : ((pc : Int) + o).toNat = pc') (hY : x < 0 → own_G p e below s Q k n (T.setTop (mkF m pc' Ls st))) (hN : ¬ x < 0 → own_G p e below s Q k n (T.setTop (mkF m (pc + 3) Ls st))) : own_G p e below s Q k n (T.setTop (mkF m pc Ls (.int x :: st))) := by
  by_cases q : x < 0
  · exact own_st (fun _ => XS.ifYes X.here hx rfl rfl (hb hby hd) rfl ((if0 _ _).trans (tlt q).1) ho hp) (hY q)
  · exact own_st (fun _ => XS.ifNo X.here hx rfl (hb hby hd) rfl ((if0 _ _).trans (flt q).1)) (hN q)
theorem own_lcmp_lt (X : Stand p l e R s m args below meth c T locs cells slots) (hx : p.tables.exec = Jvm.exec) (hby : c.code = code) {x y : Int64} {o : Int} {pc' : Nat} (hd : decode code pc = .ok (.lcmp, 1)) (hd2 : decode code (pc + 1) = .ok (.ifCond .lt o, 3)) (ho : 0 ≤ ((pc + 1 : Nat) : Int) + o) (hp : (((pc + 1 : Nat) : Int) + o).toNat = pc') (hY : x < y → own_G p e below s Q k n (T.setTop (mkF m pc' Ls st))) (hN : ¬ x < y → own_G p e below s Q k n (T.setTop (mkF m (pc + 4) Ls st))) : own_G p e below s Q k n (T.setTop (mkF m pc Ls (.long y :: .long x :: st))) := by
  refine own_st (fun _ => XS.lcmp X.here hx rfl (hb hby hd) rfl) ?_
  exact own_if_lt (x := lcmpW x y) X hx hby hd2 ho hp (fun q => hY ((lw_lt x y).mp q)) (fun q => hN (fun z => q ((lw_lt x y).mpr z)))
theorem own_icmp_ge (X : Stand p l e R s m args below meth c T locs cells slots) (hx : p.tables.exec = Jvm.exec) (hby : c.code = code) {x y : Int32} {o : Int} {pc' : Nat} (hd : decode code pc = .ok (.if_icmp .ge o, 3)) (ho : 0 ≤ (pc : Int) + o) (hp : ((pc : Int) + o).toNat = pc') (hY : ¬ x < y → own_G p e below s Q k n (T.setTop (mkF m pc' Ls st))) (hN : x < y → own_G p e below s Q k n (T.setTop (mkF m (pc + 3) Ls st))) : own_G p e below s Q k n (T.setTop (mkF m pc Ls (.int y :: .int x :: st))) := by
  by_cases q : x < y
  · exact own_st (fun _ => XS.icmpNo X.here hx rfl (hb hby hd) rfl (tlt q).2.1) (hN q)
  · exact own_st (fun _ => XS.icmpYes X.here hx rfl rfl (hb hby hd) rfl (flt q).2.1 ho hp) (hY q)
theorem own_if_ge (X : Stand p l e R s m args below meth c T locs cells slots) (hx : p.tables.exec = Jvm.exec) (hby : c.code = code) {x : Int32} {o : Int} {pc' : Nat} (hd : decode code pc = .ok (.ifCond .ge o, 3)) (ho : 0 ≤ (pc : Int) + o) (hp : ((pc : Int) + o).toNat = pc') (hY : ¬ x < 0 → own_G p e below s Q k n (T.setTop (mkF m pc' Ls st))) (hN : x < 0 → own_G p e below s Q k n (T.setTop (mkF m (pc + 3) Ls st))) : own_G p e below s Q k n (T.setTop (mkF m pc Ls (.int x :: st))) := by
  by_cases q : x < 0
  · exact own_st (fun _ => XS.ifNo X.here hx rfl (hb hby hd) rfl ((if0 _ _).trans (tlt q).2.1)) (hN q)
  · exact own_st (fun _ => XS.ifYes X.here hx rfl rfl (hb hby hd) rfl ((if0 _ _).trans (flt q).2.1) ho hp) (hY q)
theorem own_lcmp_ge (X : Stand p l e R s m args below meth c T locs cells slots) (hx : p.tables.exec = Jvm.exec) (hby : c.code = code) {x y : Int64} {o : Int} {pc' : Nat} (hd : decode code pc = .ok (.lcmp, 1)) (hd2 : decode code (pc + 1) = .ok (.ifCond .ge o, 3)) (ho : 0 ≤ ((pc + 1 : Nat) : Int) + o) (hp : (((pc + 1 : Nat) : Int) + o).toNat = pc') (hY : ¬ x < y → own_G p e below s Q k n (T.setTop (mkF m pc' Ls st))) (hN : x < y → own_G p e below s Q k n (T.setTop (mkF m (pc + 4) Ls st))) : own_G p e below s Q k n (T.setTop (mkF m pc Ls (.long y :: .long x :: st))) := by
  refine own_st (fun _ => XS.lcmp X.here hx rfl (hb hby hd) rfl) ?_
  exact own_if_ge (x := lcmpW x y) X hx hby hd2 ho hp (fun q => hY (fun z => q ((lw_lt x y).mpr z))) (fun q => hN ((lw_lt x y).mp q))
theorem own_icmp_gt (X : Stand p l e R s m args below meth c T locs cells slots) (hx : p.tables.exec = Jvm.exec) (hby : c.code = code) {x y : Int32} {o : Int} {pc' : Nat} (hd : decode code pc = .ok (.if_icmp .gt o, 3)) (ho : 0 ≤ (pc : Int) + o) (hp : ((pc : Int) + o).toNat = pc') (hY : y < x → own_G p e below s Q k n (T.setTop (mkF m pc' Ls st))) (hN : ¬ y < x → own_G p e below s Q k n (T.setTop (mkF m (pc + 3) Ls st))) : own_G p e below s Q k n (T.setTop (mkF m pc Ls (.int y :: .int x :: st))) := by
  by_cases q : y < x
  · exact own_st (fun _ => XS.icmpYes X.here hx rfl rfl (hb hby hd) rfl (tlt q).2.2.1 ho hp) (hY q)
  · exact own_st (fun _ => XS.icmpNo X.here hx rfl (hb hby hd) rfl (flt q).2.2.1) (hN q)
theorem own_if_gt (X : Stand p l e R s m args below meth c T locs cells slots) (hx : p.tables.exec = Jvm.exec) (hby : c.code = code) {x : Int32} {o : Int} {pc' : Nat} (hd : decode code pc = .ok (.ifCond .gt o, 3)) (ho : 0 ≤ (pc : Int) + o) (hp : ((pc : Int) + o).toNat = pc') (hY : 0 < x → own_G p e below s Q k n (T.setTop (mkF m pc' Ls st))) (hN : ¬ 0 < x → own_G p e below s Q k n (T.setTop (mkF m (pc + 3) Ls st))) : own_G p e below s Q k n (T.setTop (mkF m pc Ls (.int x :: st))) := by
  by_cases q : 0 < x
  · exact own_st (fun _ => XS.ifYes X.here hx rfl rfl (hb hby hd) rfl ((if0 _ _).trans (tlt q).2.2.1) ho hp) (hY q)
  · exact own_st (fun _ => XS.ifNo X.here hx rfl (hb hby hd) rfl ((if0 _ _).trans (flt q).2.2.1)) (hN q)
theorem own_lcmp_gt (X : Stand p l e R s m args below meth c T locs cells slots) (hx : p.tables.exec = Jvm.exec) (hby : c.code = code) {x y : Int64} {o : Int} {pc' : Nat} (hd : decode code pc = .ok (.lcmp, 1)) (hd2 : decode code (pc + 1) = .ok (.ifCond .gt o, 3)) (ho : 0 ≤ ((pc + 1 : Nat) : Int) + o) (hp : (((pc + 1 : Nat) : Int) + o).toNat = pc') (hY : y < x → own_G p e below s Q k n (T.setTop (mkF m pc' Ls st))) (hN : ¬ y < x → own_G p e below s Q k n (T.setTop (mkF m (pc + 4) Ls st))) : own_G p e below s Q k n (T.setTop (mkF m pc Ls (.long y :: .long x :: st))) := by
  refine own_st (fun _ => XS.lcmp X.here hx rfl (hb hby hd) rfl) ?_
  exact own_if_gt (x := lcmpW x y) X hx hby hd2 ho hp (fun q => hY ((lw_gt x y).mp q)) (fun q => hN (fun z => q ((lw_gt x y).mpr z)))
theorem own_icmp_le (X : Stand p l e R s m args below meth c T locs cells slots) (hx : p.tables.exec = Jvm.exec) (hby : c.code = code) {x y : Int32} {o : Int} {pc' : Nat} (hd : decode code pc = .ok (.if_icmp .le o, 3)) (ho : 0 ≤ (pc : Int) + o) (hp : ((pc : Int) + o).toNat = pc') (hY : ¬ y < x → own_G p e below s Q k n (T.setTop (mkF m pc' Ls st))) (hN : y < x → own_G p e below s Q k n (T.setTop (mkF m (pc + 3) Ls st))) : own_G p e below s Q k n (T.setTop (mkF m pc Ls (.int y :: .int x :: st))) := by
  by_cases q : y < x
  · exact own_st (fun _ => XS.icmpNo X.here hx rfl (hb hby hd) rfl (tlt q).2.2.2) (hN q)
  · exact own_st (fun _ => XS.icmpYes X.here hx rfl rfl (hb hby hd) rfl (flt q).2.2.2 ho hp) (hY q)
theorem own_if_le (X : Stand p l e R s m args below meth c T locs cells slots) (hx : p.tables.exec = Jvm.exec) (hby : c.code = code) {x : Int32} {o : Int} {pc' : Nat} (hd : decode code pc = .ok (.ifCond .le o, 3)) (ho : 0 ≤ (pc : Int) + o) (hp : ((pc : Int) + o).toNat = pc') (hY : ¬ 0 < x → own_G p e below s Q k n (T.setTop (mkF m pc' Ls st))) (hN : 0 < x → own_G p e below s Q k n (T.setTop (mkF m (pc + 3) Ls st))) : own_G p e below s Q k n (T.setTop (mkF m pc Ls (.int x :: st))) := by
  by_cases q : 0 < x
  · exact own_st (fun _ => XS.ifNo X.here hx rfl (hb hby hd) rfl ((if0 _ _).trans (tlt q).2.2.2)) (hN q)
  · exact own_st (fun _ => XS.ifYes X.here hx rfl rfl (hb hby hd) rfl ((if0 _ _).trans (flt q).2.2.2) ho hp) (hY q)
theorem own_lcmp_le (X : Stand p l e R s m args below meth c T locs cells slots) (hx : p.tables.exec = Jvm.exec) (hby : c.code = code) {x y : Int64} {o : Int} {pc' : Nat} (hd : decode code pc = .ok (.lcmp, 1)) (hd2 : decode code (pc + 1) = .ok (.ifCond .le o, 3)) (ho : 0 ≤ ((pc + 1 : Nat) : Int) + o) (hp : (((pc + 1 : Nat) : Int) + o).toNat = pc') (hY : ¬ y < x → own_G p e below s Q k n (T.setTop (mkF m pc' Ls st))) (hN : y < x → own_G p e below s Q k n (T.setTop (mkF m (pc + 4) Ls st))) : own_G p e below s Q k n (T.setTop (mkF m pc Ls (.long y :: .long x :: st))) := by
  refine own_st (fun _ => XS.lcmp X.here hx rfl (hb hby hd) rfl) ?_
  exact own_if_le (x := lcmpW x y) X hx hby hd2 ho hp (fun q => hY (fun z => q ((lw_gt x y).mpr z))) (fun q => hN ((lw_gt x y).mp q))
theorem own_acmp_eq (X : Stand p l e R s m args below meth c T locs cells slots) (hx : p.tables.exec = Jvm.exec) (hby : c.code = code) {x y : Value} {o : Int} {pc' : Nat} (hx1 : x.isRef = true) (hy1 : y.isRef = true) (hd : decode code pc = .ok (.if_acmp .eq o, 3)) (ho : 0 ≤ (pc : Int) + o) (hp : ((pc : Int) + o).toNat = pc') (hY : x = y → own_G p e below s Q k n (T.setTop (mkF m pc' Ls st))) (hN : ¬ x = y → own_G p e below s Q k n (T.setTop (mkF m (pc + 3) Ls st))) : own_G p e below s Q k n (T.setTop (mkF m pc Ls (y :: x :: st))) := by
  by_cases q : x = y
  · exact own_st (fun _ => Jvm.Free.XT.acmpYes X.here hx rfl rfl (hb hby hd) rfl hx1 hy1 (decide_eq_true q) ho hp) (hY q)
  · exact own_st (fun _ => Jvm.Free.XT.acmpNo X.here hx rfl (hb hby hd) rfl hx1 hy1 (decide_eq_false q)) (hN q)
theorem own_acmp_ne (X : Stand p l e R s m args below meth c T locs cells slots) (hx : p.tables.exec = Jvm.exec) (hby : c.code = code) {x y : Value} {o : Int} {pc' : Nat} (hx1 : x.isRef = true) (hy1 : y.isRef = true) (hd : decode code pc = .ok (.if_acmp .ne o, 3)) (ho : 0 ≤ (pc : Int) + o) (hp : ((pc : Int) + o).toNat = pc') (hY : ¬ x = y → own_G p e below s Q k n (T.setTop (mkF m pc' Ls st))) (hN : x = y → own_G p e below s Q k n (T.setTop (mkF m (pc + 3) Ls st))) : own_G p e below s Q k n (T.setTop (mkF m pc Ls (y :: x :: st))) := by
  by_cases q : x = y
  · exact own_st (fun _ => Jvm.Free.XT.acmpNo X.here hx rfl (hb hby hd) rfl hx1 hy1 (decide_eq_false (fun z => z q))) (hN q)
  · exact own_st (fun _ => Jvm.Free.XT.acmpYes X.here hx rfl rfl (hb hby hd) rfl hx1 hy1 (decide_eq_true q) ho hp) (hY q)
theorem own_ifnullY (X : Stand p l e R s m args below meth c T locs cells slots) (hx : p.tables.exec = Jvm.exec) (hby : c.code = code) {o : Int} {pc' : Nat} (hd : decode code pc = .ok (.ifnull o, 3)) (ho : 0 ≤ (pc : Int) + o) (hp : ((pc : Int) + o).toNat = pc') (h : own_G p e below s Q k n (T.setTop (mkF m pc' Ls st))) : own_G p e below s Q k n (T.setTop (mkF m pc Ls (.null :: st))) := own_st (fun _ => XS.ifnullYes X.here hx rfl rfl (hb hby hd) rfl ho hp) h
theorem own_ifnullN (X : Stand p l e R s m args below meth c T locs cells slots) (hx : p.tables.exec = Jvm.exec) (hby : c.code = code) {o : Int} {b : Addr} (hd : decode code pc = .ok (.ifnull o, 3)) (h : own_G p e below s Q k n (T.setTop (mkF m (pc + 3) Ls st))) : own_G p e below s Q k n (T.setTop (mkF m pc Ls (.ref b :: st))) := own_st (fun _ => XS.ifnullNo X.here hx rfl (hb hby hd) rfl) h
theorem own_ifnonnullY (X : Stand p l e R s m args below meth c T locs cells slots) (hx : p.tables.exec = Jvm.exec) (hby : c.code = code) {o : Int} {b : Addr} {pc' : Nat} (hd : decode code pc = .ok (.ifnonnull o, 3)) (ho : 0 ≤ (pc : Int) + o) (hp : ((pc : Int) + o).toNat = pc') (h : own_G p e below s Q k n (T.setTop (mkF m pc' Ls st))) : own_G p e below s Q k n (T.setTop (mkF m pc Ls (.ref b :: st))) := own_st (fun _ => XS.ifnonnullYes X.here hx rfl rfl (hb hby hd) rfl ho hp) h
theorem own_ifnonnullN (X : Stand p l e R s m args below meth c T locs cells slots) (hx : p.tables.exec = Jvm.exec) (hby : c.code = code) {o : Int} (hd : decode code pc = .ok (.ifnonnull o, 3)) (h : own_G p e below s Q k n (T.setTop (mkF m (pc + 3) Ls st))) : own_G p e below s Q k n (T.setTop (mkF m pc Ls (.null :: st))) := own_st (fun _ => XS.ifnonnullNo X.here hx rfl (hb hby hd) rfl) h
theorem own_tswIn (X : Stand p l e R s m args below meth c T locs cells slots) (hx : p.tables.exec = Jvm.exec) (hby : c.code = code) {dflt low high : Int} {offs : Array Int} {len : Nat} {o : Int} {pc' : Nat} {i : Int32} (hd : decode code pc = .ok (.tableswitch dflt low high offs, len)) (hin : ¬ (i.toInt < low ∨ i.toInt > high)) (hoff : offs[(i.toInt - low).toNat]? = some o) (ho : 0 ≤ (pc : Int) + o) (hp : ((pc : Int) + o).toNat = pc') (h : own_G p e below s Q k n (T.setTop (mkF m pc' Ls st))) : own_G p e below s Q k n (T.setTop (mkF m pc Ls (.int i :: st))) := own_st (fun _ => XS.tswIn (g := mkF m pc Ls (.int i :: st)) (pc0 := pc) X.here hx rfl rfl (hb hby hd) rfl hin hoff ho hp) h
theorem own_ldcI (X : Stand p l e R s m args below meth c T locs cells slots) (hx : p.tables.exec = Jvm.exec) (hby : c.code = code) (hZ : Z.Warmed39 s.vm) {own : String} {i : Nat} {v : Int32} (hown : s.vm.findClass own = some m.cls) (w : (Cond.constant own i v).before a0 Z = true) (hd : decode code pc = .ok (.ldc i, 2)) (h : own_G p e below s Q k n (T.setTop (mkF m (pc + 2) Ls (.int v :: st)))) : own_G p e below s Q k n (T.setTop (mkF m pc Ls st)) := own_st (X.ldcInt hx hown (mvT hZ w) rfl (hb hby hd)) h
theorem own_ldcJ (X : Stand p l e R s m args below meth c T locs cells slots) (hx : p.tables.exec = Jvm.exec) (hby : c.code = code) (hZ : Z.Warmed39 s.vm) {own : String} {i : Nat} {v : Int64} (hown : s.vm.findClass own = some m.cls) (w : (Cond.constantLong own i v).before a0 Z = true) (hd : decode code pc = .ok (.ldc2_w i, 3)) (h : own_G p e below s Q k n (T.setTop (mkF m (pc + 3) Ls (.long v :: st)))) : own_G p e below s Q k n (T.setTop (mkF m pc Ls st)) := own_st (X.ldc2Long hx hown (mvT hZ w) rfl (hb hby hd)) h
theorem own_instNull (X : Stand p l e R s m args below meth c T locs cells slots) (hx : p.tables.exec = Jvm.exec) (hby : c.code = code) {i : Nat} (hd : decode code pc = .ok (.instanceof i, 3)) (h : own_G p e below s Q k n (T.setTop (mkF m (pc + 3) Ls (.int 0 :: st)))) : own_G p e below s Q k n (T.setTop (mkF m pc Ls (.null :: st))) := own_st (X.instanceofNull hx rfl rfl (hb hby hd)) h
theorem own_castNull (X : Stand p l e R s m args below meth c T locs cells slots) (hx : p.tables.exec = Jvm.exec) (hby : c.code = code) {i : Nat} (hd : decode code pc = .ok (.checkcast i, 3)) (h : own_G p e below s Q k n (T.setTop (mkF m (pc + 3) Ls (.null :: st)))) : own_G p e below s Q k n (T.setTop (mkF m pc Ls (.null :: st))) := own_st (X.checkcastNull hx rfl rfl (hb hby hd)) h
def own_Ar (Z : State) (h : Heap) (a : Addr) (ty : FieldType) (n : Nat) (f : Nat → Value) : Prop := ∃ c : Cell, Arr Z h a c ty ∧ c.slots.size = n ∧ n < 2 ^ 31 ∧ ∀ j, j < n → c.slots[j]? = some (f j)
def own_set (f : Nat → Value) (j : Nat) (v : Value) : Nat → Value := fun i => if i = j then v else f i
theorem own_set_same (f : Nat → Value) (j : Nat) (v : Value) : own_set f j v j = v := if_pos rfl
theorem own_set_ne (f : Nat → Value) {i j : Nat} (v : Value) (q : i ≠ j) : own_set f j v i = f i := if_neg q
theorem own_Ar.lt {a : Addr} {ty : FieldType} {N : Nat} {f : Nat → Value} (F : own_Ar Z h a ty N f) : a < h.size := by obtain ⟨c, A, -⟩ := F; exact A.lt
theorem own_Ar.small {a : Addr} {ty : FieldType} {N : Nat} {f : Nat → Value} (F : own_Ar Z h a ty N f) : N < 2 ^ 31 := by obtain ⟨c, -, -, q, -⟩ := F; exact q
theorem own_Ar.ext {h' : Heap} {a : Addr} {ty : FieldType} {N : Nat} {f : Nat → Value} (F : own_Ar Z h a ty N f) (E : Ext h h') : own_Ar Z h' a ty N f := by obtain ⟨c, A, r⟩ := F; exact ⟨c, A.ext E, r⟩
theorem own_Ar.other {h' : Heap} {a b : Addr} {sl : Nat} {v : Value} {ty : FieldType} {N : Nat} {f : Nat → Value} (F : own_Ar Z h b ty N f) (W : Wr h h' a sl v) (q : b ≠ a) : own_Ar Z h' b ty N f := by obtain ⟨c, A, r⟩ := F; exact ⟨c, A.other W q, r⟩
theorem own_Ar.keep {h' : Heap} {a : Addr} {ws : List Addr} {ty : FieldType} {N : Nat} {f : Nat → Value} (F : own_Ar Z h a ty N f) (K : Keep h h' ws) (q : a ∉ ws) : own_Ar Z h' a ty N f := by obtain ⟨c, A, r⟩ := F; exact ⟨c, ⟨K.2.1 a c A.1 q, A.2⟩, r⟩
theorem own_Ar.fn {a : Addr} {ty : FieldType} {N : Nat} {f g : Nat → Value} (F : own_Ar Z h a ty N f) (q : ∀ j, j < N → f j = g j) : own_Ar Z h a ty N g := by obtain ⟨c, A, r1, r2, r3⟩ := F; exact ⟨c, A, r1, r2, fun j hj => by rw [r3 j hj, q j hj]⟩
theorem own_Ar.store {h' : Heap} {a : Addr} {c : Cell} {ty : FieldType} {N j : Nat} {f : Nat → Value} {v : Value} (A : Arr Z h a c ty) (r1 : c.slots.size = N) (r2 : N < 2 ^ 31) (r3 : ∀ j, j < N → c.slots[j]? = some (f j)) (W : Wr h h' a j v) : own_Ar Z h' a ty N (own_set f j v) := by
  refine ⟨_, A.same W, by rw [sz_set]; exact r1, r2, fun i hi => ?_⟩
  by_cases e : i = j
  · subst e; rw [own_set_same]; simp [Cell.setSlot, r1, hi]
  · rw [own_set_ne _ _ e, ← r3 i hi]; exact Array.getElem?_setIfInBounds_ne (fun q => e q.symm)
theorem own_Ar.new {a : Addr} {ty : FieldType} {kc : ClassId} {z : Int32} (A : Arr Z h a (newA kc ty z) ty) (q : ¬ z < 0) : own_Ar Z h a ty z.toNatClampNeg (fun _ => defaultValue ty) :=
  ⟨_, A, sz_new _ _ _, (back32 q).2, fun j hj => by simp [newA, hj]⟩
theorem own_inb {N : Nat} {j : Int32} {i : Nat} (hj : j.toInt = i) (hi : i < N) : ¬ (j < 0 ∨ N ≤ j.toNatClampNeg) ∧ j.toNatClampNeg = i := by
  have q : j.toNatClampNeg = i := by simp only [Int32.toNatClampNeg, hj]; omega
  refine ⟨?_, q⟩
  rw [q]; simp only [Int32.lt_iff_toInt_lt, hj, Int32.reduceToInt]; omega
def own_Ov (Z : State) (h : Heap) (a : Addr) (C : String) : Prop := ∃ cell : Cell, h[a]? = some cell ∧ Ovr Z cell.cls C
theorem own_Ov.ext {h' : Heap} {a : Addr} {C : String} (F : own_Ov Z h a C) (E : Ext h h') : own_Ov Z h' a C := by obtain ⟨c, h1, h2⟩ := F; exact ⟨c, E.2 _ _ h1, h2⟩
theorem own_Ov.wr {h' : Heap} {a b : Addr} {sl : Nat} {v : Value} {C : String} (F : own_Ov Z h a C) (W : Wr h h' b sl v) : own_Ov Z h' a C := by obtain ⟨c, h1, h2⟩ := F; obtain ⟨c', e1, e2, -⟩ := wr_at W h1; exact ⟨c', e1, by rw [e2]; exact h2⟩
theorem own_Ov.keep {h' : Heap} {a : Addr} {ws : List Addr} {C : String} (F : own_Ov Z h a C) (K : Keep h h' ws) : own_Ov Z h' a C := by obtain ⟨c, h1, h2⟩ := F; obtain ⟨c', e1, e2, -⟩ := K.2.2 _ _ h1; exact ⟨c', e1, by rw [e2]; exact h2⟩
theorem own_sto {a y : Addr} {ty : FieldType} {N : Nat} {f : Nat → Value} {C : String} (F : own_Ar Z h a ty N f) (V : own_Ov Z h a C) (I : Ins Z h y C true) : Sto Z h a (.ref y) := by
  obtain ⟨c, A, -⟩ := F; obtain ⟨c', h1, h2⟩ := V; cases A.1.symm.trans h1; exact Sto.of A h2 I
theorem own_alen (X : Stand p l e R s m args below meth c T locs cells slots) (hx : p.tables.exec = Jvm.exec) (hby : c.code = code) (hZ : Z.Warmed39 s.vm) (eT : T.heap = h) {a : Addr} {ty : FieldType} {N : Nat} {f : Nat → Value} (F : own_Ar Z h a ty N f) (hd : decode code pc = .ok (.arraylength, 1)) (h2 : own_G p e below s Q k n (T.setTop (mkF m (pc + 1) Ls (.int N.toInt32 :: st)))) : own_G p e below s Q k n (T.setTop (mkF m pc Ls (.ref a :: st))) := by
  obtain ⟨cl, A, r1, r2, r3⟩ := F
  refine own_st (fun _ => X.arraylength hx (by rw [eT]; exact A.1) (State.isArrayOf_alike hZ.alike A.2.1) (g := mkF m pc Ls (.ref a :: st)) rfl rfl (hb hby hd) _) ?_
  rw [r1]; exact h2
theorem own_iaload (X : Stand p l e R s m args below meth c T locs cells slots) (hx : p.tables.exec = Jvm.exec) (hby : c.code = code) (hZ : Z.Warmed39 s.vm) (eT : T.heap = h) {a : Addr} {N : Nat} {f : Nat → Value} (F : own_Ar Z h a .int N f) {j : Int32} {i : Nat} (hj : j.toInt = i) (hi : i < N) (hd : decode code pc = .ok (.iaload, 1)) (h2 : own_G p e below s Q k n (T.setTop (mkF m (pc + 1) Ls (f i :: st)))) : own_G p e below s Q k n (T.setTop (mkF m pc Ls (.int j :: .ref a :: st))) := by
  obtain ⟨cl, A, r1, r2, r3⟩ := F
  obtain ⟨q1, q2⟩ := own_inb hj hi
  exact own_st (fun _ => X.iaload hx (v := f i) (by rw [eT]; exact A.1) (State.isArrayOf_alike hZ.alike A.2.1) A.2.2 (j := j) (by rw [r1]; exact q1) (by rw [q2]; exact r3 i hi) (g := mkF m pc Ls (.int j :: .ref a :: st)) rfl rfl (hb hby hd) _) h2
theorem own_laload (X : Stand p l e R s m args below meth c T locs cells slots) (hx : p.tables.exec = Jvm.exec) (hby : c.code = code) (hZ : Z.Warmed39 s.vm) (eT : T.heap = h) {a : Addr} {N : Nat} {f : Nat → Value} (F : own_Ar Z h a .long N f) {j : Int32} {i : Nat} (hj : j.toInt = i) (hi : i < N) (hd : decode code pc = .ok (.laload, 1)) (h2 : own_G p e below s Q k n (T.setTop (mkF m (pc + 1) Ls (f i :: st)))) : own_G p e below s Q k n (T.setTop (mkF m pc Ls (.int j :: .ref a :: st))) := by
  obtain ⟨cl, A, r1, r2, r3⟩ := F
  obtain ⟨q1, q2⟩ := own_inb hj hi
  exact own_st (fun _ => X.laload hx (v := f i) (by rw [eT]; exact A.1) (State.isArrayOf_alike hZ.alike A.2.1) A.2.2 (j := j) (by rw [r1]; exact q1) (by rw [q2]; exact r3 i hi) (g := mkF m pc Ls (.int j :: .ref a :: st)) rfl rfl (hb hby hd) _) h2
theorem own_baload (X : Stand p l e R s m args below meth c T locs cells slots) (hx : p.tables.exec = Jvm.exec) (hby : c.code = code) (hZ : Z.Warmed39 s.vm) (eT : T.heap = h) {a : Addr} {N : Nat} {f : Nat → Value} (F : own_Ar Z h a .byte N f) {j : Int32} {i : Nat} (hj : j.toInt = i) (hi : i < N) (hd : decode code pc = .ok (.baload, 1)) (h2 : own_G p e below s Q k n (T.setTop (mkF m (pc + 1) Ls (f i :: st)))) : own_G p e below s Q k n (T.setTop (mkF m pc Ls (.int j :: .ref a :: st))) := by
  obtain ⟨cl, A, r1, r2, r3⟩ := F
  obtain ⟨q1, q2⟩ := own_inb hj hi
  exact own_st (fun _ => X.baloadBytes hx (v := f i) (by rw [eT]; exact A.1) (State.isArrayOf_alike hZ.alike A.2.1) A.2.2 (j := j) (by rw [r1]; exact q1) (by rw [q2]; exact r3 i hi) (g := mkF m pc Ls (.int j :: .ref a :: st)) rfl rfl (hb hby hd) _) h2
theorem own_caload (X : Stand p l e R s m args below meth c T locs cells slots) (hx : p.tables.exec = Jvm.exec) (hby : c.code = code) (hZ : Z.Warmed39 s.vm) (eT : T.heap = h) {a : Addr} {N : Nat} {f : Nat → Value} (F : own_Ar Z h a .char N f) {j : Int32} {i : Nat} (hj : j.toInt = i) (hi : i < N) (hd : decode code pc = .ok (.caload, 1)) (h2 : own_G p e below s Q k n (T.setTop (mkF m (pc + 1) Ls (f i :: st)))) : own_G p e below s Q k n (T.setTop (mkF m pc Ls (.int j :: .ref a :: st))) := by
  obtain ⟨cl, A, r1, r2, r3⟩ := F
  obtain ⟨q1, q2⟩ := own_inb hj hi
  exact own_st (fun _ => X.caload hx (v := f i) (by rw [eT]; exact A.1) (State.isArrayOf_alike hZ.alike A.2.1) A.2.2 (j := j) (by rw [r1]; exact q1) (by rw [q2]; exact r3 i hi) (g := mkF m pc Ls (.int j :: .ref a :: st)) rfl rfl (hb hby hd) _) h2
theorem own_aaload (X : Stand p l e R s m args below meth c T locs cells slots) (hx : p.tables.exec = Jvm.exec) (hby : c.code = code) (hZ : Z.Warmed39 s.vm) (eT : T.heap = h) {a : Addr} {ty : FieldType} {N : Nat} {f : Nat → Value} (F : own_Ar Z h a ty N f) (hty : ty.isReference = true) {j : Int32} {i : Nat} (hj : j.toInt = i) (hi : i < N) (hd : decode code pc = .ok (.aaload, 1)) (h2 : own_G p e below s Q k n (T.setTop (mkF m (pc + 1) Ls (f i :: st)))) : own_G p e below s Q k n (T.setTop (mkF m pc Ls (.int j :: .ref a :: st))) := by
  obtain ⟨cl, A, r1, r2, r3⟩ := F
  obtain ⟨q1, q2⟩ := own_inb hj hi
  exact own_st (fun _ => X.aaload hx (v := f i) (by rw [eT]; exact A.1) (State.isArrayOf_alike hZ.alike A.2.1) hty A.2.2 (j := j) (by rw [r1]; exact q1) (by rw [q2]; exact r3 i hi) (g := mkF m pc Ls (.int j :: .ref a :: st)) rfl rfl (hb hby hd) _) h2
theorem own_iastore (X : Stand p l e R s m args below meth c T locs cells slots) (hx : p.tables.exec = Jvm.exec) (hby : c.code = code) (hZ : Z.Warmed39 s.vm) (eT : T.heap = h) {a : Addr} {N : Nat} {f : Nat → Value} (F : own_Ar Z h a .int N f) {j : Int32} {i : Nat} (hj : j.toInt = i) (hi : i < N) {x : Int32} (hd : decode code pc = .ok (.iastore, 1)) : ∃ T' h', Stand p l e R s m args below meth c T' (locs ++ [⟨a, i⟩]) cells slots ∧ T'.heap = h' ∧ Wr h h' a i (.int x) ∧ own_Ar Z h' a .int N (own_set f i (.int x)) ∧ ∀ target, Steps p.tables e below (T'.setTop (mkF m (pc + 1) Ls st)) target → Steps p.tables e below (T.setTop (mkF m pc Ls (.int x :: .int j :: .ref a :: st))) target := by
  obtain ⟨cl, A, r1, r2, r3⟩ := F
  obtain ⟨q1, q2⟩ := own_inb hj hi
  obtain ⟨T', h', X', e', W, stp⟩ := stI X hx hZ eT A (j := j) (by rw [r1]; exact q1) (g := mkF m pc Ls (.int x :: .int j :: .ref a :: st)) rfl rfl (hb hby hd)
  rw [q2] at X' W
  exact ⟨T', h', X', e', W, own_Ar.store A r1 r2 r3 W, stp⟩
theorem own_lastore (X : Stand p l e R s m args below meth c T locs cells slots) (hx : p.tables.exec = Jvm.exec) (hby : c.code = code) (hZ : Z.Warmed39 s.vm) (eT : T.heap = h) {a : Addr} {N : Nat} {f : Nat → Value} (F : own_Ar Z h a .long N f) {j : Int32} {i : Nat} (hj : j.toInt = i) (hi : i < N) {x : Int64} (hd : decode code pc = .ok (.lastore, 1)) : ∃ T' h', Stand p l e R s m args below meth c T' (locs ++ [⟨a, i⟩]) cells slots ∧ T'.heap = h' ∧ Wr h h' a i (.long x) ∧ own_Ar Z h' a .long N (own_set f i (.long x)) ∧ ∀ target, Steps p.tables e below (T'.setTop (mkF m (pc + 1) Ls st)) target → Steps p.tables e below (T.setTop (mkF m pc Ls (.long x :: .int j :: .ref a :: st))) target := by
  obtain ⟨cl, A, r1, r2, r3⟩ := F
  obtain ⟨q1, q2⟩ := own_inb hj hi
  obtain ⟨T', h', X', e', W, stp⟩ := stJ X hx hZ eT A (j := j) (by rw [r1]; exact q1) (g := mkF m pc Ls (.long x :: .int j :: .ref a :: st)) rfl rfl (hb hby hd)
  rw [q2] at X' W
  exact ⟨T', h', X', e', W, own_Ar.store A r1 r2 r3 W, stp⟩
theorem own_bastore (X : Stand p l e R s m args below meth c T locs cells slots) (hx : p.tables.exec = Jvm.exec) (hby : c.code = code) (hZ : Z.Warmed39 s.vm) (eT : T.heap = h) {a : Addr} {N : Nat} {f : Nat → Value} (F : own_Ar Z h a .byte N f) {j : Int32} {i : Nat} (hj : j.toInt = i) (hi : i < N) {x : Int32} (hd : decode code pc = .ok (.bastore, 1)) : ∃ T' h', Stand p l e R s m args below meth c T' (locs ++ [⟨a, i⟩]) cells slots ∧ T'.heap = h' ∧ Wr h h' a i (.int (nar .byte x)) ∧ own_Ar Z h' a .byte N (own_set f i (.int (nar .byte x))) ∧ ∀ target, Steps p.tables e below (T'.setTop (mkF m (pc + 1) Ls st)) target → Steps p.tables e below (T.setTop (mkF m pc Ls (.int x :: .int j :: .ref a :: st))) target := by
  obtain ⟨cl, A, r1, r2, r3⟩ := F
  obtain ⟨q1, q2⟩ := own_inb hj hi
  obtain ⟨T', h', X', e', W, stp⟩ := stB X hx hZ eT A (j := j) (by rw [r1]; exact q1) (g := mkF m pc Ls (.int x :: .int j :: .ref a :: st)) rfl rfl (hb hby hd)
  rw [q2] at X' W
  exact ⟨T', h', X', e', W, own_Ar.store A r1 r2 r3 W, stp⟩
theorem own_castore (X : Stand p l e R s m args below meth c T locs cells slots) (hx : p.tables.exec = Jvm.exec) (hby : c.code = code) (hZ : Z.Warmed39 s.vm) (eT : T.heap = h) {a : Addr} {N : Nat} {f : Nat → Value} (F : own_Ar Z h a .char N f) {j : Int32} {i : Nat} (hj : j.toInt = i) (hi : i < N) {x : Int32} (hd : decode code pc = .ok (.castore, 1)) : ∃ T' h', Stand p l e R s m args below meth c T' (locs ++ [⟨a, i⟩]) cells slots ∧ T'.heap = h' ∧ Wr h h' a i (.int (nar .char x)) ∧ own_Ar Z h' a .char N (own_set f i (.int (nar .char x))) ∧ ∀ target, Steps p.tables e below (T'.setTop (mkF m (pc + 1) Ls st)) target → Steps p.tables e below (T.setTop (mkF m pc Ls (.int x :: .int j :: .ref a :: st))) target := by
  obtain ⟨cl, A, r1, r2, r3⟩ := F
  obtain ⟨q1, q2⟩ := own_inb hj hi
  obtain ⟨T', h', X', e', W, stp⟩ := stC X hx hZ eT A (j := j) (by rw [r1]; exact q1) (g := mkF m pc Ls (.int x :: .int j :: .ref a :: st)) rfl rfl (hb hby hd)
  rw [q2] at X' W
  exact ⟨T', h', X', e', W, own_Ar.store A r1 r2 r3 W, stp⟩
theorem own_dastore (X : Stand p l e R s m args below meth c T locs cells slots) (hx : p.tables.exec = Jvm.exec) (hby : c.code = code) (hZ : Z.Warmed39 s.vm) (eT : T.heap = h) {a : Addr} {N : Nat} {f : Nat → Value} (F : own_Ar Z h a .double N f) {j : Int32} {i : Nat} (hj : j.toInt = i) (hi : i < N) {x : UInt64} (hd : decode code pc = .ok (.dastore, 1)) : ∃ T' h', Stand p l e R s m args below meth c T' (locs ++ [⟨a, i⟩]) cells slots ∧ T'.heap = h' ∧ Wr h h' a i (.double x) ∧ own_Ar Z h' a .double N (own_set f i (.double x)) ∧ ∀ target, Steps p.tables e below (T'.setTop (mkF m (pc + 1) Ls st)) target → Steps p.tables e below (T.setTop (mkF m pc Ls (.double x :: .int j :: .ref a :: st))) target := by
  obtain ⟨cl, A, r1, r2, r3⟩ := F
  obtain ⟨q1, q2⟩ := own_inb hj hi
  obtain ⟨T', h', X', e', W, stp⟩ := stD X hx hZ eT A (j := j) (by rw [r1]; exact q1) (g := mkF m pc Ls (.double x :: .int j :: .ref a :: st)) rfl rfl (hb hby hd)
  rw [q2] at X' W
  exact ⟨T', h', X', e', W, own_Ar.store A r1 r2 r3 W, stp⟩
theorem own_aastore (X : Stand p l e R s m args below meth c T locs cells slots) (hx : p.tables.exec = Jvm.exec) (hby : c.code = code) (hZ : Z.Warmed39 s.vm) (eT : T.heap = h) {a : Addr} {ty : FieldType} {N : Nat} {f : Nat → Value} (F : own_Ar Z h a ty N f) (hty : ty.isReference = true) {j : Int32} {i : Nat} (hj : j.toInt = i) (hi : i < N) {v : Value} (S : Sto Z h a v) (hd : decode code pc = .ok (.aastore, 1)) : ∃ T' h', Stand p l e R s m args below meth c T' (locs ++ [⟨a, i⟩]) cells slots ∧ T'.heap = h' ∧ Wr h h' a i v ∧ own_Ar Z h' a ty N (own_set f i v) ∧ ∀ target, Steps p.tables e below (T'.setTop (mkF m (pc + 1) Ls st)) target → Steps p.tables e below (T.setTop (mkF m pc Ls (v :: .int j :: .ref a :: st))) target := by
  obtain ⟨cl, A, r1, r2, r3⟩ := F
  obtain ⟨q1, q2⟩ := own_inb hj hi
  obtain ⟨T', h', X', e', W, stp⟩ := stR X hx hZ eT A (j := j) (by rw [r1]; exact q1) hty S (g := mkF m pc Ls (v :: .int j :: .ref a :: st)) rfl rfl (hb hby hd)
  rw [q2] at X' W
  exact ⟨T', h', X', e', W, own_Ar.store A r1 r2 r3 W, stp⟩
end OwnSteps
theorem own_narR {C : String} {v : Value} (h : v.isRef = true) : narrow (.object C) v = v := by rcases ref_cases h with rfl | ⟨z, rfl⟩ <;> rfl
theorem own_fitR {C : String} {v : Value} (h : v.isRef = true) : fits (.object C) v = true := by rcases ref_cases h with rfl | ⟨z, rfl⟩ <;> rfl
theorem own_irr {x : Int32} : ¬ x < x := by rw [Int32.lt_iff_toInt_lt]; omega
theorem own_irrL {x : Int64} : ¬ x < x := by rw [Int64.lt_iff_toInt_lt]; omega
theorem own_w0 {Z : State} {a0 : Array Value} (hw : ∀ d ∈ tables_1, d.before a0 Z = true) : (Jvm.Cond.methodLink "com/example/wattfloor/wattfloor/market/WindowContainsPinLaw" (9 : Nat) ({ cls := "com/example/wattfloor/wattfloor/market/WindowContainsPinLaw", name := "pickValue", desc := "(IIII)I" } : Jvm.MethodName)).before a0 Z = true := hw _ (List.mem_of_getElem? (i := 0) rfl)
theorem own_w1 {Z : State} {a0 : Array Value} (hw : ∀ d ∈ tables_1, d.before a0 Z = true) : (Jvm.Cond.static ({ cls := "com/example/wattfloor/wattfloor/market/WindowContainsPinLaw", name := "pickValue", desc := "(IIII)I" } : Jvm.MethodName)).before a0 Z = true := hw _ (List.mem_of_getElem? (i := 1) rfl)
theorem own_w2 {Z : State} {a0 : Array Value} (hw : ∀ d ∈ tables_1, d.before a0 Z = true) : (Jvm.Cond.initialized "com/example/wattfloor/wattfloor/market/WindowContainsPinLaw").before a0 Z = true := hw _ (List.mem_of_getElem? (i := 2) rfl)
theorem own_w3 {Z : State} {a0 : Array Value} (hw : ∀ d ∈ tables_1, d.before a0 Z = true) : (Jvm.Cond.code ({ cls := "com/example/wattfloor/wattfloor/market/WindowContainsPinLaw", name := "pickValue", desc := "(IIII)I" } : Jvm.MethodName) method_3_code (5 : Nat) (Option.some Jvm.ClassFile.FieldType.int)).before a0 Z = true := hw _ (List.mem_of_getElem? (i := 3) rfl)
theorem own_w4 {Z : State} {a0 : Array Value} (hw : ∀ d ∈ tables_1, d.before a0 Z = true) : (Jvm.Cond.classLink "com/example/wattfloor/wattfloor/market/WindowContainsPinLaw" (15 : Nat) "com/example/wattfloor/wattfloor/market/Window").before a0 Z = true := hw _ (List.mem_of_getElem? (i := 4) rfl)
theorem own_w5 {Z : State} {a0 : Array Value} (hw : ∀ d ∈ tables_1, d.before a0 Z = true) : (Jvm.Cond.instantiable "com/example/wattfloor/wattfloor/market/Window" (2 : Nat)).before a0 Z = true := hw _ (List.mem_of_getElem? (i := 5) rfl)
theorem own_w6 {Z : State} {a0 : Array Value} (hw : ∀ d ∈ tables_1, d.before a0 Z = true) : (Jvm.Cond.initialized "com/example/wattfloor/wattfloor/market/Window").before a0 Z = true := hw _ (List.mem_of_getElem? (i := 6) rfl)
theorem own_w7 {Z : State} {a0 : Array Value} (hw : ∀ d ∈ tables_1, d.before a0 Z = true) : (Jvm.Cond.methodLink "com/example/wattfloor/wattfloor/market/WindowContainsPinLaw" (17 : Nat) ({ cls := "com/example/wattfloor/wattfloor/market/Window", name := "<init>", desc := "(II)V" } : Jvm.MethodName)).before a0 Z = true := hw _ (List.mem_of_getElem? (i := 7) rfl)
theorem own_w8 {Z : State} {a0 : Array Value} (hw : ∀ d ∈ tables_1, d.before a0 Z = true) : (Jvm.Cond.instanceMethod ({ cls := "com/example/wattfloor/wattfloor/market/Window", name := "<init>", desc := "(II)V" } : Jvm.MethodName)).before a0 Z = true := hw _ (List.mem_of_getElem? (i := 8) rfl)
theorem own_w9 {Z : State} {a0 : Array Value} (hw : ∀ d ∈ tables_1, d.before a0 Z = true) : (Jvm.Cond.code ({ cls := "com/example/wattfloor/wattfloor/market/Window", name := "<init>", desc := "(II)V" } : Jvm.MethodName) prog_130_method_1_code (3 : Nat) (Option.none : Option Jvm.ClassFile.FieldType)).before a0 Z = true := hw _ (List.mem_of_getElem? (i := 9) rfl)
theorem own_w10 {Z : State} {a0 : Array Value} (hw : ∀ d ∈ tables_1, d.before a0 Z = true) : (Jvm.Cond.methodLink "com/example/wattfloor/wattfloor/market/Window" (1 : Nat) ({ cls := "java/lang/Record", name := "<init>", desc := "()V" } : Jvm.MethodName)).before a0 Z = true := hw _ (List.mem_of_getElem? (i := 10) rfl)
theorem own_w11 {Z : State} {a0 : Array Value} (hw : ∀ d ∈ tables_1, d.before a0 Z = true) : (Jvm.Cond.instanceMethod ({ cls := "java/lang/Record", name := "<init>", desc := "()V" } : Jvm.MethodName)).before a0 Z = true := hw _ (List.mem_of_getElem? (i := 11) rfl)
theorem own_w13 {Z : State} {a0 : Array Value} (hw : ∀ d ∈ tables_1, d.before a0 Z = true) : (Jvm.Cond.initialized "java/lang/Record").before a0 Z = true := hw _ (List.mem_of_getElem? (i := 13) rfl)
theorem own_w14 {Z : State} {a0 : Array Value} (hw : ∀ d ∈ tables_1, d.before a0 Z = true) : (Jvm.Cond.code ({ cls := "java/lang/Record", name := "<init>", desc := "()V" } : Jvm.MethodName) jdk_30_method_1_code (1 : Nat) (Option.none : Option Jvm.ClassFile.FieldType)).before a0 Z = true := hw _ (List.mem_of_getElem? (i := 14) rfl)
theorem own_w15 {Z : State} {a0 : Array Value} (hw : ∀ d ∈ tables_1, d.before a0 Z = true) : (Jvm.Cond.methodLink "java/lang/Record" (1 : Nat) ({ cls := "java/lang/Object", name := "<init>", desc := "()V" } : Jvm.MethodName)).before a0 Z = true := hw _ (List.mem_of_getElem? (i := 15) rfl)
theorem own_w16 {Z : State} {a0 : Array Value} (hw : ∀ d ∈ tables_1, d.before a0 Z = true) : (Jvm.Cond.instanceMethod ({ cls := "java/lang/Object", name := "<init>", desc := "()V" } : Jvm.MethodName)).before a0 Z = true := hw _ (List.mem_of_getElem? (i := 16) rfl)
theorem own_w17 {Z : State} {a0 : Array Value} (hw : ∀ d ∈ tables_1, d.before a0 Z = true) : (Jvm.Cond.code ({ cls := "java/lang/Object", name := "<init>", desc := "()V" } : Jvm.MethodName) object_method_1_code (1 : Nat) (Option.none : Option Jvm.ClassFile.FieldType)).before a0 Z = true := hw _ (List.mem_of_getElem? (i := 17) rfl)
theorem own_w18 {Z : State} {a0 : Array Value} (hw : ∀ d ∈ tables_1, d.before a0 Z = true) : (Jvm.Cond.fieldLink "com/example/wattfloor/wattfloor/market/Window" (7 : Nat) "com/example/wattfloor/wattfloor/market/Window" "begin" "I").before a0 Z = true := hw _ (List.mem_of_getElem? (i := 18) rfl)
theorem own_w19 {Z : State} {a0 : Array Value} (hw : ∀ d ∈ tables_1, d.before a0 Z = true) : (Jvm.Cond.laysFinal "com/example/wattfloor/wattfloor/market/Window" "com/example/wattfloor/wattfloor/market/Window" "begin" "I").before a0 Z = true := hw _ (List.mem_of_getElem? (i := 19) rfl)
theorem own_w20 {Z : State} {a0 : Array Value} (hw : ∀ d ∈ tables_1, d.before a0 Z = true) : (Jvm.Cond.fieldLink "com/example/wattfloor/wattfloor/market/Window" (13 : Nat) "com/example/wattfloor/wattfloor/market/Window" "end" "I").before a0 Z = true := hw _ (List.mem_of_getElem? (i := 20) rfl)
theorem own_w21 {Z : State} {a0 : Array Value} (hw : ∀ d ∈ tables_1, d.before a0 Z = true) : (Jvm.Cond.laysFinal "com/example/wattfloor/wattfloor/market/Window" "com/example/wattfloor/wattfloor/market/Window" "end" "I").before a0 Z = true := hw _ (List.mem_of_getElem? (i := 21) rfl)
theorem own_w22 {Z : State} {a0 : Array Value} (hw : ∀ d ∈ tables_1, d.before a0 Z = true) : (Jvm.Cond.methodLink "com/example/wattfloor/wattfloor/market/WindowContainsPinLaw" (20 : Nat) ({ cls := "com/example/wattfloor/wattfloor/market/Window", name := "contains", desc := "(I)Z" } : Jvm.MethodName)).before a0 Z = true := hw _ (List.mem_of_getElem? (i := 22) rfl)
theorem own_w23 {Z : State} {a0 : Array Value} (hw : ∀ d ∈ tables_1, d.before a0 Z = true) : (Jvm.Cond.declares ({ cls := "com/example/wattfloor/wattfloor/market/Window", name := "contains", desc := "(I)Z" } : Jvm.MethodName)).before a0 Z = true := hw _ (List.mem_of_getElem? (i := 23) rfl)
theorem own_w24 {Z : State} {a0 : Array Value} (hw : ∀ d ∈ tables_1, d.before a0 Z = true) : (Jvm.Cond.instanceMethod ({ cls := "com/example/wattfloor/wattfloor/market/Window", name := "contains", desc := "(I)Z" } : Jvm.MethodName)).before a0 Z = true := hw _ (List.mem_of_getElem? (i := 24) rfl)
theorem own_w25 {Z : State} {a0 : Array Value} (hw : ∀ d ∈ tables_1, d.before a0 Z = true) : (Jvm.Cond.selects "com/example/wattfloor/wattfloor/market/Window" ({ cls := "com/example/wattfloor/wattfloor/market/Window", name := "contains", desc := "(I)Z" } : Jvm.MethodName) ({ cls := "com/example/wattfloor/wattfloor/market/Window", name := "contains", desc := "(I)Z" } : Jvm.MethodName)).before a0 Z = true := hw _ (List.mem_of_getElem? (i := 25) rfl)
theorem own_w26 {Z : State} {a0 : Array Value} (hw : ∀ d ∈ tables_1, d.before a0 Z = true) : (Jvm.Cond.code ({ cls := "com/example/wattfloor/wattfloor/market/Window", name := "contains", desc := "(I)Z" } : Jvm.MethodName) prog_130_method_2_code (2 : Nat) (Option.some Jvm.ClassFile.FieldType.boolean)).before a0 Z = true := hw _ (List.mem_of_getElem? (i := 26) rfl)
theorem own_w27 {Z : State} {a0 : Array Value} (hw : ∀ d ∈ tables_1, d.before a0 Z = true) : (Jvm.Cond.methodLink "com/example/wattfloor/wattfloor/market/WindowContainsPinLaw" (24 : Nat) ({ cls := "com/example/wattfloor/wattfloor/market/WindowContainsPinLaw", name := "unsignedDistance", desc := "(II)J" } : Jvm.MethodName)).before a0 Z = true := hw _ (List.mem_of_getElem? (i := 27) rfl)
theorem own_w28 {Z : State} {a0 : Array Value} (hw : ∀ d ∈ tables_1, d.before a0 Z = true) : (Jvm.Cond.static ({ cls := "com/example/wattfloor/wattfloor/market/WindowContainsPinLaw", name := "unsignedDistance", desc := "(II)J" } : Jvm.MethodName)).before a0 Z = true := hw _ (List.mem_of_getElem? (i := 28) rfl)
theorem own_w29 {Z : State} {a0 : Array Value} (hw : ∀ d ∈ tables_1, d.before a0 Z = true) : (Jvm.Cond.code ({ cls := "com/example/wattfloor/wattfloor/market/WindowContainsPinLaw", name := "unsignedDistance", desc := "(II)J" } : Jvm.MethodName) method_2_code (2 : Nat) (Option.some Jvm.ClassFile.FieldType.long)).before a0 Z = true := hw _ (List.mem_of_getElem? (i := 29) rfl)
theorem own_w30 {Z : State} {a0 : Array Value} (hw : ∀ d ∈ tables_1, d.before a0 Z = true) : (Jvm.Cond.constantLong "com/example/wattfloor/wattfloor/market/WindowContainsPinLaw" (7 : Nat) (4294967295 : Int64)).before a0 Z = true := hw _ (List.mem_of_getElem? (i := 30) rfl)
theorem own_d1_0 : decode method_3_code 0 = .ok (.iload_n 3, 1) := by decide +kernel
theorem own_d1_1 : decode method_3_code 1 = .ok (.bipush 7, 2) := by decide +kernel
theorem own_d1_3 : decode method_3_code 3 = .ok (.iand, 1) := by decide +kernel
theorem own_d1_4 : decode method_3_code 4 = .ok (.istore 4, 2) := by decide +kernel
theorem own_d1_6 : decode method_3_code 6 = .ok (.iload 4, 2) := by decide +kernel
theorem own_d1_8 : decode method_3_code 8 = .ok (.ifCond .ne 5, 3) := by decide +kernel
theorem own_d1_11 : decode method_3_code 11 = .ok (.iload_n 0, 1) := by decide +kernel
theorem own_d1_12 : decode method_3_code 12 = .ok (.ireturn, 1) := by decide +kernel
theorem own_d1_13 : decode method_3_code 13 = .ok (.iload 4, 2) := by decide +kernel
theorem own_d1_15 : decode method_3_code 15 = .ok (.iconst 1, 1) := by decide +kernel
theorem own_d1_16 : decode method_3_code 16 = .ok (.if_icmp .ne 5, 3) := by decide +kernel
theorem own_d1_19 : decode method_3_code 19 = .ok (.iload_n 1, 1) := by decide +kernel
theorem own_d1_20 : decode method_3_code 20 = .ok (.ireturn, 1) := by decide +kernel
theorem own_d1_21 : decode method_3_code 21 = .ok (.iload 4, 2) := by decide +kernel
theorem own_d1_23 : decode method_3_code 23 = .ok (.iconst 2, 1) := by decide +kernel
theorem own_d1_24 : decode method_3_code 24 = .ok (.if_icmp .ne 7, 3) := by decide +kernel
theorem own_d1_27 : decode method_3_code 27 = .ok (.iload_n 0, 1) := by decide +kernel
theorem own_d1_28 : decode method_3_code 28 = .ok (.iconst 1, 1) := by decide +kernel
theorem own_d1_29 : decode method_3_code 29 = .ok (.isub, 1) := by decide +kernel
theorem own_d1_30 : decode method_3_code 30 = .ok (.ireturn, 1) := by decide +kernel
theorem own_d1_31 : decode method_3_code 31 = .ok (.iload 4, 2) := by decide +kernel
theorem own_d1_33 : decode method_3_code 33 = .ok (.iconst 3, 1) := by decide +kernel
theorem own_d1_34 : decode method_3_code 34 = .ok (.if_icmp .ne 7, 3) := by decide +kernel
theorem own_d1_37 : decode method_3_code 37 = .ok (.iload_n 1, 1) := by decide +kernel
theorem own_d1_38 : decode method_3_code 38 = .ok (.iconst 1, 1) := by decide +kernel
theorem own_d1_39 : decode method_3_code 39 = .ok (.iadd, 1) := by decide +kernel
theorem own_d1_40 : decode method_3_code 40 = .ok (.ireturn, 1) := by decide +kernel
theorem own_d1_41 : decode method_3_code 41 = .ok (.iload 4, 2) := by decide +kernel
theorem own_d1_43 : decode method_3_code 43 = .ok (.iconst 4, 1) := by decide +kernel
theorem own_d1_44 : decode method_3_code 44 = .ok (.if_icmp .ne 7, 3) := by decide +kernel
theorem own_d1_47 : decode method_3_code 47 = .ok (.iload_n 0, 1) := by decide +kernel
theorem own_d1_48 : decode method_3_code 48 = .ok (.iconst 1, 1) := by decide +kernel
theorem own_d1_49 : decode method_3_code 49 = .ok (.iadd, 1) := by decide +kernel
theorem own_d1_50 : decode method_3_code 50 = .ok (.ireturn, 1) := by decide +kernel
theorem own_d1_51 : decode method_3_code 51 = .ok (.iload 4, 2) := by decide +kernel
theorem own_d1_53 : decode method_3_code 53 = .ok (.iconst 5, 1) := by decide +kernel
theorem own_d1_54 : decode method_3_code 54 = .ok (.if_icmp .ne 7, 3) := by decide +kernel
theorem own_d1_57 : decode method_3_code 57 = .ok (.iload_n 1, 1) := by decide +kernel
theorem own_d1_58 : decode method_3_code 58 = .ok (.iconst 1, 1) := by decide +kernel
theorem own_d1_59 : decode method_3_code 59 = .ok (.isub, 1) := by decide +kernel
theorem own_d1_60 : decode method_3_code 60 = .ok (.ireturn, 1) := by decide +kernel
theorem own_d1_61 : decode method_3_code 61 = .ok (.iload_n 2, 1) := by decide +kernel
theorem own_d1_62 : decode method_3_code 62 = .ok (.ireturn, 1) := by decide +kernel
theorem own_d2_0 : decode prog_130_method_1_code 0 = .ok (.aload_n 0, 1) := by decide +kernel
theorem own_d2_1 : decode prog_130_method_1_code 1 = .ok (.invokespecial 1, 3) := by decide +kernel
theorem own_d2_4 : decode prog_130_method_1_code 4 = .ok (.aload_n 0, 1) := by decide +kernel
theorem own_d2_5 : decode prog_130_method_1_code 5 = .ok (.iload_n 1, 1) := by decide +kernel
theorem own_d2_6 : decode prog_130_method_1_code 6 = .ok (.putfield 7, 3) := by decide +kernel
theorem own_d2_9 : decode prog_130_method_1_code 9 = .ok (.aload_n 0, 1) := by decide +kernel
theorem own_d2_10 : decode prog_130_method_1_code 10 = .ok (.iload_n 2, 1) := by decide +kernel
theorem own_d2_11 : decode prog_130_method_1_code 11 = .ok (.putfield 13, 3) := by decide +kernel
theorem own_d2_14 : decode prog_130_method_1_code 14 = .ok (.return_, 1) := by decide +kernel
theorem own_d3_0 : decode jdk_30_method_1_code 0 = .ok (.aload_n 0, 1) := by decide +kernel
theorem own_d3_1 : decode jdk_30_method_1_code 1 = .ok (.invokespecial 1, 3) := by decide +kernel
theorem own_d3_4 : decode jdk_30_method_1_code 4 = .ok (.return_, 1) := by decide +kernel
theorem own_d5_0 : decode prog_130_method_2_code 0 = .ok (.aload_n 0, 1) := by decide +kernel
theorem own_d5_1 : decode prog_130_method_2_code 1 = .ok (.getfield 7, 3) := by decide +kernel
theorem own_d5_4 : decode prog_130_method_2_code 4 = .ok (.aload_n 0, 1) := by decide +kernel
theorem own_d5_5 : decode prog_130_method_2_code 5 = .ok (.getfield 13, 3) := by decide +kernel
theorem own_d5_8 : decode prog_130_method_2_code 8 = .ok (.if_icmp .gt 27, 3) := by decide +kernel
theorem own_d5_11 : decode prog_130_method_2_code 11 = .ok (.iload_n 1, 1) := by decide +kernel
theorem own_d5_12 : decode prog_130_method_2_code 12 = .ok (.aload_n 0, 1) := by decide +kernel
theorem own_d5_13 : decode prog_130_method_2_code 13 = .ok (.getfield 7, 3) := by decide +kernel
theorem own_d5_16 : decode prog_130_method_2_code 16 = .ok (.if_icmp .lt 15, 3) := by decide +kernel
theorem own_d5_19 : decode prog_130_method_2_code 19 = .ok (.iload_n 1, 1) := by decide +kernel
theorem own_d5_20 : decode prog_130_method_2_code 20 = .ok (.aload_n 0, 1) := by decide +kernel
theorem own_d5_21 : decode prog_130_method_2_code 21 = .ok (.getfield 13, 3) := by decide +kernel
theorem own_d5_24 : decode prog_130_method_2_code 24 = .ok (.if_icmp .gt 7, 3) := by decide +kernel
theorem own_d5_27 : decode prog_130_method_2_code 27 = .ok (.iconst 1, 1) := by decide +kernel
theorem own_d5_28 : decode prog_130_method_2_code 28 = .ok (.goto 28, 3) := by decide +kernel
theorem own_d5_31 : decode prog_130_method_2_code 31 = .ok (.iconst 0, 1) := by decide +kernel
theorem own_d5_32 : decode prog_130_method_2_code 32 = .ok (.goto 24, 3) := by decide +kernel
theorem own_d5_35 : decode prog_130_method_2_code 35 = .ok (.iload_n 1, 1) := by decide +kernel
theorem own_d5_36 : decode prog_130_method_2_code 36 = .ok (.aload_n 0, 1) := by decide +kernel
theorem own_d5_37 : decode prog_130_method_2_code 37 = .ok (.getfield 7, 3) := by decide +kernel
theorem own_d5_40 : decode prog_130_method_2_code 40 = .ok (.if_icmp .ge 11, 3) := by decide +kernel
theorem own_d5_43 : decode prog_130_method_2_code 43 = .ok (.iload_n 1, 1) := by decide +kernel
theorem own_d5_44 : decode prog_130_method_2_code 44 = .ok (.aload_n 0, 1) := by decide +kernel
theorem own_d5_45 : decode prog_130_method_2_code 45 = .ok (.getfield 13, 3) := by decide +kernel
theorem own_d5_48 : decode prog_130_method_2_code 48 = .ok (.if_icmp .gt 7, 3) := by decide +kernel
theorem own_d5_51 : decode prog_130_method_2_code 51 = .ok (.iconst 1, 1) := by decide +kernel
theorem own_d5_52 : decode prog_130_method_2_code 52 = .ok (.goto 4, 3) := by decide +kernel
theorem own_d5_55 : decode prog_130_method_2_code 55 = .ok (.iconst 0, 1) := by decide +kernel
theorem own_d5_56 : decode prog_130_method_2_code 56 = .ok (.ireturn, 1) := by decide +kernel
theorem own_d6_0 : decode method_2_code 0 = .ok (.iload_n 1, 1) := by decide +kernel
theorem own_d6_1 : decode method_2_code 1 = .ok (.iload_n 0, 1) := by decide +kernel
theorem own_d6_2 : decode method_2_code 2 = .ok (.isub, 1) := by decide +kernel
theorem own_d6_3 : decode method_2_code 3 = .ok (.i2l, 1) := by decide +kernel
theorem own_d6_4 : decode method_2_code 4 = .ok (.ldc2_w 7, 3) := by decide +kernel
theorem own_d6_7 : decode method_2_code 7 = .ok (.land, 1) := by decide +kernel
theorem own_d6_8 : decode method_2_code 8 = .ok (.lreturn, 1) := by decide +kernel
theorem own_pd0 : parseMethodDescriptor "()V" = some ⟨[], none⟩ := by decide +kernel
theorem own_pd1 : parseMethodDescriptor "(IIII)I" = some ⟨[.int, .int, .int, .int], some .int⟩ := by decide +kernel
theorem own_pd2 : parseMethodDescriptor "(II)V" = some ⟨[.int, .int], none⟩ := by decide +kernel
theorem own_pd3 : parseMethodDescriptor "(I)Z" = some ⟨[.int], some .boolean⟩ := by decide +kernel
theorem own_pd4 : parseMethodDescriptor "(II)J" = some ⟨[.int, .int], some .long⟩ := by decide +kernel
theorem own_pn0 : plainName "com/example/wattfloor/wattfloor/market/WindowContainsPinLaw" = true := by first | (simp [plainName, overriddenIn]; done) | decide +kernel
theorem own_pn1 : plainName "java/lang/Record" = true := by first | (simp [plainName, overriddenIn]; done) | decide +kernel
theorem own_pn2 : plainName "com/example/wattfloor/wattfloor/market/Window" = true := by first | (simp [plainName, overriddenIn]; done) | decide +kernel
def own_pick (b e r q : Int32) : Int32 := if (q &&& (7 : Int32)) = (0 : Int32) then b else if (q &&& (7 : Int32)) = (1 : Int32) then e else if (q &&& (7 : Int32)) = (2 : Int32) then b - 1 else if (q &&& (7 : Int32)) = (3 : Int32) then e + 1 else if (q &&& (7 : Int32)) = (4 : Int32) then b + 1 else if (q &&& (7 : Int32)) = (5 : Int32) then e - 1 else r
def own_dist (f t : Int32) : Int64 := ((t - f).toInt64) &&& (4294967295 : Int64)
def own_cont (b e x : Int32) : Int32 := if e < b then (if x < b then (if e < x then 0 else 1) else 1) else (if x < b then 0 else if e < x then 0 else 1)
theorem own_dist_eq (f t : Int32) : (own_dist f t).toInt = (t.toInt - f.toInt) % 4294967296 := by
  have h := c_maskL (t - f).toInt64 (4294967295 : Int64) 32 (by decide) (by decide)
  have h2 := c_isub t f
  have h3 := c_i2l (t - f)
  have h4 := rng32 (t - f)
  show ((t - f).toInt64 &&& (4294967295 : Int64)).toInt = _
  rw [h, h3]
  simp only [show ((2 ^ 32 : Nat) : Int) = 4294967296 from rfl]
  omega
theorem own_law (b e x : Int32) : (own_cont b e x = 1 ↔ ¬ own_dist b e < own_dist b x) ∧ (own_cont b e x = 0 ∨ own_cont b e x = 1) := by
  have h1 := own_dist_eq b e
  have h2 := own_dist_eq b x
  have r1 := rng32 b; have r2 := rng32 e; have r3 := rng32 x
  simp only [own_cont, Int64.lt_iff_toInt_lt, Int32.lt_iff_toInt_lt, h1, h2]
  (repeat' split) <;> refine ⟨?_, by decide⟩ <;> simp <;> omega

def own_rm1_Q (Z : State) (x0 : Int32) (x1 : Int32) (x2 : Int32) (x3 : Int32)  (h0 : Heap) (n0 : Nat) : Option Value → Heap → List Loc → Prop := fun v h L => v = some (Value.int (own_pick x0 x1 x2 x3)) ∧ h = h0 ∧ Fr n0 L
theorem own_rm1_ef (m : MethodId) (x0 : Int32) (x1 : Int32) (x2 : Int32) (x3 : Int32)  : entryFrame m #[(Value.int x0), (Value.int x1), (Value.int x2), (Value.int x3)] 5 = mkF m 0 #[.val (Value.int x0), .val (Value.int x1), .val (Value.int x2), .val (Value.int x3), .unset] [] := by first | (simp [entryFrame, mkF, argsToLocals, Value.category]; done) | rfl
set_option maxRecDepth 65536 in
set_option maxHeartbeats 40000000 in
theorem own_rm1 (l : Launch) (Z : State) (a0 : Array Value) (hw : ∀ d ∈ tables_1, d.before a0 Z = true) (ws : List Jvm.Cond) (x0 : Int32) (x1 : Int32) (x2 : Int32) (x3 : Int32)  (h0 : Heap) (n0 : Nat) (O0 : Old Z n0 h0)  :
    MetFree l (⟨"com/example/wattfloor/wattfloor/market/WindowContainsPinLaw", "pickValue", "(IIII)I"⟩ : MethodName) (head1 (Jvm.Cond.code (⟨"com/example/wattfloor/wattfloor/market/WindowContainsPinLaw", "pickValue", "(IIII)I"⟩ : MethodName) method_3_code 5 (some .int) :: ws) ({ frames := 0, cells := 0, slots := 0, locals := 0 } : Room)) (fun aa_ U => aa_ = #[(Value.int x0), (Value.int x1), (Value.int x2), (Value.int x3)] ∧ Z.Warmed39 U.vm ∧ U.heap = h0) (fun _ _ _ _ _ => True) (fun _ U o U' => ∃ v L, o = .returned v ∧ (own_rm1_Q Z x0 x1 x2 x3 h0 n0) v U'.heap L ∧ FrameEnd U o U' L ({ frames := 0, cells := 0, slots := 0, locals := 0 } : Room).cells ({ frames := 0, cells := 0, slots := 0, locals := 0 } : Room).slots) := by
  refine MetFree.of_bodySF (plainFor_of_name own_pn0) hisR ?_
  intro p e s m args below meth c s₁ Bd hml0 hP hK
  obtain ⟨rfl, hZ, hh⟩ := hP
  have hx := Bd.exec
  have hby := Bd.bytes
  have hml : c.maxLocals = 5 := hml0
  have hown : s.vm.findClass "com/example/wattfloor/wattfloor/market/WindowContainsPinLaw" = some m.cls := findClass_of_methodNamed Bd.named
  have hnm := (name_of_methodNamed Bd.named Bd.method).1
  have hlk : meth.locks = false := BodyLoose.notSynchronized Bd
  have X0 : Stand p l e ({ frames := 0, cells := 0, slots := 0, locals := 0 } : Room) s m #[(Value.int x0), (Value.int x1), (Value.int x2), (Value.int x3)] below meth c s₁ [] 0 0 := Stand.of_body Bd
  have e0 : s₁.heap = h0 := by rw [← hh, Bd.state]; rfl
  have N0 := Fr.nil n0
  show own_G p e below s (own_rm1_Q Z x0 x1 x2 x3 h0 n0) ({ frames := 0, cells := 0, slots := 0, locals := 0 } : Room).cells ({ frames := 0, cells := 0, slots := 0, locals := 0 } : Room).slots (s₁.setTop (entryFrame m #[(Value.int x0), (Value.int x1), (Value.int x2), (Value.int x3)] 5))
  refine own_cast (own_rm1_ef m x0 x1 x2 x3 ) ?_
  show own_G p e below s _ _ _ (s₁.setTop (mkF m 0 #[.val (Value.int x0), .val (Value.int x1), .val (Value.int x2), .val (Value.int x3), .unset] []))
  refine own_iloadN X0 hx hby own_d1_0 rfl ?_
  show own_G p e below s _ _ _ (s₁.setTop (mkF m 1 #[.val (Value.int x0), .val (Value.int x1), .val (Value.int x2), .val (Value.int x3), .unset] [(Value.int x3)]))
  refine own_bipush X0 hx hby own_d1_1 ?_
  show own_G p e below s _ _ _ (s₁.setTop (mkF m 3 #[.val (Value.int x0), .val (Value.int x1), .val (Value.int x2), .val (Value.int x3), .unset] [(Value.int (7 : Int32)), (Value.int x3)]))
  refine own_iand X0 hx hby own_d1_3 ?_
  show own_G p e below s _ _ _ (s₁.setTop (mkF m 4 #[.val (Value.int x0), .val (Value.int x1), .val (Value.int x2), .val (Value.int x3), .unset] [(Value.int (x3 &&& (7 : Int32)))]))
  refine own_istore X0 hx hby own_d1_4 (l' := #[.val (Value.int x0), .val (Value.int x1), .val (Value.int x2), .val (Value.int x3), .val (Value.int (x3 &&& (7 : Int32)))]) rfl ?_
  show own_G p e below s _ _ _ (s₁.setTop (mkF m 6 #[.val (Value.int x0), .val (Value.int x1), .val (Value.int x2), .val (Value.int x3), .val (Value.int (x3 &&& (7 : Int32)))] []))
  refine own_iload X0 hx hby own_d1_6 rfl ?_
  show own_G p e below s _ _ _ (s₁.setTop (mkF m 8 #[.val (Value.int x0), .val (Value.int x1), .val (Value.int x2), .val (Value.int x3), .val (Value.int (x3 &&& (7 : Int32)))] [(Value.int (x3 &&& (7 : Int32)))]))
  refine own_if_ne X0 hx hby own_d1_8 (pc' := 13) (by decide) (by decide) (fun hb1 => ?_) (fun hb1 => ?_)
  · show own_G p e below s _ _ _ (s₁.setTop (mkF m 13 #[.val (Value.int x0), .val (Value.int x1), .val (Value.int x2), .val (Value.int x3), .val (Value.int (x3 &&& (7 : Int32)))] []))
    refine own_iload X0 hx hby own_d1_13 rfl ?_
    show own_G p e below s _ _ _ (s₁.setTop (mkF m 15 #[.val (Value.int x0), .val (Value.int x1), .val (Value.int x2), .val (Value.int x3), .val (Value.int (x3 &&& (7 : Int32)))] [(Value.int (x3 &&& (7 : Int32)))]))
    refine own_iconst X0 hx hby own_d1_15 ?_
    show own_G p e below s _ _ _ (s₁.setTop (mkF m 16 #[.val (Value.int x0), .val (Value.int x1), .val (Value.int x2), .val (Value.int x3), .val (Value.int (x3 &&& (7 : Int32)))] [(Value.int (1 : Int32)), (Value.int (x3 &&& (7 : Int32)))]))
    refine own_icmp_ne X0 hx hby own_d1_16 (pc' := 21) (by decide) (by decide) (fun hb2 => ?_) (fun hb2 => ?_)
    · show own_G p e below s _ _ _ (s₁.setTop (mkF m 21 #[.val (Value.int x0), .val (Value.int x1), .val (Value.int x2), .val (Value.int x3), .val (Value.int (x3 &&& (7 : Int32)))] []))
      refine own_iload X0 hx hby own_d1_21 rfl ?_
      show own_G p e below s _ _ _ (s₁.setTop (mkF m 23 #[.val (Value.int x0), .val (Value.int x1), .val (Value.int x2), .val (Value.int x3), .val (Value.int (x3 &&& (7 : Int32)))] [(Value.int (x3 &&& (7 : Int32)))]))
      refine own_iconst X0 hx hby own_d1_23 ?_
      show own_G p e below s _ _ _ (s₁.setTop (mkF m 24 #[.val (Value.int x0), .val (Value.int x1), .val (Value.int x2), .val (Value.int x3), .val (Value.int (x3 &&& (7 : Int32)))] [(Value.int (2 : Int32)), (Value.int (x3 &&& (7 : Int32)))]))
      refine own_icmp_ne X0 hx hby own_d1_24 (pc' := 31) (by decide) (by decide) (fun hb3 => ?_) (fun hb3 => ?_)
      · show own_G p e below s _ _ _ (s₁.setTop (mkF m 31 #[.val (Value.int x0), .val (Value.int x1), .val (Value.int x2), .val (Value.int x3), .val (Value.int (x3 &&& (7 : Int32)))] []))
        refine own_iload X0 hx hby own_d1_31 rfl ?_
        show own_G p e below s _ _ _ (s₁.setTop (mkF m 33 #[.val (Value.int x0), .val (Value.int x1), .val (Value.int x2), .val (Value.int x3), .val (Value.int (x3 &&& (7 : Int32)))] [(Value.int (x3 &&& (7 : Int32)))]))
        refine own_iconst X0 hx hby own_d1_33 ?_
        show own_G p e below s _ _ _ (s₁.setTop (mkF m 34 #[.val (Value.int x0), .val (Value.int x1), .val (Value.int x2), .val (Value.int x3), .val (Value.int (x3 &&& (7 : Int32)))] [(Value.int (3 : Int32)), (Value.int (x3 &&& (7 : Int32)))]))
        refine own_icmp_ne X0 hx hby own_d1_34 (pc' := 41) (by decide) (by decide) (fun hb4 => ?_) (fun hb4 => ?_)
        · show own_G p e below s _ _ _ (s₁.setTop (mkF m 41 #[.val (Value.int x0), .val (Value.int x1), .val (Value.int x2), .val (Value.int x3), .val (Value.int (x3 &&& (7 : Int32)))] []))
          refine own_iload X0 hx hby own_d1_41 rfl ?_
          show own_G p e below s _ _ _ (s₁.setTop (mkF m 43 #[.val (Value.int x0), .val (Value.int x1), .val (Value.int x2), .val (Value.int x3), .val (Value.int (x3 &&& (7 : Int32)))] [(Value.int (x3 &&& (7 : Int32)))]))
          refine own_iconst X0 hx hby own_d1_43 ?_
          show own_G p e below s _ _ _ (s₁.setTop (mkF m 44 #[.val (Value.int x0), .val (Value.int x1), .val (Value.int x2), .val (Value.int x3), .val (Value.int (x3 &&& (7 : Int32)))] [(Value.int (4 : Int32)), (Value.int (x3 &&& (7 : Int32)))]))
          refine own_icmp_ne X0 hx hby own_d1_44 (pc' := 51) (by decide) (by decide) (fun hb5 => ?_) (fun hb5 => ?_)
          · show own_G p e below s _ _ _ (s₁.setTop (mkF m 51 #[.val (Value.int x0), .val (Value.int x1), .val (Value.int x2), .val (Value.int x3), .val (Value.int (x3 &&& (7 : Int32)))] []))
            refine own_iload X0 hx hby own_d1_51 rfl ?_
            show own_G p e below s _ _ _ (s₁.setTop (mkF m 53 #[.val (Value.int x0), .val (Value.int x1), .val (Value.int x2), .val (Value.int x3), .val (Value.int (x3 &&& (7 : Int32)))] [(Value.int (x3 &&& (7 : Int32)))]))
            refine own_iconst X0 hx hby own_d1_53 ?_
            show own_G p e below s _ _ _ (s₁.setTop (mkF m 54 #[.val (Value.int x0), .val (Value.int x1), .val (Value.int x2), .val (Value.int x3), .val (Value.int (x3 &&& (7 : Int32)))] [(Value.int (5 : Int32)), (Value.int (x3 &&& (7 : Int32)))]))
            refine own_icmp_ne X0 hx hby own_d1_54 (pc' := 61) (by decide) (by decide) (fun hb6 => ?_) (fun hb6 => ?_)
            · show own_G p e below s _ _ _ (s₁.setTop (mkF m 61 #[.val (Value.int x0), .val (Value.int x1), .val (Value.int x2), .val (Value.int x3), .val (Value.int (x3 &&& (7 : Int32)))] []))
              refine own_iloadN X0 hx hby own_d1_61 rfl ?_
              show own_G p e below s _ _ _ (s₁.setTop (mkF m 62 #[.val (Value.int x0), .val (Value.int x1), .val (Value.int x2), .val (Value.int x3), .val (Value.int (x3 &&& (7 : Int32)))] [(Value.int x2)]))
              refine own_retI X0 hx hby hlk Bd.returns own_d1_62 (by decide) (by decide) ?_
              refine ⟨?_, e0, N0⟩
              show some (Value.int x2) = some (Value.int (own_pick x0 x1 x2 x3))
              simp only [own_pick, if_neg hb1, if_neg hb2, if_neg hb3, if_neg hb4, if_neg hb5, if_neg hb6]
            · show own_G p e below s _ _ _ (s₁.setTop (mkF m 57 #[.val (Value.int x0), .val (Value.int x1), .val (Value.int x2), .val (Value.int x3), .val (Value.int (x3 &&& (7 : Int32)))] []))
              refine own_iloadN X0 hx hby own_d1_57 rfl ?_
              show own_G p e below s _ _ _ (s₁.setTop (mkF m 58 #[.val (Value.int x0), .val (Value.int x1), .val (Value.int x2), .val (Value.int x3), .val (Value.int (x3 &&& (7 : Int32)))] [(Value.int x1)]))
              refine own_iconst X0 hx hby own_d1_58 ?_
              show own_G p e below s _ _ _ (s₁.setTop (mkF m 59 #[.val (Value.int x0), .val (Value.int x1), .val (Value.int x2), .val (Value.int x3), .val (Value.int (x3 &&& (7 : Int32)))] [(Value.int (1 : Int32)), (Value.int x1)]))
              refine own_isub X0 hx hby own_d1_59 ?_
              show own_G p e below s _ _ _ (s₁.setTop (mkF m 60 #[.val (Value.int x0), .val (Value.int x1), .val (Value.int x2), .val (Value.int x3), .val (Value.int (x3 &&& (7 : Int32)))] [(Value.int (x1 - (1 : Int32)))]))
              refine own_retI X0 hx hby hlk Bd.returns own_d1_60 (by decide) (by decide) ?_
              refine ⟨?_, e0, N0⟩
              show some (Value.int (x1 - (1 : Int32))) = some (Value.int (own_pick x0 x1 x2 x3))
              simp only [own_pick, if_neg hb1, if_neg hb2, if_neg hb3, if_neg hb4, if_neg hb5, if_pos hb6]
          · show own_G p e below s _ _ _ (s₁.setTop (mkF m 47 #[.val (Value.int x0), .val (Value.int x1), .val (Value.int x2), .val (Value.int x3), .val (Value.int (x3 &&& (7 : Int32)))] []))
            refine own_iloadN X0 hx hby own_d1_47 rfl ?_
            show own_G p e below s _ _ _ (s₁.setTop (mkF m 48 #[.val (Value.int x0), .val (Value.int x1), .val (Value.int x2), .val (Value.int x3), .val (Value.int (x3 &&& (7 : Int32)))] [(Value.int x0)]))
            refine own_iconst X0 hx hby own_d1_48 ?_
            show own_G p e below s _ _ _ (s₁.setTop (mkF m 49 #[.val (Value.int x0), .val (Value.int x1), .val (Value.int x2), .val (Value.int x3), .val (Value.int (x3 &&& (7 : Int32)))] [(Value.int (1 : Int32)), (Value.int x0)]))
            refine own_iadd X0 hx hby own_d1_49 ?_
            show own_G p e below s _ _ _ (s₁.setTop (mkF m 50 #[.val (Value.int x0), .val (Value.int x1), .val (Value.int x2), .val (Value.int x3), .val (Value.int (x3 &&& (7 : Int32)))] [(Value.int (x0 + (1 : Int32)))]))
            refine own_retI X0 hx hby hlk Bd.returns own_d1_50 (by decide) (by decide) ?_
            refine ⟨?_, e0, N0⟩
            show some (Value.int (x0 + (1 : Int32))) = some (Value.int (own_pick x0 x1 x2 x3))
            simp only [own_pick, if_neg hb1, if_neg hb2, if_neg hb3, if_neg hb4, if_pos hb5]
        · show own_G p e below s _ _ _ (s₁.setTop (mkF m 37 #[.val (Value.int x0), .val (Value.int x1), .val (Value.int x2), .val (Value.int x3), .val (Value.int (x3 &&& (7 : Int32)))] []))
          refine own_iloadN X0 hx hby own_d1_37 rfl ?_
          show own_G p e below s _ _ _ (s₁.setTop (mkF m 38 #[.val (Value.int x0), .val (Value.int x1), .val (Value.int x2), .val (Value.int x3), .val (Value.int (x3 &&& (7 : Int32)))] [(Value.int x1)]))
          refine own_iconst X0 hx hby own_d1_38 ?_
          show own_G p e below s _ _ _ (s₁.setTop (mkF m 39 #[.val (Value.int x0), .val (Value.int x1), .val (Value.int x2), .val (Value.int x3), .val (Value.int (x3 &&& (7 : Int32)))] [(Value.int (1 : Int32)), (Value.int x1)]))
          refine own_iadd X0 hx hby own_d1_39 ?_
          show own_G p e below s _ _ _ (s₁.setTop (mkF m 40 #[.val (Value.int x0), .val (Value.int x1), .val (Value.int x2), .val (Value.int x3), .val (Value.int (x3 &&& (7 : Int32)))] [(Value.int (x1 + (1 : Int32)))]))
          refine own_retI X0 hx hby hlk Bd.returns own_d1_40 (by decide) (by decide) ?_
          refine ⟨?_, e0, N0⟩
          show some (Value.int (x1 + (1 : Int32))) = some (Value.int (own_pick x0 x1 x2 x3))
          simp only [own_pick, if_neg hb1, if_neg hb2, if_neg hb3, if_pos hb4]
      · show own_G p e below s _ _ _ (s₁.setTop (mkF m 27 #[.val (Value.int x0), .val (Value.int x1), .val (Value.int x2), .val (Value.int x3), .val (Value.int (x3 &&& (7 : Int32)))] []))
        refine own_iloadN X0 hx hby own_d1_27 rfl ?_
        show own_G p e below s _ _ _ (s₁.setTop (mkF m 28 #[.val (Value.int x0), .val (Value.int x1), .val (Value.int x2), .val (Value.int x3), .val (Value.int (x3 &&& (7 : Int32)))] [(Value.int x0)]))
        refine own_iconst X0 hx hby own_d1_28 ?_
        show own_G p e below s _ _ _ (s₁.setTop (mkF m 29 #[.val (Value.int x0), .val (Value.int x1), .val (Value.int x2), .val (Value.int x3), .val (Value.int (x3 &&& (7 : Int32)))] [(Value.int (1 : Int32)), (Value.int x0)]))
        refine own_isub X0 hx hby own_d1_29 ?_
        show own_G p e below s _ _ _ (s₁.setTop (mkF m 30 #[.val (Value.int x0), .val (Value.int x1), .val (Value.int x2), .val (Value.int x3), .val (Value.int (x3 &&& (7 : Int32)))] [(Value.int (x0 - (1 : Int32)))]))
        refine own_retI X0 hx hby hlk Bd.returns own_d1_30 (by decide) (by decide) ?_
        refine ⟨?_, e0, N0⟩
        show some (Value.int (x0 - (1 : Int32))) = some (Value.int (own_pick x0 x1 x2 x3))
        simp only [own_pick, if_neg hb1, if_neg hb2, if_pos hb3]
    · show own_G p e below s _ _ _ (s₁.setTop (mkF m 19 #[.val (Value.int x0), .val (Value.int x1), .val (Value.int x2), .val (Value.int x3), .val (Value.int (x3 &&& (7 : Int32)))] []))
      refine own_iloadN X0 hx hby own_d1_19 rfl ?_
      show own_G p e below s _ _ _ (s₁.setTop (mkF m 20 #[.val (Value.int x0), .val (Value.int x1), .val (Value.int x2), .val (Value.int x3), .val (Value.int (x3 &&& (7 : Int32)))] [(Value.int x1)]))
      refine own_retI X0 hx hby hlk Bd.returns own_d1_20 (by decide) (by decide) ?_
      refine ⟨?_, e0, N0⟩
      show some (Value.int x1) = some (Value.int (own_pick x0 x1 x2 x3))
      simp only [own_pick, if_neg hb1, if_pos hb2]
  · show own_G p e below s _ _ _ (s₁.setTop (mkF m 11 #[.val (Value.int x0), .val (Value.int x1), .val (Value.int x2), .val (Value.int x3), .val (Value.int (x3 &&& (7 : Int32)))] []))
    refine own_iloadN X0 hx hby own_d1_11 rfl ?_
    show own_G p e below s _ _ _ (s₁.setTop (mkF m 12 #[.val (Value.int x0), .val (Value.int x1), .val (Value.int x2), .val (Value.int x3), .val (Value.int (x3 &&& (7 : Int32)))] [(Value.int x0)]))
    refine own_retI X0 hx hby hlk Bd.returns own_d1_12 (by decide) (by decide) ?_
    refine ⟨?_, e0, N0⟩
    show some (Value.int x0) = some (Value.int (own_pick x0 x1 x2 x3))
    simp only [own_pick, if_pos hb1]
def own_rm3_Q (Z : State) (a : Addr)  (h0 : Heap) (n0 : Nat) : Option Value → Heap → List Loc → Prop := fun v h L => v = none ∧ h = h0 ∧ Fr n0 L
theorem own_rm3_ef (m : MethodId) (a : Addr)  : entryFrame m #[(Value.ref a)] 1 = mkF m 0 #[.val (Value.ref a)] [] := by first | (simp [entryFrame, mkF, argsToLocals, Value.category]; done) | rfl
set_option maxRecDepth 65536 in
set_option maxHeartbeats 40000000 in
theorem own_rm3 (l : Launch) (Z : State) (a0 : Array Value) (hw : ∀ d ∈ tables_1, d.before a0 Z = true) (ws : List Jvm.Cond) (a : Addr)  (h0 : Heap) (n0 : Nat) (O0 : Old Z n0 h0)  :
    MetFree l (⟨"java/lang/Record", "<init>", "()V"⟩ : MethodName) (head1 (Jvm.Cond.code (⟨"java/lang/Record", "<init>", "()V"⟩ : MethodName) jdk_30_method_1_code 1 none :: ws) ({ frames := 1, cells := 0, slots := 0, locals := 12 } : Room)) (fun aa_ U => aa_ = #[(Value.ref a)] ∧ Z.Warmed39 U.vm ∧ U.heap = h0) (fun _ _ _ _ _ => True) (fun _ U o U' => ∃ v L, o = .returned v ∧ (own_rm3_Q Z a h0 n0) v U'.heap L ∧ FrameEnd U o U' L ({ frames := 1, cells := 0, slots := 0, locals := 12 } : Room).cells ({ frames := 1, cells := 0, slots := 0, locals := 12 } : Room).slots) := by
  refine MetFree.of_bodySF (plainFor_of_name own_pn1) hisR ?_
  intro p e s m args below meth c s₁ Bd hml0 hP hK
  obtain ⟨rfl, hZ, hh⟩ := hP
  have hx := Bd.exec
  have hby := Bd.bytes
  have hml : c.maxLocals = 1 := hml0
  have hown : s.vm.findClass "java/lang/Record" = some m.cls := findClass_of_methodNamed Bd.named
  have hnm := (name_of_methodNamed Bd.named Bd.method).1
  have hlk : meth.locks = false := BodyLoose.notSynchronized Bd
  have X0 : Stand p l e ({ frames := 1, cells := 0, slots := 0, locals := 12 } : Room) s m #[(Value.ref a)] below meth c s₁ [] 0 0 := Stand.of_body Bd
  have e0 : s₁.heap = h0 := by rw [← hh, Bd.state]; rfl
  have N0 := Fr.nil n0
  show own_G p e below s (own_rm3_Q Z a h0 n0) ({ frames := 1, cells := 0, slots := 0, locals := 12 } : Room).cells ({ frames := 1, cells := 0, slots := 0, locals := 12 } : Room).slots (s₁.setTop (entryFrame m #[(Value.ref a)] 1))
  refine own_cast (own_rm3_ef m a ) ?_
  show own_G p e below s _ _ _ (s₁.setTop (mkF m 0 #[.val (Value.ref a)] []))
  refine own_aloadN X0 hx hby own_d3_0 rfl rfl ?_
  show own_G p e below s _ _ _ (s₁.setTop (mkF m 1 #[.val (Value.ref a)] [(Value.ref a)]))
  obtain ⟨T1, X1, e1, st1⟩ := initO X0 hx hZ hown (own_w15 hw) (own_w16 hw) (own_w17 hw) e0 (g := (mkF m 1 #[.val (Value.ref a)] [(Value.ref a)])) rfl (by rw [hml]; rfl) rfl (hb hby own_d3_1) (by decide) (W := 0) (by show 2 * 0 + _ ≤ _; exact Nat.le_of_eq rfl) (by decide)
  refine own_st st1 ?_
  show own_G p e below s _ _ _ (T1.setTop (mkF m 4 #[.val (Value.ref a)] []))
  refine own_ret0 X1 hx hby hlk Bd.returns own_d3_4 (by decide) (by decide) ?_
  refine ⟨?_, e1, N0⟩
  rfl
def own_rm2_Q (Z : State) (a : Addr) (x1 : Int32) (x2 : Int32)  (h0 : Heap) (n0 : Nat) : Option Value → Heap → List Loc → Prop := fun v h L => v = none ∧ Fr n0 L ∧ Keep h0 h [a] ∧ Exa Z h a "com/example/wattfloor/wattfloor/market/Window" ∧ Fld Z h a "com/example/wattfloor/wattfloor/market/Window" "begin" "I" (Value.int x1) ∧ Fld Z h a "com/example/wattfloor/wattfloor/market/Window" "end" "I" (Value.int x2)
theorem own_rm2_ef (m : MethodId) (a : Addr) (x1 : Int32) (x2 : Int32)  : entryFrame m #[(Value.ref a), (Value.int x1), (Value.int x2)] 3 = mkF m 0 #[.val (Value.ref a), .val (Value.int x1), .val (Value.int x2)] [] := by first | (simp [entryFrame, mkF, argsToLocals, Value.category]; done) | rfl
set_option maxRecDepth 65536 in
set_option maxHeartbeats 40000000 in
theorem own_rm2 (l : Launch) (Z : State) (a0 : Array Value) (hw : ∀ d ∈ tables_1, d.before a0 Z = true) (ws : List Jvm.Cond) (a : Addr) (x1 : Int32) (x2 : Int32)  (h0 : Heap) (n0 : Nat) (O0 : Old Z n0 h0) (E_a : Exa Z h0 a "com/example/wattfloor/wattfloor/market/Window") (F_a_begin : Fld Z h0 a "com/example/wattfloor/wattfloor/market/Window" "begin" "I" (Value.int (0 : Int32))) (F_a_end : Fld Z h0 a "com/example/wattfloor/wattfloor/market/Window" "end" "I" (Value.int (0 : Int32))) (g_a : n0 ≤ a)  :
    MetFree l (⟨"com/example/wattfloor/wattfloor/market/Window", "<init>", "(II)V"⟩ : MethodName) (head1 (Jvm.Cond.code (⟨"com/example/wattfloor/wattfloor/market/Window", "<init>", "(II)V"⟩ : MethodName) prog_130_method_1_code 3 none :: ws) ({ frames := 2, cells := 0, slots := 0, locals := 24 } : Room)) (fun aa_ U => aa_ = #[(Value.ref a), (Value.int x1), (Value.int x2)] ∧ Z.Warmed39 U.vm ∧ U.heap = h0) (fun _ _ _ _ _ => True) (fun _ U o U' => ∃ v L, o = .returned v ∧ (own_rm2_Q Z a x1 x2 h0 n0) v U'.heap L ∧ FrameEnd U o U' L ({ frames := 2, cells := 0, slots := 0, locals := 24 } : Room).cells ({ frames := 2, cells := 0, slots := 0, locals := 24 } : Room).slots) := by
  refine MetFree.of_bodySF (plainFor_of_name own_pn2) hisR ?_
  intro p e s m args below meth c s₁ Bd hml0 hP hK
  obtain ⟨rfl, hZ, hh⟩ := hP
  have hx := Bd.exec
  have hby := Bd.bytes
  have hml : c.maxLocals = 3 := hml0
  have hown : s.vm.findClass "com/example/wattfloor/wattfloor/market/Window" = some m.cls := findClass_of_methodNamed Bd.named
  have hnm := (name_of_methodNamed Bd.named Bd.method).1
  have hlk : meth.locks = false := BodyLoose.notSynchronized Bd
  have X0 : Stand p l e ({ frames := 2, cells := 0, slots := 0, locals := 24 } : Room) s m #[(Value.ref a), (Value.int x1), (Value.int x2)] below meth c s₁ [] 0 0 := Stand.of_body Bd
  have e0 : s₁.heap = h0 := by rw [← hh, Bd.state]; rfl
  have N0 := Fr.nil n0
  show own_G p e below s (own_rm2_Q Z a x1 x2 h0 n0) ({ frames := 2, cells := 0, slots := 0, locals := 24 } : Room).cells ({ frames := 2, cells := 0, slots := 0, locals := 24 } : Room).slots (s₁.setTop (entryFrame m #[(Value.ref a), (Value.int x1), (Value.int x2)] 3))
  refine own_cast (own_rm2_ef m a x1 x2 ) ?_
  show own_G p e below s _ _ _ (s₁.setTop (mkF m 0 #[.val (Value.ref a), .val (Value.int x1), .val (Value.int x2)] []))
  refine own_aloadN X0 hx hby own_d2_0 rfl rfl ?_
  show own_G p e below s _ _ _ (s₁.setTop (mkF m 1 #[.val (Value.ref a), .val (Value.int x1), .val (Value.int x2)] [(Value.ref a)]))
  obtain ⟨_, _, ⟨T1, L1, k1, n1⟩, -, X1, ⟨Lc1, hQ1, l1, y1, z1⟩, st1⟩ := X0.specialBack hx (y := (⟨"java/lang/Record", "<init>", "()V"⟩ : MethodName)) rfl hown (mvT hZ (own_w10 hw)) (mvT hZ (own_w11 hw)) (mvT hZ (own_w14 hw)) (by decide) (backOf (W := 0) (own_rm3 l Z a0 hw [] a  h0 n0 O0  ) hZ (own_w14 hw) (own_w13 hw) (by decide) (by decide)) (g := (mkF m 1 #[.val (Value.ref a), .val (Value.int x1), .val (Value.int x2)] [(Value.ref a)])) rfl (by rw [hml]; rfl) (Steps.refl _) (a := a) (argsL := []) (rest := []) (lenOf own_pd0 rfl) rfl (by show 2 * 0 + _ ≤ _; exact Nat.le_of_eq rfl) (hb hby own_d2_1) (fun _ _ => ⟨rfl, e0, (by decide : (0 : Nat) + 0 ≤ _), (by decide : (0 : Nat) + 0 ≤ _)⟩)
  dsimp only [Pt.U, Pt.locs, Pt.cells, Pt.slots] at X1 l1 y1 z1 st1 hQ1
  subst l1 y1 z1
  obtain ⟨rfl, e1, Nq1⟩ := hQ1
  have N1 := Fr.app N0 Nq1
  refine own_tr st1 ?_
  show own_G p e below s _ _ _ (T1.setTop (mkF m 4 #[.val (Value.ref a), .val (Value.int x1), .val (Value.int x2)] []))
  refine own_aloadN X1 hx hby own_d2_4 rfl rfl ?_
  show own_G p e below s _ _ _ (T1.setTop (mkF m 5 #[.val (Value.ref a), .val (Value.int x1), .val (Value.int x2)] [(Value.ref a)]))
  refine own_iloadN X1 hx hby own_d2_5 rfl ?_
  show own_G p e below s _ _ _ (T1.setTop (mkF m 6 #[.val (Value.ref a), .val (Value.int x1), .val (Value.int x2)] [(Value.int x1), (Value.ref a)]))
  obtain ⟨T2, h2, X2, e2, W2, st2⟩ := putF X1 hx hZ hown (host := "") (Or.inl (own_w18 hw)) Via.refl e1 F_a_begin E_a (Or.inr ⟨(own_w19 hw), rfl, hnm⟩) (own_w5 hw) (ty := .int) (by decide) rfl rfl (g := (mkF m 6 #[.val (Value.ref a), .val (Value.int x1), .val (Value.int x2)] [(Value.int x1), (Value.ref a)])) rfl rfl (hb hby own_d2_6)
  have F3_a_end := Fld.other W2 F_a_end (Or.inr (slot_ne (C := "com/example/wattfloor/wattfloor/market/Window") (Or.inr (own_w21 hw)) (Or.inr (own_w19 hw)) (by decide) (t := .int) (t' := .int) (by decide) (by decide)))
  have E3_a := Exa.wr W2 E_a
  have O3 := Old.wr O0 W2 g_a
  have F2w := Fld.same W2 F_a_begin
  have K2 := Keep.wr (Keep.refl h0 [a]) W2 (Or.inl (List.mem_of_getElem? (i := 0) rfl))
  have N2 := Fr.snoc X2 N1 g_a
  refine own_st st2 ?_
  show own_G p e below s _ _ _ (T2.setTop (mkF m 9 #[.val (Value.ref a), .val (Value.int x1), .val (Value.int x2)] []))
  refine own_aloadN X2 hx hby own_d2_9 rfl rfl ?_
  show own_G p e below s _ _ _ (T2.setTop (mkF m 10 #[.val (Value.ref a), .val (Value.int x1), .val (Value.int x2)] [(Value.ref a)]))
  refine own_iloadN X2 hx hby own_d2_10 rfl ?_
  show own_G p e below s _ _ _ (T2.setTop (mkF m 11 #[.val (Value.ref a), .val (Value.int x1), .val (Value.int x2)] [(Value.int x2), (Value.ref a)]))
  obtain ⟨T4, h4, X4, e4, W4, st4⟩ := putF X2 hx hZ hown (host := "") (Or.inl (own_w20 hw)) Via.refl e2 F3_a_end E3_a (Or.inr ⟨(own_w21 hw), rfl, hnm⟩) (own_w5 hw) (ty := .int) (by decide) rfl rfl (g := (mkF m 11 #[.val (Value.ref a), .val (Value.int x1), .val (Value.int x2)] [(Value.int x2), (Value.ref a)])) rfl rfl (hb hby own_d2_11)
  have F5_a_begin := Fld.other W4 F2w (Or.inr (slot_ne (C := "com/example/wattfloor/wattfloor/market/Window") (Or.inr (own_w19 hw)) (Or.inr (own_w21 hw)) (by decide) (t := .int) (t' := .int) (by decide) (by decide)))
  have E5_a := Exa.wr W4 E3_a
  have O5 := Old.wr O3 W4 g_a
  have F4w := Fld.same W4 F3_a_end
  have K4 := Keep.wr K2 W4 (Or.inl (List.mem_of_getElem? (i := 0) rfl))
  have N4 := Fr.snoc X4 N2 g_a
  refine own_st st4 ?_
  show own_G p e below s _ _ _ (T4.setTop (mkF m 14 #[.val (Value.ref a), .val (Value.int x1), .val (Value.int x2)] []))
  refine own_ret0 X4 hx hby hlk Bd.returns own_d2_14 (by decide) (by decide) ?_
  show (fun v h L => v = none ∧ Fr n0 L ∧ Keep h0 h [a] ∧ Exa Z h a "com/example/wattfloor/wattfloor/market/Window" ∧ Fld Z h a "com/example/wattfloor/wattfloor/market/Window" "begin" "I" (Value.int x1) ∧ Fld Z h a "com/example/wattfloor/wattfloor/market/Window" "end" "I" (Value.int x2)) none T4.heap _
  rw [e4]
  exact ⟨rfl, N4, K4, E5_a, F5_a_begin, F4w⟩
def own_rm5_Q (Z : State) (a : Addr) (x1 : Int32) (y0 y1 : Int32) (h0 : Heap) (n0 : Nat) : Option Value → Heap → List Loc → Prop := fun v h L => v = some (Value.int (own_cont y0 y1 x1)) ∧ h = h0 ∧ Fr n0 L
theorem own_rm5_ef (m : MethodId) (a : Addr) (x1 : Int32)  : entryFrame m #[(Value.ref a), (Value.int x1)] 2 = mkF m 0 #[.val (Value.ref a), .val (Value.int x1)] [] := by first | (simp [entryFrame, mkF, argsToLocals, Value.category]; done) | rfl
set_option maxRecDepth 65536 in
set_option maxHeartbeats 40000000 in
theorem own_rm5 (l : Launch) (Z : State) (a0 : Array Value) (hw : ∀ d ∈ tables_1, d.before a0 Z = true) (ws : List Jvm.Cond) (a : Addr) (x1 : Int32) (y0 y1 : Int32) (h0 : Heap) (n0 : Nat) (O0 : Old Z n0 h0) (F_a_begin : Fld Z h0 a "com/example/wattfloor/wattfloor/market/Window" "begin" "I" (Value.int y0)) (F_a_end : Fld Z h0 a "com/example/wattfloor/wattfloor/market/Window" "end" "I" (Value.int y1))  :
    MetFree l (⟨"com/example/wattfloor/wattfloor/market/Window", "contains", "(I)Z"⟩ : MethodName) (head1 (Jvm.Cond.code (⟨"com/example/wattfloor/wattfloor/market/Window", "contains", "(I)Z"⟩ : MethodName) prog_130_method_2_code 2 (some .boolean) :: ws) ({ frames := 0, cells := 0, slots := 0, locals := 0 } : Room)) (fun aa_ U => aa_ = #[(Value.ref a), (Value.int x1)] ∧ Z.Warmed39 U.vm ∧ U.heap = h0) (fun _ _ _ _ _ => True) (fun _ U o U' => ∃ v L, o = .returned v ∧ (own_rm5_Q Z a x1 y0 y1 h0 n0) v U'.heap L ∧ FrameEnd U o U' L ({ frames := 0, cells := 0, slots := 0, locals := 0 } : Room).cells ({ frames := 0, cells := 0, slots := 0, locals := 0 } : Room).slots) := by
  refine MetFree.of_bodySF (plainFor_of_name own_pn2) hisR ?_
  intro p e s m args below meth c s₁ Bd hml0 hP hK
  obtain ⟨rfl, hZ, hh⟩ := hP
  have hx := Bd.exec
  have hby := Bd.bytes
  have hml : c.maxLocals = 2 := hml0
  have hown : s.vm.findClass "com/example/wattfloor/wattfloor/market/Window" = some m.cls := findClass_of_methodNamed Bd.named
  have hnm := (name_of_methodNamed Bd.named Bd.method).1
  have hlk : meth.locks = false := BodyLoose.notSynchronized Bd
  have X0 : Stand p l e ({ frames := 0, cells := 0, slots := 0, locals := 0 } : Room) s m #[(Value.ref a), (Value.int x1)] below meth c s₁ [] 0 0 := Stand.of_body Bd
  have e0 : s₁.heap = h0 := by rw [← hh, Bd.state]; rfl
  have N0 := Fr.nil n0
  show own_G p e below s (own_rm5_Q Z a x1 y0 y1 h0 n0) ({ frames := 0, cells := 0, slots := 0, locals := 0 } : Room).cells ({ frames := 0, cells := 0, slots := 0, locals := 0 } : Room).slots (s₁.setTop (entryFrame m #[(Value.ref a), (Value.int x1)] 2))
  refine own_cast (own_rm5_ef m a x1 ) ?_
  show own_G p e below s _ _ _ (s₁.setTop (mkF m 0 #[.val (Value.ref a), .val (Value.int x1)] []))
  refine own_aloadN X0 hx hby own_d5_0 rfl rfl ?_
  show own_G p e below s _ _ _ (s₁.setTop (mkF m 1 #[.val (Value.ref a), .val (Value.int x1)] [(Value.ref a)]))
  obtain ⟨T1, X1, e1, st1⟩ := getF X0 hx hZ hown (host := "") (Or.inl (own_w18 hw)) Via.refl e0 F_a_begin (g := (mkF m 1 #[.val (Value.ref a), .val (Value.int x1)] [(Value.ref a)])) rfl rfl (hb hby own_d5_1)
  refine own_st st1 ?_
  show own_G p e below s _ _ _ (T1.setTop (mkF m 4 #[.val (Value.ref a), .val (Value.int x1)] [(Value.int y0)]))
  refine own_aloadN X1 hx hby own_d5_4 rfl rfl ?_
  show own_G p e below s _ _ _ (T1.setTop (mkF m 5 #[.val (Value.ref a), .val (Value.int x1)] [(Value.ref a), (Value.int y0)]))
  obtain ⟨T2, X2, e2, st2⟩ := getF X1 hx hZ hown (host := "") (Or.inl (own_w20 hw)) Via.refl e1 F_a_end (g := (mkF m 5 #[.val (Value.ref a), .val (Value.int x1)] [(Value.ref a), (Value.int y0)])) rfl rfl (hb hby own_d5_5)
  refine own_st st2 ?_
  show own_G p e below s _ _ _ (T2.setTop (mkF m 8 #[.val (Value.ref a), .val (Value.int x1)] [(Value.int y1), (Value.int y0)]))
  refine own_icmp_gt X2 hx hby own_d5_8 (pc' := 35) (by decide) (by decide) (fun hb3 => ?_) (fun hb3 => ?_)
  · show own_G p e below s _ _ _ (T2.setTop (mkF m 35 #[.val (Value.ref a), .val (Value.int x1)] []))
    refine own_iloadN X2 hx hby own_d5_35 rfl ?_
    show own_G p e below s _ _ _ (T2.setTop (mkF m 36 #[.val (Value.ref a), .val (Value.int x1)] [(Value.int x1)]))
    refine own_aloadN X2 hx hby own_d5_36 rfl rfl ?_
    show own_G p e below s _ _ _ (T2.setTop (mkF m 37 #[.val (Value.ref a), .val (Value.int x1)] [(Value.ref a), (Value.int x1)]))
    obtain ⟨T4, X4, e4, st4⟩ := getF X2 hx hZ hown (host := "") (Or.inl (own_w18 hw)) Via.refl e2 F_a_begin (g := (mkF m 37 #[.val (Value.ref a), .val (Value.int x1)] [(Value.ref a), (Value.int x1)])) rfl rfl (hb hby own_d5_37)
    refine own_st st4 ?_
    show own_G p e below s _ _ _ (T4.setTop (mkF m 40 #[.val (Value.ref a), .val (Value.int x1)] [(Value.int y0), (Value.int x1)]))
    refine own_icmp_ge X4 hx hby own_d5_40 (pc' := 51) (by decide) (by decide) (fun hb5 => ?_) (fun hb5 => ?_)
    · show own_G p e below s _ _ _ (T4.setTop (mkF m 51 #[.val (Value.ref a), .val (Value.int x1)] []))
      refine own_iconst X4 hx hby own_d5_51 ?_
      show own_G p e below s _ _ _ (T4.setTop (mkF m 52 #[.val (Value.ref a), .val (Value.int x1)] [(Value.int (1 : Int32))]))
      refine own_goto X4 hx hby own_d5_52 (pc' := 56) (by decide) (by decide) ?_
      show own_G p e below s _ _ _ (T4.setTop (mkF m 56 #[.val (Value.ref a), .val (Value.int x1)] [(Value.int (1 : Int32))]))
      refine own_retN X4 hx hby hlk (t := .boolean) Bd.returns (by simp) own_d5_56 (by decide) (by decide) ?_
      refine ⟨?_, e4, N0⟩
      show some (Value.int (1 : Int32)) = some (Value.int (own_cont y0 y1 x1))
      simp only [own_cont, if_pos hb3, if_neg hb5]
    · show own_G p e below s _ _ _ (T4.setTop (mkF m 43 #[.val (Value.ref a), .val (Value.int x1)] []))
      refine own_iloadN X4 hx hby own_d5_43 rfl ?_
      show own_G p e below s _ _ _ (T4.setTop (mkF m 44 #[.val (Value.ref a), .val (Value.int x1)] [(Value.int x1)]))
      refine own_aloadN X4 hx hby own_d5_44 rfl rfl ?_
      show own_G p e below s _ _ _ (T4.setTop (mkF m 45 #[.val (Value.ref a), .val (Value.int x1)] [(Value.ref a), (Value.int x1)]))
      obtain ⟨T6, X6, e6, st6⟩ := getF X4 hx hZ hown (host := "") (Or.inl (own_w20 hw)) Via.refl e4 F_a_end (g := (mkF m 45 #[.val (Value.ref a), .val (Value.int x1)] [(Value.ref a), (Value.int x1)])) rfl rfl (hb hby own_d5_45)
      refine own_st st6 ?_
      show own_G p e below s _ _ _ (T6.setTop (mkF m 48 #[.val (Value.ref a), .val (Value.int x1)] [(Value.int y1), (Value.int x1)]))
      refine own_icmp_gt X6 hx hby own_d5_48 (pc' := 55) (by decide) (by decide) (fun hb7 => ?_) (fun hb7 => ?_)
      · show own_G p e below s _ _ _ (T6.setTop (mkF m 55 #[.val (Value.ref a), .val (Value.int x1)] []))
        refine own_iconst X6 hx hby own_d5_55 ?_
        show own_G p e below s _ _ _ (T6.setTop (mkF m 56 #[.val (Value.ref a), .val (Value.int x1)] [(Value.int (0 : Int32))]))
        refine own_retN X6 hx hby hlk (t := .boolean) Bd.returns (by simp) own_d5_56 (by decide) (by decide) ?_
        refine ⟨?_, e6, N0⟩
        show some (Value.int (0 : Int32)) = some (Value.int (own_cont y0 y1 x1))
        simp only [own_cont, if_pos hb3, if_pos hb5, if_pos hb7]
      · show own_G p e below s _ _ _ (T6.setTop (mkF m 51 #[.val (Value.ref a), .val (Value.int x1)] []))
        refine own_iconst X6 hx hby own_d5_51 ?_
        show own_G p e below s _ _ _ (T6.setTop (mkF m 52 #[.val (Value.ref a), .val (Value.int x1)] [(Value.int (1 : Int32))]))
        refine own_goto X6 hx hby own_d5_52 (pc' := 56) (by decide) (by decide) ?_
        show own_G p e below s _ _ _ (T6.setTop (mkF m 56 #[.val (Value.ref a), .val (Value.int x1)] [(Value.int (1 : Int32))]))
        refine own_retN X6 hx hby hlk (t := .boolean) Bd.returns (by simp) own_d5_56 (by decide) (by decide) ?_
        refine ⟨?_, e6, N0⟩
        show some (Value.int (1 : Int32)) = some (Value.int (own_cont y0 y1 x1))
        simp only [own_cont, if_pos hb3, if_pos hb5, if_neg hb7]
  · show own_G p e below s _ _ _ (T2.setTop (mkF m 11 #[.val (Value.ref a), .val (Value.int x1)] []))
    refine own_iloadN X2 hx hby own_d5_11 rfl ?_
    show own_G p e below s _ _ _ (T2.setTop (mkF m 12 #[.val (Value.ref a), .val (Value.int x1)] [(Value.int x1)]))
    refine own_aloadN X2 hx hby own_d5_12 rfl rfl ?_
    show own_G p e below s _ _ _ (T2.setTop (mkF m 13 #[.val (Value.ref a), .val (Value.int x1)] [(Value.ref a), (Value.int x1)]))
    obtain ⟨T8, X8, e8, st8⟩ := getF X2 hx hZ hown (host := "") (Or.inl (own_w18 hw)) Via.refl e2 F_a_begin (g := (mkF m 13 #[.val (Value.ref a), .val (Value.int x1)] [(Value.ref a), (Value.int x1)])) rfl rfl (hb hby own_d5_13)
    refine own_st st8 ?_
    show own_G p e below s _ _ _ (T8.setTop (mkF m 16 #[.val (Value.ref a), .val (Value.int x1)] [(Value.int y0), (Value.int x1)]))
    refine own_icmp_lt X8 hx hby own_d5_16 (pc' := 31) (by decide) (by decide) (fun hb9 => ?_) (fun hb9 => ?_)
    · show own_G p e below s _ _ _ (T8.setTop (mkF m 31 #[.val (Value.ref a), .val (Value.int x1)] []))
      refine own_iconst X8 hx hby own_d5_31 ?_
      show own_G p e below s _ _ _ (T8.setTop (mkF m 32 #[.val (Value.ref a), .val (Value.int x1)] [(Value.int (0 : Int32))]))
      refine own_goto X8 hx hby own_d5_32 (pc' := 56) (by decide) (by decide) ?_
      show own_G p e below s _ _ _ (T8.setTop (mkF m 56 #[.val (Value.ref a), .val (Value.int x1)] [(Value.int (0 : Int32))]))
      refine own_retN X8 hx hby hlk (t := .boolean) Bd.returns (by simp) own_d5_56 (by decide) (by decide) ?_
      refine ⟨?_, e8, N0⟩
      show some (Value.int (0 : Int32)) = some (Value.int (own_cont y0 y1 x1))
      simp only [own_cont, if_neg hb3, if_pos hb9]
    · show own_G p e below s _ _ _ (T8.setTop (mkF m 19 #[.val (Value.ref a), .val (Value.int x1)] []))
      refine own_iloadN X8 hx hby own_d5_19 rfl ?_
      show own_G p e below s _ _ _ (T8.setTop (mkF m 20 #[.val (Value.ref a), .val (Value.int x1)] [(Value.int x1)]))
      refine own_aloadN X8 hx hby own_d5_20 rfl rfl ?_
      show own_G p e below s _ _ _ (T8.setTop (mkF m 21 #[.val (Value.ref a), .val (Value.int x1)] [(Value.ref a), (Value.int x1)]))
      obtain ⟨T10, X10, e10, st10⟩ := getF X8 hx hZ hown (host := "") (Or.inl (own_w20 hw)) Via.refl e8 F_a_end (g := (mkF m 21 #[.val (Value.ref a), .val (Value.int x1)] [(Value.ref a), (Value.int x1)])) rfl rfl (hb hby own_d5_21)
      refine own_st st10 ?_
      show own_G p e below s _ _ _ (T10.setTop (mkF m 24 #[.val (Value.ref a), .val (Value.int x1)] [(Value.int y1), (Value.int x1)]))
      refine own_icmp_gt X10 hx hby own_d5_24 (pc' := 31) (by decide) (by decide) (fun hb11 => ?_) (fun hb11 => ?_)
      · show own_G p e below s _ _ _ (T10.setTop (mkF m 31 #[.val (Value.ref a), .val (Value.int x1)] []))
        refine own_iconst X10 hx hby own_d5_31 ?_
        show own_G p e below s _ _ _ (T10.setTop (mkF m 32 #[.val (Value.ref a), .val (Value.int x1)] [(Value.int (0 : Int32))]))
        refine own_goto X10 hx hby own_d5_32 (pc' := 56) (by decide) (by decide) ?_
        show own_G p e below s _ _ _ (T10.setTop (mkF m 56 #[.val (Value.ref a), .val (Value.int x1)] [(Value.int (0 : Int32))]))
        refine own_retN X10 hx hby hlk (t := .boolean) Bd.returns (by simp) own_d5_56 (by decide) (by decide) ?_
        refine ⟨?_, e10, N0⟩
        show some (Value.int (0 : Int32)) = some (Value.int (own_cont y0 y1 x1))
        simp only [own_cont, if_neg hb3, if_neg hb9, if_pos hb11]
      · show own_G p e below s _ _ _ (T10.setTop (mkF m 27 #[.val (Value.ref a), .val (Value.int x1)] []))
        refine own_iconst X10 hx hby own_d5_27 ?_
        show own_G p e below s _ _ _ (T10.setTop (mkF m 28 #[.val (Value.ref a), .val (Value.int x1)] [(Value.int (1 : Int32))]))
        refine own_goto X10 hx hby own_d5_28 (pc' := 56) (by decide) (by decide) ?_
        show own_G p e below s _ _ _ (T10.setTop (mkF m 56 #[.val (Value.ref a), .val (Value.int x1)] [(Value.int (1 : Int32))]))
        refine own_retN X10 hx hby hlk (t := .boolean) Bd.returns (by simp) own_d5_56 (by decide) (by decide) ?_
        refine ⟨?_, e10, N0⟩
        show some (Value.int (1 : Int32)) = some (Value.int (own_cont y0 y1 x1))
        simp only [own_cont, if_neg hb3, if_neg hb9, if_neg hb11]
def own_rm6_Q (Z : State) (x0 : Int32) (x1 : Int32)  (h0 : Heap) (n0 : Nat) : Option Value → Heap → List Loc → Prop := fun v h L => v = some (Value.long (own_dist x0 x1)) ∧ h = h0 ∧ Fr n0 L
theorem own_rm6_ef (m : MethodId) (x0 : Int32) (x1 : Int32)  : entryFrame m #[(Value.int x0), (Value.int x1)] 2 = mkF m 0 #[.val (Value.int x0), .val (Value.int x1)] [] := by first | (simp [entryFrame, mkF, argsToLocals, Value.category]; done) | rfl
set_option maxRecDepth 65536 in
set_option maxHeartbeats 40000000 in
theorem own_rm6 (l : Launch) (Z : State) (a0 : Array Value) (hw : ∀ d ∈ tables_1, d.before a0 Z = true) (ws : List Jvm.Cond) (x0 : Int32) (x1 : Int32)  (h0 : Heap) (n0 : Nat) (O0 : Old Z n0 h0)  :
    MetFree l (⟨"com/example/wattfloor/wattfloor/market/WindowContainsPinLaw", "unsignedDistance", "(II)J"⟩ : MethodName) (head1 (Jvm.Cond.code (⟨"com/example/wattfloor/wattfloor/market/WindowContainsPinLaw", "unsignedDistance", "(II)J"⟩ : MethodName) method_2_code 2 (some .long) :: ws) ({ frames := 0, cells := 0, slots := 0, locals := 0 } : Room)) (fun aa_ U => aa_ = #[(Value.int x0), (Value.int x1)] ∧ Z.Warmed39 U.vm ∧ U.heap = h0) (fun _ _ _ _ _ => True) (fun _ U o U' => ∃ v L, o = .returned v ∧ (own_rm6_Q Z x0 x1 h0 n0) v U'.heap L ∧ FrameEnd U o U' L ({ frames := 0, cells := 0, slots := 0, locals := 0 } : Room).cells ({ frames := 0, cells := 0, slots := 0, locals := 0 } : Room).slots) := by
  refine MetFree.of_bodySF (plainFor_of_name own_pn0) hisR ?_
  intro p e s m args below meth c s₁ Bd hml0 hP hK
  obtain ⟨rfl, hZ, hh⟩ := hP
  have hx := Bd.exec
  have hby := Bd.bytes
  have hml : c.maxLocals = 2 := hml0
  have hown : s.vm.findClass "com/example/wattfloor/wattfloor/market/WindowContainsPinLaw" = some m.cls := findClass_of_methodNamed Bd.named
  have hnm := (name_of_methodNamed Bd.named Bd.method).1
  have hlk : meth.locks = false := BodyLoose.notSynchronized Bd
  have X0 : Stand p l e ({ frames := 0, cells := 0, slots := 0, locals := 0 } : Room) s m #[(Value.int x0), (Value.int x1)] below meth c s₁ [] 0 0 := Stand.of_body Bd
  have e0 : s₁.heap = h0 := by rw [← hh, Bd.state]; rfl
  have N0 := Fr.nil n0
  show own_G p e below s (own_rm6_Q Z x0 x1 h0 n0) ({ frames := 0, cells := 0, slots := 0, locals := 0 } : Room).cells ({ frames := 0, cells := 0, slots := 0, locals := 0 } : Room).slots (s₁.setTop (entryFrame m #[(Value.int x0), (Value.int x1)] 2))
  refine own_cast (own_rm6_ef m x0 x1 ) ?_
  show own_G p e below s _ _ _ (s₁.setTop (mkF m 0 #[.val (Value.int x0), .val (Value.int x1)] []))
  refine own_iloadN X0 hx hby own_d6_0 rfl ?_
  show own_G p e below s _ _ _ (s₁.setTop (mkF m 1 #[.val (Value.int x0), .val (Value.int x1)] [(Value.int x1)]))
  refine own_iloadN X0 hx hby own_d6_1 rfl ?_
  show own_G p e below s _ _ _ (s₁.setTop (mkF m 2 #[.val (Value.int x0), .val (Value.int x1)] [(Value.int x0), (Value.int x1)]))
  refine own_isub X0 hx hby own_d6_2 ?_
  show own_G p e below s _ _ _ (s₁.setTop (mkF m 3 #[.val (Value.int x0), .val (Value.int x1)] [(Value.int (x1 - x0))]))
  refine own_i2l X0 hx hby own_d6_3 ?_
  show own_G p e below s _ _ _ (s₁.setTop (mkF m 4 #[.val (Value.int x0), .val (Value.int x1)] [(Value.long ((x1 - x0).toInt64))]))
  refine own_ldcJ X0 hx hby hZ hown (own_w30 hw) own_d6_4 ?_
  show own_G p e below s _ _ _ (s₁.setTop (mkF m 7 #[.val (Value.int x0), .val (Value.int x1)] [(Value.long (4294967295 : Int64)), (Value.long ((x1 - x0).toInt64))]))
  refine own_land X0 hx hby own_d6_7 ?_
  show own_G p e below s _ _ _ (s₁.setTop (mkF m 8 #[.val (Value.int x0), .val (Value.int x1)] [(Value.long (((x1 - x0).toInt64) &&& (4294967295 : Int64)))]))
  refine own_retJ X0 hx hby hlk Bd.returns own_d6_8 (by decide) (by decide) ?_
  refine ⟨?_, e0, N0⟩
  show some (Value.long (((x1 - x0).toInt64) &&& (4294967295 : Int64))) = some (Value.long (own_dist x0 x1))
  rfl
def own_rm0_Q (Z : State) (x0 : Int32) (x1 : Int32) (x2 : Int32) (x3 : Int32)  (h0 : Heap) (n0 : Nat) : Option Value → Heap → List Loc → Prop := fun v h L => v = some (.int 1) ∧ Fr n0 L
theorem own_rm0_ef (m : MethodId) (x0 : Int32) (x1 : Int32) (x2 : Int32) (x3 : Int32)  : entryFrame m #[(Value.int x0), (Value.int x1), (Value.int x2), (Value.int x3)] maxLocals = mkF m 0 #[.val (Value.int x0), .val (Value.int x1), .val (Value.int x2), .val (Value.int x3), .unset, .unset, .unset, .unset] [] := by first | (simp [entryFrame, mkF, argsToLocals, Value.category, maxLocals]; done) | rfl
set_option maxRecDepth 65536 in
set_option maxHeartbeats 40000000 in
theorem own_rm0 (l : Launch) (Z : State) (a0 : Array Value) (hw : ∀ d ∈ tables_1, d.before a0 Z = true) (ws : List Jvm.Cond) (x0 : Int32) (x1 : Int32) (x2 : Int32) (x3 : Int32)  (h0 : Heap) (n0 : Nat) (O0 : Old Z n0 h0)  :
    MetFree l x (head1 (Jvm.Cond.code x code maxLocals ret :: ws) room_1) (fun aa_ U => aa_ = #[(Value.int x0), (Value.int x1), (Value.int x2), (Value.int x3)] ∧ Z.Warmed39 U.vm ∧ U.heap = h0) (fun _ _ _ _ _ => True) (fun _ U o U' => ∃ v L, o = .returned v ∧ (own_rm0_Q Z x0 x1 x2 x3 h0 n0) v U'.heap L ∧ FrameEnd U o U' L 16 128) := by
  refine MetFree.of_bodySF (plainFor_of_name own_pn0) hisR ?_
  intro p e s m args below meth c s₁ Bd hml0 hP hK
  obtain ⟨rfl, hZ, hh⟩ := hP
  have hx := Bd.exec
  have hby := Bd.bytes
  have hml : c.maxLocals = 8 := hml0
  have hown : s.vm.findClass "com/example/wattfloor/wattfloor/market/WindowContainsPinLaw" = some m.cls := findClass_of_methodNamed Bd.named
  have hnm := (name_of_methodNamed Bd.named Bd.method).1
  have hlk : meth.locks = false := BodyLoose.notSynchronized Bd
  have X0 : Stand p l e room_1 s m #[(Value.int x0), (Value.int x1), (Value.int x2), (Value.int x3)] below meth c s₁ [] 0 0 := Stand.of_body Bd
  have e0 : s₁.heap = h0 := by rw [← hh, Bd.state]; rfl
  have N0 := Fr.nil n0
  show own_G p e below s (own_rm0_Q Z x0 x1 x2 x3 h0 n0) 16 128 (s₁.setTop (entryFrame m #[(Value.int x0), (Value.int x1), (Value.int x2), (Value.int x3)] maxLocals))
  refine own_cast (own_rm0_ef m x0 x1 x2 x3 ) ?_
  show own_G p e below s _ _ _ (s₁.setTop (mkF m 0 #[.val (Value.int x0), .val (Value.int x1), .val (Value.int x2), .val (Value.int x3), .unset, .unset, .unset, .unset] []))
  refine own_iloadN X0 hx hby at_0 rfl ?_
  show own_G p e below s _ _ _ (s₁.setTop (mkF m 1 #[.val (Value.int x0), .val (Value.int x1), .val (Value.int x2), .val (Value.int x3), .unset, .unset, .unset, .unset] [(Value.int x0)]))
  refine own_iloadN X0 hx hby at_1 rfl ?_
  show own_G p e below s _ _ _ (s₁.setTop (mkF m 2 #[.val (Value.int x0), .val (Value.int x1), .val (Value.int x2), .val (Value.int x3), .unset, .unset, .unset, .unset] [(Value.int x1), (Value.int x0)]))
  refine own_iloadN X0 hx hby at_2 rfl ?_
  show own_G p e below s _ _ _ (s₁.setTop (mkF m 3 #[.val (Value.int x0), .val (Value.int x1), .val (Value.int x2), .val (Value.int x3), .unset, .unset, .unset, .unset] [(Value.int x2), (Value.int x1), (Value.int x0)]))
  refine own_iloadN X0 hx hby at_3 rfl ?_
  show own_G p e below s _ _ _ (s₁.setTop (mkF m 4 #[.val (Value.int x0), .val (Value.int x1), .val (Value.int x2), .val (Value.int x3), .unset, .unset, .unset, .unset] [(Value.int x3), (Value.int x2), (Value.int x1), (Value.int x0)]))
  obtain ⟨_, _, ⟨T1, L1, k1, n1⟩, -, X1, ⟨Lc1, hQ1, l1, y1, z1⟩, st1⟩ := Jvm.LawKit.callS X0 hx (y := (⟨"com/example/wattfloor/wattfloor/market/WindowContainsPinLaw", "pickValue", "(IIII)I"⟩ : MethodName)) hown (mvT hZ (own_w0 hw)) (mvT hZ (own_w1 hw)) (mvT hZ (own_w2 hw)) (mvT hZ (own_w3 hw)) (by decide) (backOf (W := 0) (own_rm1 l Z a0 hw [] x0 x1 x2 x3  h0 n0 O0  ) hZ (own_w3 hw) (own_w2 hw) (by decide) (by decide)) (g := (mkF m 4 #[.val (Value.int x0), .val (Value.int x1), .val (Value.int x2), .val (Value.int x3), .unset, .unset, .unset, .unset] [(Value.int x3), (Value.int x2), (Value.int x1), (Value.int x0)])) rfl (by rw [hml]; rfl) (argsL := [(Value.int x0), (Value.int x1), (Value.int x2), (Value.int x3)]) (rest := []) (lenOf own_pd1 rfl) rfl (by show 2 * 0 + _ ≤ _; exact Nat.le_of_eq rfl) (hb hby at_4) (fun _ _ => ⟨rfl, e0, (by decide : (0 : Nat) + 0 ≤ _), (by decide : (0 : Nat) + 0 ≤ _)⟩)
  dsimp only [Pt.U, Pt.locs, Pt.cells, Pt.slots] at X1 l1 y1 z1 st1 hQ1
  subst l1 y1 z1
  obtain ⟨rfl, e1, Nq1⟩ := hQ1
  have N1 := Fr.app N0 Nq1
  refine own_st st1 ?_
  show own_G p e below s _ _ _ (T1.setTop (mkF m 7 #[.val (Value.int x0), .val (Value.int x1), .val (Value.int x2), .val (Value.int x3), .unset, .unset, .unset, .unset] [(Value.int (own_pick x0 x1 x2 x3))]))
  refine own_istore X1 hx hby at_7 (l' := #[.val (Value.int x0), .val (Value.int x1), .val (Value.int x2), .val (Value.int x3), .val (Value.int (own_pick x0 x1 x2 x3)), .unset, .unset, .unset]) rfl ?_
  show own_G p e below s _ _ _ (T1.setTop (mkF m 9 #[.val (Value.int x0), .val (Value.int x1), .val (Value.int x2), .val (Value.int x3), .val (Value.int (own_pick x0 x1 x2 x3)), .unset, .unset, .unset] []))
  obtain ⟨T2, h2, X2, e2, E2, A2, D2, -, st2⟩ := newO X1 hx hZ hown (own_w4 hw) (own_w5 hw) (own_w6 hw) e1 (g := (mkF m 9 #[.val (Value.int x0), .val (Value.int x1), .val (Value.int x2), .val (Value.int x3), .val (Value.int (own_pick x0 x1 x2 x3)), .unset, .unset, .unset] [])) rfl (hb hby at_9) (by decide) (by decide)
  obtain ⟨b2, g2⟩ : ∃ z, z = h0.size := ⟨_, rfl⟩
  rw [← g2] at A2 D2 st2
  have O3 := Old.ext O0 E2
  have g2n : n0 ≤ b2 := by rw [g2]; exact O0.1 ▸ O0.2.1
  have F2_begin : Fld Z h2 b2 "com/example/wattfloor/wattfloor/market/Window" "begin" "I" (Value.int (0 : Int32)) := D2 (Or.inr (own_w19 hw)) (ty := .int) (by decide)
  have F2_end : Fld Z h2 b2 "com/example/wattfloor/wattfloor/market/Window" "end" "I" (Value.int (0 : Int32)) := D2 (Or.inr (own_w21 hw)) (ty := .int) (by decide)
  refine own_st st2 ?_
  show own_G p e below s _ _ _ (T2.setTop (mkF m 12 #[.val (Value.int x0), .val (Value.int x1), .val (Value.int x2), .val (Value.int x3), .val (Value.int (own_pick x0 x1 x2 x3)), .unset, .unset, .unset] [(Value.ref b2)]))
  refine own_dup X2 hx hby at_12 rfl ?_
  show own_G p e below s _ _ _ (T2.setTop (mkF m 13 #[.val (Value.int x0), .val (Value.int x1), .val (Value.int x2), .val (Value.int x3), .val (Value.int (own_pick x0 x1 x2 x3)), .unset, .unset, .unset] [(Value.ref b2), (Value.ref b2)]))
  refine own_iloadN X2 hx hby at_13 rfl ?_
  show own_G p e below s _ _ _ (T2.setTop (mkF m 14 #[.val (Value.int x0), .val (Value.int x1), .val (Value.int x2), .val (Value.int x3), .val (Value.int (own_pick x0 x1 x2 x3)), .unset, .unset, .unset] [(Value.int x0), (Value.ref b2), (Value.ref b2)]))
  refine own_iloadN X2 hx hby at_14 rfl ?_
  show own_G p e below s _ _ _ (T2.setTop (mkF m 15 #[.val (Value.int x0), .val (Value.int x1), .val (Value.int x2), .val (Value.int x3), .val (Value.int (own_pick x0 x1 x2 x3)), .unset, .unset, .unset] [(Value.int x1), (Value.int x0), (Value.ref b2), (Value.ref b2)]))
  obtain ⟨_, _, ⟨T4, L4, k4, n4⟩, -, X4, ⟨Lc4, hQ4, l4, y4, z4⟩, st4⟩ := X2.specialBack hx (y := (⟨"com/example/wattfloor/wattfloor/market/Window", "<init>", "(II)V"⟩ : MethodName)) rfl hown (mvT hZ (own_w7 hw)) (mvT hZ (own_w8 hw)) (mvT hZ (own_w9 hw)) (by decide) (backOf (W := 1) (own_rm2 l Z a0 hw [] b2 x0 x1  h2 n0 O3  A2 F2_begin F2_end g2n) hZ (own_w9 hw) (own_w6 hw) (by decide) (by decide)) (g := (mkF m 15 #[.val (Value.int x0), .val (Value.int x1), .val (Value.int x2), .val (Value.int x3), .val (Value.int (own_pick x0 x1 x2 x3)), .unset, .unset, .unset] [(Value.int x1), (Value.int x0), (Value.ref b2), (Value.ref b2)])) rfl (by rw [hml]; rfl) (Steps.refl _) (a := b2) (argsL := [(Value.int x0), (Value.int x1)]) (rest := [(Value.ref b2)]) (lenOf own_pd2 rfl) rfl (by show 2 * 0 + _ ≤ _; exact Nat.le_of_eq rfl) (hb hby at_15) (fun _ _ => ⟨rfl, e2, (by decide : (1 : Nat) + 0 ≤ _), (by decide : (2 : Nat) + 0 ≤ _)⟩)
  dsimp only [Pt.U, Pt.locs, Pt.cells, Pt.slots] at X4 l4 y4 z4 st4 hQ4
  subst l4 y4 z4
  obtain ⟨rfl, Nq4, Kq4, Eq4, Fq4_begin, Fq4_end⟩ := hQ4
  have N4 := Fr.app N1 Nq4
  have E5_b2 := Exa.keep A2 Kq4
  have O5 := Old.keep O3 Kq4 (allS g2n all0)
  refine own_tr st4 ?_
  show own_G p e below s _ _ _ (T4.setTop (mkF m 18 #[.val (Value.int x0), .val (Value.int x1), .val (Value.int x2), .val (Value.int x3), .val (Value.int (own_pick x0 x1 x2 x3)), .unset, .unset, .unset] [(Value.ref b2)]))
  refine own_astore X4 hx hby at_18 rfl (l' := #[.val (Value.int x0), .val (Value.int x1), .val (Value.int x2), .val (Value.int x3), .val (Value.int (own_pick x0 x1 x2 x3)), .val (Value.ref b2), .unset, .unset]) rfl ?_
  show own_G p e below s _ _ _ (T4.setTop (mkF m 20 #[.val (Value.int x0), .val (Value.int x1), .val (Value.int x2), .val (Value.int x3), .val (Value.int (own_pick x0 x1 x2 x3)), .val (Value.ref b2), .unset, .unset] []))
  refine own_aload X4 hx hby at_20 rfl rfl ?_
  show own_G p e below s _ _ _ (T4.setTop (mkF m 22 #[.val (Value.int x0), .val (Value.int x1), .val (Value.int x2), .val (Value.int x3), .val (Value.int (own_pick x0 x1 x2 x3)), .val (Value.ref b2), .unset, .unset] [(Value.ref b2)]))
  refine own_iload X4 hx hby at_22 rfl ?_
  show own_G p e below s _ _ _ (T4.setTop (mkF m 24 #[.val (Value.int x0), .val (Value.int x1), .val (Value.int x2), .val (Value.int x3), .val (Value.int (own_pick x0 x1 x2 x3)), .val (Value.ref b2), .unset, .unset] [(Value.int (own_pick x0 x1 x2 x3)), (Value.ref b2)]))
  obtain ⟨cq6, kq6, q6a, q6b, q6c⟩ := isOf (T := T4) hZ rfl Eq4
  obtain ⟨_, _, ⟨T6, L6, k6, n6⟩, -, X6, ⟨Lc6, hQ6, l6, y6, z6⟩, st6⟩ := X4.virtualBack hx (y := (⟨"com/example/wattfloor/wattfloor/market/Window", "contains", "(I)Z"⟩ : MethodName)) (z := (⟨"com/example/wattfloor/wattfloor/market/Window", "contains", "(I)Z"⟩ : MethodName)) hown (mvT hZ (own_w22 hw)) (mvT hZ (own_w23 hw)) (notFace_of_selects (args := #[]) (mvT hZ (own_w25 hw))) (mvT hZ (own_w25 hw)) (mvT hZ (own_w24 hw)) (by decide) (backOf (W := 0) (own_rm5 l Z a0 hw [] b2 (own_pick x0 x1 x2 x3) x0 x1 T4.heap n0 O5  Fq4_begin Fq4_end) hZ (own_w26 hw) (own_w6 hw) (by decide) (by decide)) q6a q6c (g := (mkF m 24 #[.val (Value.int x0), .val (Value.int x1), .val (Value.int x2), .val (Value.int x3), .val (Value.int (own_pick x0 x1 x2 x3)), .val (Value.ref b2), .unset, .unset] [(Value.int (own_pick x0 x1 x2 x3)), (Value.ref b2)])) rfl (by rw [hml]; rfl) (Steps.refl _) (argsL := [(Value.int (own_pick x0 x1 x2 x3))]) (rest := []) (lenOf own_pd3 rfl) rfl (by show 2 * 0 + _ ≤ _; exact Nat.le_of_eq rfl) (hb hby at_24) (fun _ _ => ⟨rfl, rfl, (by decide : (1 : Nat) + 0 ≤ _), (by decide : (2 : Nat) + 0 ≤ _)⟩)
  dsimp only [Pt.U, Pt.locs, Pt.cells, Pt.slots] at X6 l6 y6 z6 st6 hQ6
  subst l6 y6 z6
  obtain ⟨rfl, e6, Nq6⟩ := hQ6
  have N6 := Fr.app N4 Nq6
  refine own_tr st6 ?_
  show own_G p e below s _ _ _ (T6.setTop (mkF m 27 #[.val (Value.int x0), .val (Value.int x1), .val (Value.int x2), .val (Value.int x3), .val (Value.int (own_pick x0 x1 x2 x3)), .val (Value.ref b2), .unset, .unset] [(Value.int (own_cont x0 x1 (own_pick x0 x1 x2 x3)))]))
  refine own_istore X6 hx hby at_27 (l' := #[.val (Value.int x0), .val (Value.int x1), .val (Value.int x2), .val (Value.int x3), .val (Value.int (own_pick x0 x1 x2 x3)), .val (Value.ref b2), .val (Value.int (own_cont x0 x1 (own_pick x0 x1 x2 x3))), .unset]) rfl ?_
  show own_G p e below s _ _ _ (T6.setTop (mkF m 29 #[.val (Value.int x0), .val (Value.int x1), .val (Value.int x2), .val (Value.int x3), .val (Value.int (own_pick x0 x1 x2 x3)), .val (Value.ref b2), .val (Value.int (own_cont x0 x1 (own_pick x0 x1 x2 x3))), .unset] []))
  refine own_iloadN X6 hx hby at_29 rfl ?_
  show own_G p e below s _ _ _ (T6.setTop (mkF m 30 #[.val (Value.int x0), .val (Value.int x1), .val (Value.int x2), .val (Value.int x3), .val (Value.int (own_pick x0 x1 x2 x3)), .val (Value.ref b2), .val (Value.int (own_cont x0 x1 (own_pick x0 x1 x2 x3))), .unset] [(Value.int x0)]))
  refine own_iload X6 hx hby at_30 rfl ?_
  show own_G p e below s _ _ _ (T6.setTop (mkF m 32 #[.val (Value.int x0), .val (Value.int x1), .val (Value.int x2), .val (Value.int x3), .val (Value.int (own_pick x0 x1 x2 x3)), .val (Value.ref b2), .val (Value.int (own_cont x0 x1 (own_pick x0 x1 x2 x3))), .unset] [(Value.int (own_pick x0 x1 x2 x3)), (Value.int x0)]))
  obtain ⟨_, _, ⟨T7, L7, k7, n7⟩, -, X7, ⟨Lc7, hQ7, l7, y7, z7⟩, st7⟩ := Jvm.LawKit.callS X6 hx (y := (⟨"com/example/wattfloor/wattfloor/market/WindowContainsPinLaw", "unsignedDistance", "(II)J"⟩ : MethodName)) hown (mvT hZ (own_w27 hw)) (mvT hZ (own_w28 hw)) (mvT hZ (own_w2 hw)) (mvT hZ (own_w29 hw)) (by decide) (backOf (W := 0) (own_rm6 l Z a0 hw [] x0 (own_pick x0 x1 x2 x3)  T4.heap n0 O5  ) hZ (own_w29 hw) (own_w2 hw) (by decide) (by decide)) (g := (mkF m 32 #[.val (Value.int x0), .val (Value.int x1), .val (Value.int x2), .val (Value.int x3), .val (Value.int (own_pick x0 x1 x2 x3)), .val (Value.ref b2), .val (Value.int (own_cont x0 x1 (own_pick x0 x1 x2 x3))), .unset] [(Value.int (own_pick x0 x1 x2 x3)), (Value.int x0)])) rfl (by rw [hml]; rfl) (argsL := [(Value.int x0), (Value.int (own_pick x0 x1 x2 x3))]) (rest := []) (lenOf own_pd4 rfl) rfl (by show 2 * 0 + _ ≤ _; exact Nat.le_of_eq rfl) (hb hby at_32) (fun _ _ => ⟨rfl, e6, (by decide : (1 : Nat) + 0 ≤ _), (by decide : (2 : Nat) + 0 ≤ _)⟩)
  dsimp only [Pt.U, Pt.locs, Pt.cells, Pt.slots] at X7 l7 y7 z7 st7 hQ7
  subst l7 y7 z7
  obtain ⟨rfl, e7, Nq7⟩ := hQ7
  have N7 := Fr.app N6 Nq7
  refine own_st st7 ?_
  show own_G p e below s _ _ _ (T7.setTop (mkF m 35 #[.val (Value.int x0), .val (Value.int x1), .val (Value.int x2), .val (Value.int x3), .val (Value.int (own_pick x0 x1 x2 x3)), .val (Value.ref b2), .val (Value.int (own_cont x0 x1 (own_pick x0 x1 x2 x3))), .unset] [(Value.long (own_dist x0 (own_pick x0 x1 x2 x3)))]))
  refine own_iloadN X7 hx hby at_35 rfl ?_
  show own_G p e below s _ _ _ (T7.setTop (mkF m 36 #[.val (Value.int x0), .val (Value.int x1), .val (Value.int x2), .val (Value.int x3), .val (Value.int (own_pick x0 x1 x2 x3)), .val (Value.ref b2), .val (Value.int (own_cont x0 x1 (own_pick x0 x1 x2 x3))), .unset] [(Value.int x0), (Value.long (own_dist x0 (own_pick x0 x1 x2 x3)))]))
  refine own_iloadN X7 hx hby at_36 rfl ?_
  show own_G p e below s _ _ _ (T7.setTop (mkF m 37 #[.val (Value.int x0), .val (Value.int x1), .val (Value.int x2), .val (Value.int x3), .val (Value.int (own_pick x0 x1 x2 x3)), .val (Value.ref b2), .val (Value.int (own_cont x0 x1 (own_pick x0 x1 x2 x3))), .unset] [(Value.int x1), (Value.int x0), (Value.long (own_dist x0 (own_pick x0 x1 x2 x3)))]))
  obtain ⟨_, _, ⟨T8, L8, k8, n8⟩, -, X8, ⟨Lc8, hQ8, l8, y8, z8⟩, st8⟩ := Jvm.LawKit.callS X7 hx (y := (⟨"com/example/wattfloor/wattfloor/market/WindowContainsPinLaw", "unsignedDistance", "(II)J"⟩ : MethodName)) hown (mvT hZ (own_w27 hw)) (mvT hZ (own_w28 hw)) (mvT hZ (own_w2 hw)) (mvT hZ (own_w29 hw)) (by decide) (backOf (W := 2) (own_rm6 l Z a0 hw [] x0 x1  T4.heap n0 O5  ) hZ (own_w29 hw) (own_w2 hw) (by decide) (by decide)) (g := (mkF m 37 #[.val (Value.int x0), .val (Value.int x1), .val (Value.int x2), .val (Value.int x3), .val (Value.int (own_pick x0 x1 x2 x3)), .val (Value.ref b2), .val (Value.int (own_cont x0 x1 (own_pick x0 x1 x2 x3))), .unset] [(Value.int x1), (Value.int x0), (Value.long (own_dist x0 (own_pick x0 x1 x2 x3)))])) rfl (by rw [hml]; rfl) (argsL := [(Value.int x0), (Value.int x1)]) (rest := [(Value.long (own_dist x0 (own_pick x0 x1 x2 x3)))]) (lenOf own_pd4 rfl) rfl (by show 2 * 0 + _ ≤ _; exact Nat.le_of_eq rfl) (hb hby at_37) (fun _ _ => ⟨rfl, e7, (by decide : (1 : Nat) + 0 ≤ _), (by decide : (2 : Nat) + 0 ≤ _)⟩)
  dsimp only [Pt.U, Pt.locs, Pt.cells, Pt.slots] at X8 l8 y8 z8 st8 hQ8
  subst l8 y8 z8
  obtain ⟨rfl, e8, Nq8⟩ := hQ8
  have N8 := Fr.app N7 Nq8
  refine own_st st8 ?_
  show own_G p e below s _ _ _ (T8.setTop (mkF m 40 #[.val (Value.int x0), .val (Value.int x1), .val (Value.int x2), .val (Value.int x3), .val (Value.int (own_pick x0 x1 x2 x3)), .val (Value.ref b2), .val (Value.int (own_cont x0 x1 (own_pick x0 x1 x2 x3))), .unset] [(Value.long (own_dist x0 x1)), (Value.long (own_dist x0 (own_pick x0 x1 x2 x3)))]))
  refine own_lcmp_gt X8 hx hby at_40 at_41 (pc' := 48) (by decide) (by decide) (fun hb9 => ?_) (fun hb9 => ?_)
  · show own_G p e below s _ _ _ (T8.setTop (mkF m 48 #[.val (Value.int x0), .val (Value.int x1), .val (Value.int x2), .val (Value.int x3), .val (Value.int (own_pick x0 x1 x2 x3)), .val (Value.ref b2), .val (Value.int (own_cont x0 x1 (own_pick x0 x1 x2 x3))), .unset] []))
    refine own_iconst X8 hx hby at_48 ?_
    show own_G p e below s _ _ _ (T8.setTop (mkF m 49 #[.val (Value.int x0), .val (Value.int x1), .val (Value.int x2), .val (Value.int x3), .val (Value.int (own_pick x0 x1 x2 x3)), .val (Value.ref b2), .val (Value.int (own_cont x0 x1 (own_pick x0 x1 x2 x3))), .unset] [(Value.int (0 : Int32))]))
    refine own_istore X8 hx hby at_49 (l' := #[.val (Value.int x0), .val (Value.int x1), .val (Value.int x2), .val (Value.int x3), .val (Value.int (own_pick x0 x1 x2 x3)), .val (Value.ref b2), .val (Value.int (own_cont x0 x1 (own_pick x0 x1 x2 x3))), .val (Value.int (0 : Int32))]) rfl ?_
    show own_G p e below s _ _ _ (T8.setTop (mkF m 51 #[.val (Value.int x0), .val (Value.int x1), .val (Value.int x2), .val (Value.int x3), .val (Value.int (own_pick x0 x1 x2 x3)), .val (Value.ref b2), .val (Value.int (own_cont x0 x1 (own_pick x0 x1 x2 x3))), .val (Value.int (0 : Int32))] []))
    refine own_iload X8 hx hby at_51 rfl ?_
    show own_G p e below s _ _ _ (T8.setTop (mkF m 53 #[.val (Value.int x0), .val (Value.int x1), .val (Value.int x2), .val (Value.int x3), .val (Value.int (own_pick x0 x1 x2 x3)), .val (Value.ref b2), .val (Value.int (own_cont x0 x1 (own_pick x0 x1 x2 x3))), .val (Value.int (0 : Int32))] [(Value.int (own_cont x0 x1 (own_pick x0 x1 x2 x3)))]))
    refine own_iload X8 hx hby at_53 rfl ?_
    show own_G p e below s _ _ _ (T8.setTop (mkF m 55 #[.val (Value.int x0), .val (Value.int x1), .val (Value.int x2), .val (Value.int x3), .val (Value.int (own_pick x0 x1 x2 x3)), .val (Value.ref b2), .val (Value.int (own_cont x0 x1 (own_pick x0 x1 x2 x3))), .val (Value.int (0 : Int32))] [(Value.int (0 : Int32)), (Value.int (own_cont x0 x1 (own_pick x0 x1 x2 x3)))]))
    refine own_icmp_ne X8 hx hby at_55 (pc' := 62) (by decide) (by decide) (fun hb10 => by exfalso; have q := own_law x0 x1 (own_pick x0 x1 x2 x3); rcases q.2 with q2 | q2; exact hb10 q2; exact (q.1.mp q2) hb9) (fun hb10 => ?_)
    show own_G p e below s _ _ _ (T8.setTop (mkF m 58 #[.val (Value.int x0), .val (Value.int x1), .val (Value.int x2), .val (Value.int x3), .val (Value.int (own_pick x0 x1 x2 x3)), .val (Value.ref b2), .val (Value.int (own_cont x0 x1 (own_pick x0 x1 x2 x3))), .val (Value.int (0 : Int32))] []))
    refine own_iconst X8 hx hby at_58 ?_
    show own_G p e below s _ _ _ (T8.setTop (mkF m 59 #[.val (Value.int x0), .val (Value.int x1), .val (Value.int x2), .val (Value.int x3), .val (Value.int (own_pick x0 x1 x2 x3)), .val (Value.ref b2), .val (Value.int (own_cont x0 x1 (own_pick x0 x1 x2 x3))), .val (Value.int (0 : Int32))] [(Value.int (1 : Int32))]))
    refine own_goto X8 hx hby at_59 (pc' := 63) (by decide) (by decide) ?_
    show own_G p e below s _ _ _ (T8.setTop (mkF m 63 #[.val (Value.int x0), .val (Value.int x1), .val (Value.int x2), .val (Value.int x3), .val (Value.int (own_pick x0 x1 x2 x3)), .val (Value.ref b2), .val (Value.int (own_cont x0 x1 (own_pick x0 x1 x2 x3))), .val (Value.int (0 : Int32))] [(Value.int (1 : Int32))]))
    refine own_retN X8 hx hby hlk (t := .boolean) Bd.returns (by simp) at_63 (by decide) (by decide) ?_
    exact ⟨rfl, N8⟩
  · show own_G p e below s _ _ _ (T8.setTop (mkF m 44 #[.val (Value.int x0), .val (Value.int x1), .val (Value.int x2), .val (Value.int x3), .val (Value.int (own_pick x0 x1 x2 x3)), .val (Value.ref b2), .val (Value.int (own_cont x0 x1 (own_pick x0 x1 x2 x3))), .unset] []))
    refine own_iconst X8 hx hby at_44 ?_
    show own_G p e below s _ _ _ (T8.setTop (mkF m 45 #[.val (Value.int x0), .val (Value.int x1), .val (Value.int x2), .val (Value.int x3), .val (Value.int (own_pick x0 x1 x2 x3)), .val (Value.ref b2), .val (Value.int (own_cont x0 x1 (own_pick x0 x1 x2 x3))), .unset] [(Value.int (1 : Int32))]))
    refine own_goto X8 hx hby at_45 (pc' := 49) (by decide) (by decide) ?_
    show own_G p e below s _ _ _ (T8.setTop (mkF m 49 #[.val (Value.int x0), .val (Value.int x1), .val (Value.int x2), .val (Value.int x3), .val (Value.int (own_pick x0 x1 x2 x3)), .val (Value.ref b2), .val (Value.int (own_cont x0 x1 (own_pick x0 x1 x2 x3))), .unset] [(Value.int (1 : Int32))]))
    refine own_istore X8 hx hby at_49 (l' := #[.val (Value.int x0), .val (Value.int x1), .val (Value.int x2), .val (Value.int x3), .val (Value.int (own_pick x0 x1 x2 x3)), .val (Value.ref b2), .val (Value.int (own_cont x0 x1 (own_pick x0 x1 x2 x3))), .val (Value.int (1 : Int32))]) rfl ?_
    show own_G p e below s _ _ _ (T8.setTop (mkF m 51 #[.val (Value.int x0), .val (Value.int x1), .val (Value.int x2), .val (Value.int x3), .val (Value.int (own_pick x0 x1 x2 x3)), .val (Value.ref b2), .val (Value.int (own_cont x0 x1 (own_pick x0 x1 x2 x3))), .val (Value.int (1 : Int32))] []))
    refine own_iload X8 hx hby at_51 rfl ?_
    show own_G p e below s _ _ _ (T8.setTop (mkF m 53 #[.val (Value.int x0), .val (Value.int x1), .val (Value.int x2), .val (Value.int x3), .val (Value.int (own_pick x0 x1 x2 x3)), .val (Value.ref b2), .val (Value.int (own_cont x0 x1 (own_pick x0 x1 x2 x3))), .val (Value.int (1 : Int32))] [(Value.int (own_cont x0 x1 (own_pick x0 x1 x2 x3)))]))
    refine own_iload X8 hx hby at_53 rfl ?_
    show own_G p e below s _ _ _ (T8.setTop (mkF m 55 #[.val (Value.int x0), .val (Value.int x1), .val (Value.int x2), .val (Value.int x3), .val (Value.int (own_pick x0 x1 x2 x3)), .val (Value.ref b2), .val (Value.int (own_cont x0 x1 (own_pick x0 x1 x2 x3))), .val (Value.int (1 : Int32))] [(Value.int (1 : Int32)), (Value.int (own_cont x0 x1 (own_pick x0 x1 x2 x3)))]))
    refine own_icmp_ne X8 hx hby at_55 (pc' := 62) (by decide) (by decide) (fun hb11 => by exfalso; exact hb11 ((own_law x0 x1 (own_pick x0 x1 x2 x3)).1.mpr hb9)) (fun hb11 => ?_)
    show own_G p e below s _ _ _ (T8.setTop (mkF m 58 #[.val (Value.int x0), .val (Value.int x1), .val (Value.int x2), .val (Value.int x3), .val (Value.int (own_pick x0 x1 x2 x3)), .val (Value.ref b2), .val (Value.int (own_cont x0 x1 (own_pick x0 x1 x2 x3))), .val (Value.int (1 : Int32))] []))
    refine own_iconst X8 hx hby at_58 ?_
    show own_G p e below s _ _ _ (T8.setTop (mkF m 59 #[.val (Value.int x0), .val (Value.int x1), .val (Value.int x2), .val (Value.int x3), .val (Value.int (own_pick x0 x1 x2 x3)), .val (Value.ref b2), .val (Value.int (own_cont x0 x1 (own_pick x0 x1 x2 x3))), .val (Value.int (1 : Int32))] [(Value.int (1 : Int32))]))
    refine own_goto X8 hx hby at_59 (pc' := 63) (by decide) (by decide) ?_
    show own_G p e below s _ _ _ (T8.setTop (mkF m 63 #[.val (Value.int x0), .val (Value.int x1), .val (Value.int x2), .val (Value.int x3), .val (Value.int (own_pick x0 x1 x2 x3)), .val (Value.ref b2), .val (Value.int (own_cont x0 x1 (own_pick x0 x1 x2 x3))), .val (Value.int (1 : Int32))] [(Value.int (1 : Int32))]))
    refine own_retN X8 hx hby hlk (t := .boolean) Bd.returns (by simp) at_63 (by decide) (by decide) ?_
    exact ⟨rfl, N8⟩
set_option maxRecDepth 65536 in
set_option maxHeartbeats 40000000 in
theorem comes_1 {Post : Tables → Env → Array Value → State → Outcome → State → Prop} (hpost : ∀ tb e args s v u, (limb_1_1.after args s (.returned v) u = true ∧ limb_1_2.after args s (.returned v) u = true ∧ True) → FrameEnd s (.returned v) u (Jvm.fieldLocs frame_1_writes args s ++ Jvm.arrayLocs frame_1_arrays args s ++ Jvm.staticLocs frame_1_statics s) 16 128 → Post tb e args s (.returned v) u) :
    ArmFor flags0 classFile x code maxLocals ret World_1 tables_1 room_1 Calls_1 rest_1 Pre_1 Post := by
  intro l hfl _ _ p e ha hc hk s m args below hf hA hF happ hP
  obtain ⟨hcalls, hrest, hpre⟩ := hP
  obtain ⟨-, -, -, hnamed, -, -, -, hat⟩ := (Spec.applies_iff hf).mp happ
  obtain ⟨hg, hn⟩ := and_e (Cond.before_iff.mp (show (Jvm.Cond.and given_1 narrow_1).before args s = true from hpre))
  obtain ⟨hgc, hgr0⟩ := and_e hg
  obtain ⟨hga0, hgr1⟩ := and_e hgr0
  obtain ⟨hga1, hgr2⟩ := and_e hgr1
  obtain ⟨hga2, hgr3⟩ := and_e hgr2
  have hga3 := hgr3
  obtain ⟨w0, w1, w2, w3, rfl⟩ : ∃ w0 w1 w2 w3 : Value, args = #[w0, w1, w2, w3] := by
    have hs : args.size = 4 := by simpa [Cond.value, given_1] using hgc
    obtain ⟨L⟩ := args
    match L, hs with
    | [w0, w1, w2, w3], _ => exact ⟨w0, w1, w2, w3, rfl⟩
  have hw := fun d (hd : d ∈ tables_1) => atoms_spec (ws := Jvm.Cond.code x code maxLocals ret :: tables_1) hat d (List.mem_cons_of_mem _ hd)
  have hfit : Fit s := fun {y c} hc i hi => by
    obtain ⟨ha, rfl⟩ := Array.getElem?_eq_some_iff.mp hc
    have q := List.all_eq_true.mp ((Array.all_eq_true_iff_forall_mem.mp hF) _ (Array.getElem_mem ha)) i (List.mem_range.mpr hi)
    simpa [Array.getElem?_eq_getElem hi] using q
  obtain ⟨i0, ei0⟩ := is_v hga0
  obtain rfl : w0 = (.int i0) := Option.some.inj ei0
  obtain ⟨i1, ei1⟩ := is_v hga1
  obtain rfl : w1 = (.int i1) := Option.some.inj ei1
  obtain ⟨i2, ei2⟩ := is_v hga2
  obtain rfl : w2 = (.int i2) := Option.some.inj ei2
  obtain ⟨i3, ei3⟩ := is_v hga3
  obtain rfl : w3 = (.int i3) := Option.some.inj ei3
  obtain ⟨n, o, h1, h2, h3, _, L, rfl, ⟨rfl, N⟩, hq⟩ := own_rm0 l s _ hw tables_1 i0 i1 i2 i3  s.heap s.heap.size (Old.start s)  p e ha hc hk s m _ below hf ((Spec.applies_iff_loose hf).mp happ).1 ⟨rfl, State.Warmed39.refl s, rfl⟩ trivial
  refine ⟨n, _, h1, h2, h3, hpost _ _ _ _ _ _ ⟨Cond.after_iff.mpr rfl, Cond.after_iff.mpr (eq_i res_at (Term.int_eval (1)) rfl), trivial⟩ ⟨hq.1, hq.2.1, (hq.2.2.sift fun y hy => Or.inr (N y hy)).mono (by decide) (by decide)⟩⟩
theorem main_1_1 : Claimed_1_1 := comes_1 fun _ _ _ _ _ _ h hF => ⟨h.1, hF⟩
theorem main_1_2 : Claimed_1_2 := comes_1 fun _ _ _ _ _ _ h hF => ⟨h.2.1, hF⟩
end Jvm.Pilot.@@N@@
namespace Jvm.Pilot.@@N@@
open Jvm Jvm.ClassFile Sem Op Lib Jvm.Free Jvm.Stand Jvm.Pilot.@@N@@.Jvm.D
/-! MADE BY PROGRAM (witnessworld.py) out of the Statement's table words and the real class files: 10 classes; the members and pool entries that the words name. The judged class is class 1, her method 3. -/
namespace start1
open Jvm.ClassFile
def u (s : String) : CpInfo := .utf8 (stringToUtf16 s)
/-- a pool by its gaps: so many unusable entries, then the entry; so many at the end -/
def gap : Nat → List CpInfo → List CpInfo
  | 0, r => r
  | n + 1, r => .unusable :: gap n r
def poolList (es : List (Nat × CpInfo)) (last : Nat) : List CpInfo := es.foldr (fun e r => gap e.1 (e.2 :: r)) (gap last [])
def pool (es : List (Nat × CpInfo)) (last : Nat) : Array CpInfo := ⟨poolList es last⟩
def fileOf (pool : Array CpInfo) (this : Nat) (attrs : Array Attribute := #[]) (ms : Array MethodInfo := #[]) (fl : Nat := 33) (sup : Nat := 0) (ifs : Array Nat := #[]) (fds : Array FieldInfo := #[]) : ClassFile where
  minorVersion := 0
  majorVersion := 65
  constantPool := pool
  accessFlags := fl
  thisClass := this
  superClass := sup
  interfaces := ifs
  fields := fds
  methods := ms
  attributes := attrs
def plain (name : String) (sup : Option ClassId) : Class where
  name := name
  kind := .ordinary
  loader := none
  accessFlags := 33
  super := sup
  interfaces := #[]
  cf := none
  fields := #[]
  methods := #[]
  instanceTypes := #[]
  staticTypes := #[]
  resolved := #[]
  callSites := []
  init := .initialized
  statics := none
  mirror := none

def pool0 : Array CpInfo := pool [(5, u "<init>"), (0, u "()V"), (1, .class_ 10), (1, u "java/lang/Object")] 113

def k0c0 : Code := { maxStack := 0, maxLocals := 1, code := object_method_1_code, exceptionTable := #[], attributes := #[] }
def k0m0 : Method := { name := "<init>", desc := "()V", sig := { parameters := [], returnType := none }, accessFlags := 1, code := some k0c0 }
/-- java/lang/Object -/
def k0 : Class := { plain "java/lang/Object" none with
  accessFlags := 33
  interfaces := #[]
  cf := some (fileOf pool0 8 #[] #[{ accessFlags := 1, nameIndex := 5, descriptorIndex := 6, attributes := #[] }] 33 0 #[] #[])
  fields := #[]
  methods := #[k0m0]
  instanceTypes := #[]
  staticTypes := #[]
  resolved := Array.replicate 124 none
  statics := none }

def pool1 : Array CpInfo := pool [(2, .class_ 4), (1, u "java/lang/Object"), (0, u "<init>"), (0, u "()V"), (0, .long 4294967295), (1, .methodref 10 11), (0, .class_ 12), (0, .nameAndType 13 14), (0, u "com/example/wattfloor/wattfloor/market/WindowContainsPinLaw"), (0, u "pickValue"), (0, u "(IIII)I"), (0, .class_ 16), (0, u "com/example/wattfloor/wattfloor/market/Window"), (0, .methodref 15 18), (0, .nameAndType 5 19), (0, u "(II)V"), (0, .methodref 15 21), (0, .nameAndType 22 23), (0, u "contains"), (0, u "(I)Z"), (0, .methodref 10 25), (0, .nameAndType 26 27), (0, u "unsignedDistance"), (0, u "(II)J"), (3, u "law"), (0, u "(IIII)Z")] 2

def k1m0 : Method := { name := "<init>", desc := "()V", sig := { parameters := [], returnType := none }, accessFlags := 1, code := none }
def k1c1 : Code := { maxStack := 4, maxLocals := 2, code := method_2_code, exceptionTable := #[], attributes := #[] }
def k1m1 : Method := { name := "unsignedDistance", desc := "(II)J", sig := { parameters := [.int, .int], returnType := some .long }, accessFlags := 10, code := some k1c1 }
def k1c2 : Code := { maxStack := 2, maxLocals := 5, code := method_3_code, exceptionTable := #[], attributes := #[] }
def k1m2 : Method := { name := "pickValue", desc := "(IIII)I", sig := { parameters := [.int, .int, .int, .int], returnType := some .int }, accessFlags := 10, code := some k1c2 }
def k1c3 : Code := { maxStack := 4, maxLocals := 8, code := code, exceptionTable := #[], attributes := #[] }
def k1m3 : Method := { name := "law", desc := "(IIII)Z", sig := { parameters := [.int, .int, .int, .int], returnType := some .boolean }, accessFlags := 9, code := some k1c3 }
/-- com/example/wattfloor/wattfloor/market/WindowContainsPinLaw -/
def k1 : Class := { plain "com/example/wattfloor/wattfloor/market/WindowContainsPinLaw" (some 0) with
  accessFlags := 49
  interfaces := #[]
  cf := some (fileOf pool1 10 #[] #[{ accessFlags := 1, nameIndex := 5, descriptorIndex := 6, attributes := #[] }, { accessFlags := 10, nameIndex := 26, descriptorIndex := 27, attributes := #[] }, { accessFlags := 10, nameIndex := 13, descriptorIndex := 14, attributes := #[] }, { accessFlags := 9, nameIndex := 31, descriptorIndex := 32, attributes := #[] }] 49 2 #[] #[])
  fields := #[]
  methods := #[k1m0, k1m1, k1m2, k1m3]
  instanceTypes := #[]
  staticTypes := #[]
  resolved := Array.replicate 35 none
  statics := none }

def pool2 : Array CpInfo := pool [(1, .methodref 2 3), (0, .class_ 4), (0, .nameAndType 5 6), (0, u "java/lang/Object"), (0, u "<init>"), (0, u "()V"), (0, .class_ 8), (0, u "java/lang/Record")] 13

def k2c0 : Code := { maxStack := 1, maxLocals := 1, code := jdk_30_method_1_code, exceptionTable := #[], attributes := #[] }
def k2m0 : Method := { name := "<init>", desc := "()V", sig := { parameters := [], returnType := none }, accessFlags := 4, code := some k2c0 }
/-- java/lang/Record -/
def k2 : Class := { plain "java/lang/Record" (some 0) with
  accessFlags := 1057
  interfaces := #[]
  cf := some (fileOf pool2 7 #[] #[{ accessFlags := 4, nameIndex := 5, descriptorIndex := 6, attributes := #[] }] 1057 2 #[] #[])
  fields := #[]
  methods := #[k2m0]
  instanceTypes := #[]
  staticTypes := #[]
  resolved := Array.replicate 22 none
  statics := none }

def pool3 : Array CpInfo := pool [(1, .methodref 2 3), (0, .class_ 4), (0, .nameAndType 5 6), (0, u "java/lang/Record"), (0, u "<init>"), (0, u "()V"), (0, .fieldref 8 9), (0, .class_ 10), (0, .nameAndType 11 12), (0, u "com/example/wattfloor/wattfloor/market/Window"), (0, u "begin"), (0, u "I"), (0, .fieldref 8 14), (0, .nameAndType 15 12), (0, u "end"), (12, u "(II)V"), (3, u "contains"), (0, u "(I)Z")] 25

def k3c0 : Code := { maxStack := 2, maxLocals := 3, code := prog_130_method_1_code, exceptionTable := #[], attributes := #[] }
def k3m0 : Method := { name := "<init>", desc := "(II)V", sig := { parameters := [.int, .int], returnType := none }, accessFlags := 1, code := some k3c0 }
def k3c1 : Code := { maxStack := 2, maxLocals := 2, code := prog_130_method_2_code, exceptionTable := #[], attributes := #[] }
def k3m1 : Method := { name := "contains", desc := "(I)Z", sig := { parameters := [.int], returnType := some .boolean }, accessFlags := 1, code := some k3c1 }
/-- com/example/wattfloor/wattfloor/market/Window -/
def k3 : Class := { plain "com/example/wattfloor/wattfloor/market/Window" (some 2) with
  accessFlags := 49
  interfaces := #[]
  cf := some (fileOf pool3 8 #[] #[{ accessFlags := 1, nameIndex := 5, descriptorIndex := 28, attributes := #[] }, { accessFlags := 1, nameIndex := 32, descriptorIndex := 33, attributes := #[] }] 49 2 #[] #[{ accessFlags := 18, nameIndex := 11, descriptorIndex := 12, attributes := #[] }, { accessFlags := 18, nameIndex := 15, descriptorIndex := 12, attributes := #[] }])
  fields := #[{ name := "begin", type := .int, accessFlags := 18, slot := 0, constantValue := 0 }, { name := "end", type := .int, accessFlags := 18, slot := 1, constantValue := 0 }]
  methods := #[k3m0, k3m1]
  instanceTypes := #[.int, .int]
  staticTypes := #[]
  resolved := Array.replicate 59 none
  statics := none }

def pool4 : Array CpInfo := pool [(1, u "java/lang/Cloneable"), (0, .class_ 1), (0, u "java/lang/Object"), (0, .class_ 3)] 3

/-- java/lang/Cloneable -/
def k4 : Class := { plain "java/lang/Cloneable" (some 0) with
  accessFlags := 1537
  interfaces := #[]
  cf := some (fileOf pool4 2 #[] #[] 1537 4 #[] #[])
  fields := #[]
  methods := #[]
  instanceTypes := #[]
  staticTypes := #[]
  resolved := Array.replicate 8 none
  statics := none }

def pool5 : Array CpInfo := pool [(1, u "java/io/Serializable"), (0, .class_ 1), (0, u "java/lang/Object"), (0, .class_ 3)] 3

/-- java/io/Serializable -/
def k5 : Class := { plain "java/io/Serializable" (some 0) with
  accessFlags := 1537
  interfaces := #[]
  cf := some (fileOf pool5 2 #[] #[] 1537 4 #[] #[])
  fields := #[]
  methods := #[]
  instanceTypes := #[]
  staticTypes := #[]
  resolved := Array.replicate 8 none
  statics := none }

/-- the primitive byte -/
def k6 : Class := { plain "byte" none with kind := .primitive 'B', accessFlags := 0x411 }
/-- [B -/
def k7 : Class := { plain "[B" (some 0) with kind := .array 6 .byte, interfaces := #[4, 5], accessFlags := 1041 }

/-- the primitive int -/
def k8 : Class := { plain "int" none with kind := .primitive 'I', accessFlags := 0x411 }
/-- [I -/
def k9 : Class := { plain "[I" (some 0) with kind := .array 8 .int, interfaces := #[4, 5], accessFlags := 1041 }

def heap : Heap := #[]
def classes : Array Class := #[k0, k1, k2, k3, k4, k5, k6, k7, k8, k9]
def interned : List (Array UInt16 × Addr) := []
def slotsUsed : Nat := 0
def theMethod : MethodId := ⟨1, 3⟩
def args0 : Array Value := #[.int 5, .int 7, .int 6, .int 1]
def aboutOver (below : List Frame) : State where
  vm := { classes := classes, interned := interned.toArray }
  heap := heap
  slotsUsed := slotsUsed
  threads := #[{ frames := .invoking theMethod args0 :: below }]
def below0 : List Frame := [.native { method := ⟨0, 0⟩, args := #[] }]
def about1 : State := aboutOver below0
def p0 : Program := .bare "" "" ""
def e0 : Env := launch0.env 0 0 0
theorem w_frames : about1.frames = Frame.invoking theMethod args0 :: below0 := rfl
set_option maxRecDepth 65536 in
theorem w_args : argsFit about1.vm theMethod args0 = true := by decide +kernel
set_option maxRecDepth 65536 in
theorem w_heap : heapFits about1 = true := by decide +kernel
set_option maxRecDepth 65536 in
theorem w_runnable : about1.curStatus? = some .runnable := by decide +kernel
set_option maxRecDepth 65536 in
theorem w_alone : about1.alone = true := by decide +kernel
set_option maxRecDepth 65536 in
theorem w_named : about1.methodNamed? x = some theMethod := by decide +kernel
set_option maxRecDepth 65536 in
theorem w_hears : about1.hears theMethod below0 = true := by decide +kernel
set_option maxRecDepth 65536 in
theorem w_ripe : about1.ripe theMethod args0 below0 = true := by decide +kernel
theorem w_running : about1.status = .running := rfl
set_option maxRecDepth 65536 in
theorem w_room : about1.hasRoom e0.platform room_1 = true :=
  launch0.hasRoom_least _ room_1 (by decide +kernel) (by decide +kernel) (by decide +kernel) (by decide +kernel) (by decide +kernel) (by decide +kernel)
theorem allAtoms_all (ts : List Jvm.Cond) (a : Array Jvm.Value) (st : Jvm.State) : (allAtoms ts).before a st = ts.all (fun c => c.before a st) := by
  induction ts with
  | nil => rfl
  | cons c t ih =>
    show (Jvm.Cond.and c (allAtoms t)).before a st = _
    rw [Jvm.Cond.before_and, ih, List.all_cons]
def words1 : List Jvm.Cond := Jvm.Cond.code x code maxLocals ret :: tables_1
/-- a 'code' word, met by the world's own term for the bytes: nothing is compared byte by byte -/
theorem code_word {y : MethodName} {bytes : ByteArray} {mx : Nat} {rt : Option FieldType} {a : Array Value} {s : State} {m : MethodId} {meth : Method} {c : Code} (h1 : s.methodNamed? y = some m) (h2 : s.vm.method? m = some meth) (h3 : meth.code = some c) (h4 : c.code = bytes)
    (h5 : (c.maxLocals == mx && c.exceptionTable.isEmpty && decide (c.maxStack ≤ mostOperands) && decide (meth.sig.returnType = rt) && !meth.locks && decide (parseMethodDescriptor y.desc = some meth.sig)) = true) : (Jvm.Cond.code y bytes mx rt).before a s = true := by
  simp only [Bool.and_eq_true, beq_iff_eq, Bool.not_eq_true', decide_eq_true_eq] at h5
  obtain ⟨⟨⟨⟨⟨g1, g2⟩, g3⟩, g4⟩, g5⟩, g6⟩ := h5
  simp [Cond.before, Cond.holds, Cond.value, h1, h2, h3, h4, g1, g2, g3, g4, g5, g6]
def isCode : Jvm.Cond → Bool
  | .code _ _ _ _ => true
  | _ => false
theorem all_split {L : List Jvm.Cond} {P : Jvm.Cond → Bool} (h1 : L.all (fun c => isCode c || P c) = true) (h2 : ∀ c ∈ L.filter isCode, P c = true) : L.all P = true := by
  refine List.all_eq_true.mpr fun c hc => ?_
  have h := List.all_eq_true.mp h1 c hc
  rcases Bool.eq_false_or_eq_true (isCode c) with hi | hi
  · exact h2 c (List.mem_filter.mpr ⟨hc, hi⟩)
  · simpa [hi] using h
set_option maxRecDepth 65536 in
theorem w_c0 : (Jvm.Cond.code x code maxLocals ret).before args0 about1 = true := code_word (m := ⟨1, 3⟩) (meth := k1m3) (c := k1c3) (by decide +kernel) rfl rfl rfl (by decide +kernel)
set_option maxRecDepth 65536 in
theorem w_c1 : (Jvm.Cond.code ({ cls := "com/example/wattfloor/wattfloor/market/WindowContainsPinLaw", name := "pickValue", desc := "(IIII)I" } : Jvm.MethodName) method_3_code (5 : Nat) (Option.some Jvm.ClassFile.FieldType.int)).before args0 about1 = true := code_word (m := ⟨1, 2⟩) (meth := k1m2) (c := k1c2) (by decide +kernel) rfl rfl rfl (by decide +kernel)
set_option maxRecDepth 65536 in
theorem w_c2 : (Jvm.Cond.code ({ cls := "com/example/wattfloor/wattfloor/market/Window", name := "<init>", desc := "(II)V" } : Jvm.MethodName) prog_130_method_1_code (3 : Nat) (Option.none : Option Jvm.ClassFile.FieldType)).before args0 about1 = true := code_word (m := ⟨3, 0⟩) (meth := k3m0) (c := k3c0) (by decide +kernel) rfl rfl rfl (by decide +kernel)
set_option maxRecDepth 65536 in
theorem w_c3 : (Jvm.Cond.code ({ cls := "java/lang/Record", name := "<init>", desc := "()V" } : Jvm.MethodName) jdk_30_method_1_code (1 : Nat) (Option.none : Option Jvm.ClassFile.FieldType)).before args0 about1 = true := code_word (m := ⟨2, 0⟩) (meth := k2m0) (c := k2c0) (by decide +kernel) rfl rfl rfl (by decide +kernel)
set_option maxRecDepth 65536 in
theorem w_c4 : (Jvm.Cond.code ({ cls := "java/lang/Object", name := "<init>", desc := "()V" } : Jvm.MethodName) object_method_1_code (1 : Nat) (Option.none : Option Jvm.ClassFile.FieldType)).before args0 about1 = true := code_word (m := ⟨0, 0⟩) (meth := k0m0) (c := k0c0) (by decide +kernel) rfl rfl rfl (by decide +kernel)
set_option maxRecDepth 65536 in
theorem w_c5 : (Jvm.Cond.code ({ cls := "com/example/wattfloor/wattfloor/market/Window", name := "contains", desc := "(I)Z" } : Jvm.MethodName) prog_130_method_2_code (2 : Nat) (Option.some Jvm.ClassFile.FieldType.boolean)).before args0 about1 = true := code_word (m := ⟨3, 1⟩) (meth := k3m1) (c := k3c1) (by decide +kernel) rfl rfl rfl (by decide +kernel)
set_option maxRecDepth 65536 in
theorem w_c6 : (Jvm.Cond.code ({ cls := "com/example/wattfloor/wattfloor/market/WindowContainsPinLaw", name := "unsignedDistance", desc := "(II)J" } : Jvm.MethodName) method_2_code (2 : Nat) (Option.some Jvm.ClassFile.FieldType.long)).before args0 about1 = true := code_word (m := ⟨1, 1⟩) (meth := k1m1) (c := k1c1) (by decide +kernel) rfl rfl rfl (by decide +kernel)
def codes1 : List Jvm.Cond := [Jvm.Cond.code x code maxLocals ret, Jvm.Cond.code ({ cls := "com/example/wattfloor/wattfloor/market/WindowContainsPinLaw", name := "pickValue", desc := "(IIII)I" } : Jvm.MethodName) method_3_code (5 : Nat) (Option.some Jvm.ClassFile.FieldType.int), Jvm.Cond.code ({ cls := "com/example/wattfloor/wattfloor/market/Window", name := "<init>", desc := "(II)V" } : Jvm.MethodName) prog_130_method_1_code (3 : Nat) (Option.none : Option Jvm.ClassFile.FieldType), Jvm.Cond.code ({ cls := "java/lang/Record", name := "<init>", desc := "()V" } : Jvm.MethodName) jdk_30_method_1_code (1 : Nat) (Option.none : Option Jvm.ClassFile.FieldType), Jvm.Cond.code ({ cls := "java/lang/Object", name := "<init>", desc := "()V" } : Jvm.MethodName) object_method_1_code (1 : Nat) (Option.none : Option Jvm.ClassFile.FieldType), Jvm.Cond.code ({ cls := "com/example/wattfloor/wattfloor/market/Window", name := "contains", desc := "(I)Z" } : Jvm.MethodName) prog_130_method_2_code (2 : Nat) (Option.some Jvm.ClassFile.FieldType.boolean), Jvm.Cond.code ({ cls := "com/example/wattfloor/wattfloor/market/WindowContainsPinLaw", name := "unsignedDistance", desc := "(II)J" } : Jvm.MethodName) method_2_code (2 : Nat) (Option.some Jvm.ClassFile.FieldType.long)]
set_option maxRecDepth 65536 in
theorem codes_eq : words1.filter isCode = codes1 := rfl
theorem w_codes : ∀ c ∈ words1.filter isCode, c.before args0 about1 = true := by
  rw [codes_eq]
  intro c hc
  simp only [codes1, List.mem_cons, List.not_mem_nil, or_false] at hc
  rcases hc with rfl | rfl | rfl | rfl | rfl | rfl | rfl
  · exact w_c0
  · exact w_c1
  · exact w_c2
  · exact w_c3
  · exact w_c4
  · exact w_c5
  · exact w_c6
set_option maxRecDepth 65536 in
theorem w_t1 : (words1.take 24).all (fun c => isCode c || c.before args0 about1) = true := by decide +kernel
set_option maxRecDepth 65536 in
theorem w_t2 : (words1.drop 24).all (fun c => isCode c || c.before args0 about1) = true := by decide +kernel
theorem w_tables : (allAtoms (Jvm.Cond.code x code maxLocals ret :: tables_1)).before args0 about1 = true := by
  rw [allAtoms_all]
  show words1.all (fun c => c.before args0 about1) = true
  refine all_split ?_ w_codes
  rw [← List.take_append_drop 24 words1, List.all_append, w_t1, w_t2]
  rfl
set_option maxRecDepth 65536 in
theorem w_case : (Jvm.Cond.and given_1 narrow_1).before args0 about1 = true := by decide +kernel
theorem w_applies : (headSpec (Jvm.Cond.code x code maxLocals ret :: tables_1) room_1).applies x e0.platform about1 = true :=
  (Spec.applies_iff w_frames).mpr ⟨w_running, w_runnable, w_alone, w_named, w_hears, w_ripe, w_room, w_tables⟩
theorem atStart : AtStart classFile x code maxLocals ret World_1 tables_1 room_1 Calls_1 rest_1 Pre_1 launch0 p0 e0 about1 theMethod args0 below0 :=
  ⟨lists_1, trivial, launch0.admits_env _ _ _, launch0.least_env, fairChoices_fair.cas, fairChoices_fair.clock, w_frames, w_args, w_heap, w_applies, trivial, trivial, w_case⟩
end start1
theorem witness_1 : WitnessClaimed_1 := ⟨start1.p0, start1.e0, start1.about1, start1.theMethod, start1.args0, start1.below0, start1.atStart⟩
end Jvm.Pilot.@@N@@
