import JvmDerived
import JvmDerived.Pilot.@@N@@Statement
import JvmDerived.Pilot.@@N@@Code
set_option linter.unusedVariables false
set_option linter.unusedSimpArgs false
namespace Jvm.Pilot.@@N@@
open Jvm Jvm.ClassFile Sem Op Lib Jvm.Free Jvm.Stand Jvm.LawKit Jvm.RoadKit Bundle Jvm.Pilot.@@N@@.Jvm.D
def own_G (p : Program) (e : Env) (below : List Frame) (s : State) (Q : Option Value → Heap → List Loc → Prop) (k n : Nat) (A : State) : Prop :=
  ∃ s₂ o, Steps p.tables e below A s₂ ∧ s₂.status = .running ∧ Ended s₂ below o ∧ ∃ v L, o = .returned v ∧ Q v s₂.heap L ∧ FrameEnd s o s₂ L k n
theorem own_st {p : Program} {e : Env} {below : List Frame} {s : State} {Q : Option Value → Heap → List Loc → Prop} {k n : Nat} {A B : State} (f : ∀ t, Steps p.tables e below B t → Steps p.tables e below A t) (h : own_G p e below s Q k n B) : own_G p e below s Q k n A := by
  obtain ⟨t, o, h1, h2⟩ := h; exact ⟨t, o, f t h1, h2⟩
theorem own_tr {p : Program} {e : Env} {below : List Frame} {s : State} {Q : Option Value → Heap → List Loc → Prop} {k n : Nat} {A B : State} (f : Steps p.tables e below A B) (h : own_G p e below s Q k n B) : own_G p e below s Q k n A := own_st (fun _ => f.trans) h
theorem own_cast {p : Program} {e : Env} {below : List Frame} {s T : State} {Q : Option Value → Heap → List Loc → Prop} {k n : Nat} {g g' : JFrame} (q : g = g') (h : own_G p e below s Q k n (T.setTop g')) : own_G p e below s Q k n (T.setTop g) := q ▸ h
section OwnSteps
variable {p : Program} {l : Launch} {e : Env} {R : Room} {s : State} {m : MethodId} {args : Array Value} {below : List Frame} {meth : Method} {c : Code} {T : State} {locs : List Loc} {cells slots : Nat} {Q : Option Value → Heap → List Loc → Prop} {k n : Nat} {code : ByteArray} {pc : Nat} {Ls : Array Slot} {st : List Value} {Z : State} {a0 : Array Value} {h : Heap}
theorem own_retI (X : Stand p l e R s m args below meth c T locs cells slots) (hx : p.tables.exec = Jvm.exec) (hby : c.code = code) (hlk : meth.locks = false) (hret : meth.sig.returnType = some .int) {z : Int32} (hd : decode code pc = .ok (.ireturn, 1)) (hk : cells ≤ k) (hn : slots ≤ n) (hQ : Q (some (.int z)) T.heap locs) : own_G p e below s Q k n (T.setTop (mkF m pc Ls (.int z :: st))) := by
  obtain ⟨fs, hr, hrun, hended, hW, hsame⟩ := X.leave (v := some (.int z)) (fun h => by rw [hret] at h; cases h) hlk
  exact ⟨_, _, retOut X hx (t := .int) hret rfl (Or.inl ⟨rfl, Or.inl rfl, z, rfl⟩) (hb hby hd) hr, hrun, hended, _, _, rfl, hQ, ⟨_, rfl⟩, hW, hsame.mono hk hn⟩
theorem own_retJ (X : Stand p l e R s m args below meth c T locs cells slots) (hx : p.tables.exec = Jvm.exec) (hby : c.code = code) (hlk : meth.locks = false) (hret : meth.sig.returnType = some .long) {z : Int64} (hd : decode code pc = .ok (.lreturn, 1)) (hk : cells ≤ k) (hn : slots ≤ n) (hQ : Q (some (.long z)) T.heap locs) : own_G p e below s Q k n (T.setTop (mkF m pc Ls (.long z :: st))) := by
  obtain ⟨fs, hr, hrun, hended, hW, hsame⟩ := X.leave (v := some (.long z)) (fun h => by rw [hret] at h; cases h) hlk
  exact ⟨_, _, retOut X hx (t := .long) hret rfl (Or.inr (Or.inl ⟨rfl, rfl, z, rfl⟩)) (hb hby hd) hr, hrun, hended, _, _, rfl, hQ, ⟨_, rfl⟩, hW, hsame.mono hk hn⟩
theorem own_retD (X : Stand p l e R s m args below meth c T locs cells slots) (hx : p.tables.exec = Jvm.exec) (hby : c.code = code) (hlk : meth.locks = false) (hret : meth.sig.returnType = some .double) {z : UInt64} (hd : decode code pc = .ok (.dreturn, 1)) (hk : cells ≤ k) (hn : slots ≤ n) (hQ : Q (some (.double z)) T.heap locs) : own_G p e below s Q k n (T.setTop (mkF m pc Ls (.double z :: st))) := by
  obtain ⟨fs, hr, hrun, hended, hW, hsame⟩ := X.leave (v := some (.double z)) (fun h => by rw [hret] at h; cases h) hlk
  exact ⟨_, _, retOut X hx (t := .double) hret rfl (Or.inr (Or.inr (Or.inl ⟨rfl, rfl, z, rfl⟩))) (hb hby hd) hr, hrun, hended, _, _, rfl, hQ, ⟨_, rfl⟩, hW, hsame.mono hk hn⟩
theorem own_retA (X : Stand p l e R s m args below meth c T locs cells slots) (hx : p.tables.exec = Jvm.exec) (hby : c.code = code) (hlk : meth.locks = false) {ty : FieldType} (hret : meth.sig.returnType = some ty) (hty : ty.isReference = true) {z : Value} (hz : z.isRef = true) (hnz : narrow ty z = z) (hd : decode code pc = .ok (.areturn, 1)) (hk : cells ≤ k) (hn : slots ≤ n) (hQ : Q (some z) T.heap locs) : own_G p e below s Q k n (T.setTop (mkF m pc Ls (z :: st))) := by
  obtain ⟨fs, hr, hrun, hended, hW, hsame⟩ := X.leave (v := some z) (fun h => by rw [hret] at h; cases h) hlk
  exact ⟨_, _, retOut X hx (t := ty) hret hnz (Or.inr (Or.inr (Or.inr (Or.inr ⟨rfl, hty, hz⟩)))) (hb hby hd) hr, hrun, hended, _, _, rfl, hQ, ⟨_, rfl⟩, hW, hsame.mono hk hn⟩
theorem own_retN (X : Stand p l e R s m args below meth c T locs cells slots) (hx : p.tables.exec = Jvm.exec) (hby : c.code = code) (hlk : meth.locks = false) {t : FieldType} (hret : meth.sig.returnType = some t) (ht : t = .boolean ∨ t = .byte ∨ t = .char ∨ t = .short) {z : Int32} (hd : decode code pc = .ok (.ireturn, 1)) (hk : cells ≤ k) (hn : slots ≤ n) (hQ : Q (some (.int (nar t z))) T.heap locs) : own_G p e below s Q k n (T.setTop (mkF m pc Ls (.int z :: st))) := by
  obtain ⟨fs, hr, hrun, hended, hW, hsame⟩ := X.leave (v := some (.int (nar t z))) (fun h => by rw [hret] at h; cases h) hlk
  exact ⟨_, _, retN X hx (t := t) hret ht (hb hby hd) hr, hrun, hended, _, _, rfl, hQ, ⟨_, rfl⟩, hW, hsame.mono hk hn⟩
theorem own_ret0 (X : Stand p l e R s m args below meth c T locs cells slots) (hx : p.tables.exec = Jvm.exec) (hby : c.code = code) (hlk : meth.locks = false) (hret : meth.sig.returnType = none) (hd : decode code pc = .ok (.return_, 1)) (hk : cells ≤ k) (hn : slots ≤ n) (hQ : Q none T.heap locs) : own_G p e below s Q k n (T.setTop (mkF m pc Ls [])) := by
  obtain ⟨fs, hr, hrun, hended, hW, hsame⟩ := X.leave (v := none) (fun _ => rfl) hlk
  exact ⟨_, _, X.returnOut hx hret (hb hby hd) hr, hrun, hended, _, _, rfl, hQ, ⟨_, rfl⟩, hW, hsame.mono hk hn⟩
theorem own_iloadN (X : Stand p l e R s m args below meth c T locs cells slots) (hx : p.tables.exec = Jvm.exec) (hby : c.code = code) {kk : Fin 4} {v : Int32} (hd : decode code pc = .ok (.iload_n kk, 1)) (hl : Ls[kk.val]? = some (.val (.int v))) (h : own_G p e below s Q k n (T.setTop (mkF m (pc + 1) Ls (.int v :: st)))) : own_G p e below s Q k n (T.setTop (mkF m pc Ls st)) := own_st (fun _ => XS.iloadN X.here hx rfl (hb hby hd) hl) h
theorem own_iload (X : Stand p l e R s m args below meth c T locs cells slots) (hx : p.tables.exec = Jvm.exec) (hby : c.code = code) {kk : Nat} {v : Int32} (hd : decode code pc = .ok (.iload kk, 2)) (hl : Ls[kk]? = some (.val (.int v))) (h : own_G p e below s Q k n (T.setTop (mkF m (pc + 2) Ls (.int v :: st)))) : own_G p e below s Q k n (T.setTop (mkF m pc Ls st)) := own_st (fun _ => XS.iload X.here hx rfl (hb hby hd) hl) h
theorem own_lloadN (X : Stand p l e R s m args below meth c T locs cells slots) (hx : p.tables.exec = Jvm.exec) (hby : c.code = code) {kk : Fin 4} {v : Int64} (hd : decode code pc = .ok (.lload_n kk, 1)) (hl : Ls[kk.val]? = some (.val (.long v))) (h : own_G p e below s Q k n (T.setTop (mkF m (pc + 1) Ls (.long v :: st)))) : own_G p e below s Q k n (T.setTop (mkF m pc Ls st)) := own_st (fun _ => XS.lloadN X.here hx rfl (hb hby hd) hl) h
theorem own_lload (X : Stand p l e R s m args below meth c T locs cells slots) (hx : p.tables.exec = Jvm.exec) (hby : c.code = code) {kk : Nat} {v : Int64} (hd : decode code pc = .ok (.lload kk, 2)) (hl : Ls[kk]? = some (.val (.long v))) (h : own_G p e below s Q k n (T.setTop (mkF m (pc + 2) Ls (.long v :: st)))) : own_G p e below s Q k n (T.setTop (mkF m pc Ls st)) := own_st (fun _ => XS.lload X.here hx rfl (hb hby hd) hl) h
theorem own_dloadN (X : Stand p l e R s m args below meth c T locs cells slots) (hx : p.tables.exec = Jvm.exec) (hby : c.code = code) {kk : Fin 4} {v : UInt64} (hd : decode code pc = .ok (.dload_n kk, 1)) (hl : Ls[kk.val]? = some (.val (.double v))) (h : own_G p e below s Q k n (T.setTop (mkF m (pc + 1) Ls (.double v :: st)))) : own_G p e below s Q k n (T.setTop (mkF m pc Ls st)) := own_st (fun _ => XS.dloadN X.here hx rfl (hb hby hd) hl) h
theorem own_dload (X : Stand p l e R s m args below meth c T locs cells slots) (hx : p.tables.exec = Jvm.exec) (hby : c.code = code) {kk : Nat} {v : UInt64} (hd : decode code pc = .ok (.dload kk, 2)) (hl : Ls[kk]? = some (.val (.double v))) (h : own_G p e below s Q k n (T.setTop (mkF m (pc + 2) Ls (.double v :: st)))) : own_G p e below s Q k n (T.setTop (mkF m pc Ls st)) := own_st (fun _ => XS.dload X.here hx rfl (hb hby hd) hl) h
theorem own_aloadN (X : Stand p l e R s m args below meth c T locs cells slots) (hx : p.tables.exec = Jvm.exec) (hby : c.code = code) {kk : Fin 4} {v : Value} (hd : decode code pc = .ok (.aload_n kk, 1)) (hl : Ls[kk.val]? = some (.val v)) (hv : v.isRef = true) (h : own_G p e below s Q k n (T.setTop (mkF m (pc + 1) Ls (v :: st)))) : own_G p e below s Q k n (T.setTop (mkF m pc Ls st)) := own_st (fun _ => XS.aloadN X.here hx rfl (hb hby hd) hl hv) h
theorem own_aload (X : Stand p l e R s m args below meth c T locs cells slots) (hx : p.tables.exec = Jvm.exec) (hby : c.code = code) {kk : Nat} {v : Value} (hd : decode code pc = .ok (.aload kk, 2)) (hl : Ls[kk]? = some (.val v)) (hv : v.isRef = true) (h : own_G p e below s Q k n (T.setTop (mkF m (pc + 2) Ls (v :: st)))) : own_G p e below s Q k n (T.setTop (mkF m pc Ls st)) := own_st (fun _ => XS.aload X.here hx rfl (hb hby hd) hl hv) h
theorem own_istoreN (X : Stand p l e R s m args below meth c T locs cells slots) (hx : p.tables.exec = Jvm.exec) (hby : c.code = code) {kk : Fin 4} {v : Int32} {l' : Array Slot} (hd : decode code pc = .ok (.istore_n kk, 1)) (hl : storeLocals Ls kk.val (.int v) = some l') (h : own_G p e below s Q k n (T.setTop (mkF m (pc + 1) l' st))) : own_G p e below s Q k n (T.setTop (mkF m pc Ls (.int v :: st))) := own_st (fun _ => XS.istoreN X.here hx rfl (hb hby hd) rfl hl) h
theorem own_istore (X : Stand p l e R s m args below meth c T locs cells slots) (hx : p.tables.exec = Jvm.exec) (hby : c.code = code) {kk : Nat} {v : Int32} {l' : Array Slot} (hd : decode code pc = .ok (.istore kk, 2)) (hl : storeLocals Ls kk (.int v) = some l') (h : own_G p e below s Q k n (T.setTop (mkF m (pc + 2) l' st))) : own_G p e below s Q k n (T.setTop (mkF m pc Ls (.int v :: st))) := own_st (fun _ => XS.istore X.here hx rfl (hb hby hd) rfl hl) h
theorem own_lstoreN (X : Stand p l e R s m args below meth c T locs cells slots) (hx : p.tables.exec = Jvm.exec) (hby : c.code = code) {kk : Fin 4} {v : Int64} {l' : Array Slot} (hd : decode code pc = .ok (.lstore_n kk, 1)) (hl : storeLocals Ls kk.val (.long v) = some l') (h : own_G p e below s Q k n (T.setTop (mkF m (pc + 1) l' st))) : own_G p e below s Q k n (T.setTop (mkF m pc Ls (.long v :: st))) := own_st (fun _ => XS.lstoreN X.here hx rfl (hb hby hd) rfl hl) h
theorem own_lstore (X : Stand p l e R s m args below meth c T locs cells slots) (hx : p.tables.exec = Jvm.exec) (hby : c.code = code) {kk : Nat} {v : Int64} {l' : Array Slot} (hd : decode code pc = .ok (.lstore kk, 2)) (hl : storeLocals Ls kk (.long v) = some l') (h : own_G p e below s Q k n (T.setTop (mkF m (pc + 2) l' st))) : own_G p e below s Q k n (T.setTop (mkF m pc Ls (.long v :: st))) := own_st (fun _ => XS.lstore X.here hx rfl (hb hby hd) rfl hl) h
theorem own_dstoreN (X : Stand p l e R s m args below meth c T locs cells slots) (hx : p.tables.exec = Jvm.exec) (hby : c.code = code) {kk : Fin 4} {v : UInt64} {l' : Array Slot} (hd : decode code pc = .ok (.dstore_n kk, 1)) (hl : storeLocals Ls kk.val (.double v) = some l') (h : own_G p e below s Q k n (T.setTop (mkF m (pc + 1) l' st))) : own_G p e below s Q k n (T.setTop (mkF m pc Ls (.double v :: st))) := own_st (fun _ => XS.dstoreN X.here hx rfl (hb hby hd) rfl hl) h
theorem own_dstore (X : Stand p l e R s m args below meth c T locs cells slots) (hx : p.tables.exec = Jvm.exec) (hby : c.code = code) {kk : Nat} {v : UInt64} {l' : Array Slot} (hd : decode code pc = .ok (.dstore kk, 2)) (hl : storeLocals Ls kk (.double v) = some l') (h : own_G p e below s Q k n (T.setTop (mkF m (pc + 2) l' st))) : own_G p e below s Q k n (T.setTop (mkF m pc Ls (.double v :: st))) := own_st (fun _ => XS.dstore X.here hx rfl (hb hby hd) rfl hl) h
theorem own_astoreN (X : Stand p l e R s m args below meth c T locs cells slots) (hx : p.tables.exec = Jvm.exec) (hby : c.code = code) {kk : Fin 4} {v : Value} {l' : Array Slot} (hd : decode code pc = .ok (.astore_n kk, 1)) (hv : v.isRef = true) (hl : storeLocals Ls kk.val v = some l') (h : own_G p e below s Q k n (T.setTop (mkF m (pc + 1) l' st))) : own_G p e below s Q k n (T.setTop (mkF m pc Ls (v :: st))) := own_st (fun _ => XS.astoreN X.here hx rfl (hb hby hd) rfl hv hl) h
theorem own_astore (X : Stand p l e R s m args below meth c T locs cells slots) (hx : p.tables.exec = Jvm.exec) (hby : c.code = code) {kk : Nat} {v : Value} {l' : Array Slot} (hd : decode code pc = .ok (.astore kk, 2)) (hv : v.isRef = true) (hl : storeLocals Ls kk v = some l') (h : own_G p e below s Q k n (T.setTop (mkF m (pc + 2) l' st))) : own_G p e below s Q k n (T.setTop (mkF m pc Ls (v :: st))) := own_st (fun _ => XS.astore X.here hx rfl (hb hby hd) rfl hv hl) h
theorem own_iconst (X : Stand p l e R s m args below meth c T locs cells slots) (hx : p.tables.exec = Jvm.exec) (hby : c.code = code) {i : Int} (hd : decode code pc = .ok (.iconst i, 1))  (h : own_G p e below s Q k n (T.setTop (mkF m (pc + 1) Ls (.int (Int32.ofInt i) :: st)))) : own_G p e below s Q k n (T.setTop (mkF m pc Ls st)) := own_st (fun _ => XS.iconst X.here hx rfl (hb hby hd)) h
theorem own_bipush (X : Stand p l e R s m args below meth c T locs cells slots) (hx : p.tables.exec = Jvm.exec) (hby : c.code = code) {i : Int} (hd : decode code pc = .ok (.bipush i, 2))  (h : own_G p e below s Q k n (T.setTop (mkF m (pc + 2) Ls (.int (Int8.ofInt i).toInt32 :: st)))) : own_G p e below s Q k n (T.setTop (mkF m pc Ls st)) := own_st (fun _ => XS.bipush X.here hx rfl (hb hby hd)) h
theorem own_sipush (X : Stand p l e R s m args below meth c T locs cells slots) (hx : p.tables.exec = Jvm.exec) (hby : c.code = code) {i : Int} (hd : decode code pc = .ok (.sipush i, 3))  (h : own_G p e below s Q k n (T.setTop (mkF m (pc + 3) Ls (.int (Int16.ofInt i).toInt32 :: st)))) : own_G p e below s Q k n (T.setTop (mkF m pc Ls st)) := own_st (fun _ => XS.sipush X.here hx rfl (hb hby hd)) h
theorem own_lconst (X : Stand p l e R s m args below meth c T locs cells slots) (hx : p.tables.exec = Jvm.exec) (hby : c.code = code) {i : Fin 2} (hd : decode code pc = .ok (.lconst i, 1))  (h : own_G p e below s Q k n (T.setTop (mkF m (pc + 1) Ls (.long (Int64.ofNat i) :: st)))) : own_G p e below s Q k n (T.setTop (mkF m pc Ls st)) := own_st (fun _ => XS.lconst X.here hx rfl (hb hby hd)) h
theorem own_aconst_null (X : Stand p l e R s m args below meth c T locs cells slots) (hx : p.tables.exec = Jvm.exec) (hby : c.code = code)  (hd : decode code pc = .ok (.aconst_null, 1))  (h : own_G p e below s Q k n (T.setTop (mkF m (pc + 1) Ls (.null :: st)))) : own_G p e below s Q k n (T.setTop (mkF m pc Ls st)) := own_st (fun _ => XS.aconstNull X.here hx rfl (hb hby hd)) h
theorem own_iadd (X : Stand p l e R s m args below meth c T locs cells slots) (hx : p.tables.exec = Jvm.exec) (hby : c.code = code) {x y : Int32} (hd : decode code pc = .ok (.iadd, 1))  (h : own_G p e below s Q k n (T.setTop (mkF m (pc + 1) Ls (.int (x + y) :: st)))) : own_G p e below s Q k n (T.setTop (mkF m pc Ls (.int y :: .int x :: st))) := own_st (fun _ => XS.iadd X.here hx rfl (hb hby hd) rfl) h
theorem own_isub (X : Stand p l e R s m args below meth c T locs cells slots) (hx : p.tables.exec = Jvm.exec) (hby : c.code = code) {x y : Int32} (hd : decode code pc = .ok (.isub, 1))  (h : own_G p e below s Q k n (T.setTop (mkF m (pc + 1) Ls (.int (x - y) :: st)))) : own_G p e below s Q k n (T.setTop (mkF m pc Ls (.int y :: .int x :: st))) := own_st (fun _ => XS.isub X.here hx rfl (hb hby hd) rfl) h
theorem own_imul (X : Stand p l e R s m args below meth c T locs cells slots) (hx : p.tables.exec = Jvm.exec) (hby : c.code = code) {x y : Int32} (hd : decode code pc = .ok (.imul, 1))  (h : own_G p e below s Q k n (T.setTop (mkF m (pc + 1) Ls (.int (x * y) :: st)))) : own_G p e below s Q k n (T.setTop (mkF m pc Ls (.int y :: .int x :: st))) := own_st (fun _ => XS.imul X.here hx rfl (hb hby hd) rfl) h
theorem own_iand (X : Stand p l e R s m args below meth c T locs cells slots) (hx : p.tables.exec = Jvm.exec) (hby : c.code = code) {x y : Int32} (hd : decode code pc = .ok (.iand, 1))  (h : own_G p e below s Q k n (T.setTop (mkF m (pc + 1) Ls (.int (x &&& y) :: st)))) : own_G p e below s Q k n (T.setTop (mkF m pc Ls (.int y :: .int x :: st))) := own_st (fun _ => XS.iand X.here hx rfl (hb hby hd) rfl) h
theorem own_ior (X : Stand p l e R s m args below meth c T locs cells slots) (hx : p.tables.exec = Jvm.exec) (hby : c.code = code) {x y : Int32} (hd : decode code pc = .ok (.ior, 1))  (h : own_G p e below s Q k n (T.setTop (mkF m (pc + 1) Ls (.int (x ||| y) :: st)))) : own_G p e below s Q k n (T.setTop (mkF m pc Ls (.int y :: .int x :: st))) := own_st (fun _ => XS.ior X.here hx rfl (hb hby hd) rfl) h
theorem own_ixor (X : Stand p l e R s m args below meth c T locs cells slots) (hx : p.tables.exec = Jvm.exec) (hby : c.code = code) {x y : Int32} (hd : decode code pc = .ok (.ixor, 1))  (h : own_G p e below s Q k n (T.setTop (mkF m (pc + 1) Ls (.int (x ^^^ y) :: st)))) : own_G p e below s Q k n (T.setTop (mkF m pc Ls (.int y :: .int x :: st))) := own_st (fun _ => XS.ixor X.here hx rfl (hb hby hd) rfl) h
theorem own_ishl (X : Stand p l e R s m args below meth c T locs cells slots) (hx : p.tables.exec = Jvm.exec) (hby : c.code = code) {x y : Int32} (hd : decode code pc = .ok (.ishl, 1))  (h : own_G p e below s Q k n (T.setTop (mkF m (pc + 1) Ls (.int (x <<< (y &&& 31)) :: st)))) : own_G p e below s Q k n (T.setTop (mkF m pc Ls (.int y :: .int x :: st))) := own_st (fun _ => XS.ishl X.here hx rfl (hb hby hd) rfl) h
theorem own_ishr (X : Stand p l e R s m args below meth c T locs cells slots) (hx : p.tables.exec = Jvm.exec) (hby : c.code = code) {x y : Int32} (hd : decode code pc = .ok (.ishr, 1))  (h : own_G p e below s Q k n (T.setTop (mkF m (pc + 1) Ls (.int (x >>> (y &&& 31)) :: st)))) : own_G p e below s Q k n (T.setTop (mkF m pc Ls (.int y :: .int x :: st))) := own_st (fun _ => XS.ishr X.here hx rfl (hb hby hd) rfl) h
theorem own_iushr (X : Stand p l e R s m args below meth c T locs cells slots) (hx : p.tables.exec = Jvm.exec) (hby : c.code = code) {x y : Int32} (hd : decode code pc = .ok (.iushr, 1))  (h : own_G p e below s Q k n (T.setTop (mkF m (pc + 1) Ls (.int ((x.toUInt32 >>> (y &&& 31).toUInt32).toInt32) :: st)))) : own_G p e below s Q k n (T.setTop (mkF m pc Ls (.int y :: .int x :: st))) := own_st (fun _ => XS.iushr X.here hx rfl (hb hby hd) rfl) h
theorem own_ladd (X : Stand p l e R s m args below meth c T locs cells slots) (hx : p.tables.exec = Jvm.exec) (hby : c.code = code) {x y : Int64} (hd : decode code pc = .ok (.ladd, 1))  (h : own_G p e below s Q k n (T.setTop (mkF m (pc + 1) Ls (.long (x + y) :: st)))) : own_G p e below s Q k n (T.setTop (mkF m pc Ls (.long y :: .long x :: st))) := own_st (fun _ => XS.ladd X.here hx rfl (hb hby hd) rfl) h
theorem own_lsub (X : Stand p l e R s m args below meth c T locs cells slots) (hx : p.tables.exec = Jvm.exec) (hby : c.code = code) {x y : Int64} (hd : decode code pc = .ok (.lsub, 1))  (h : own_G p e below s Q k n (T.setTop (mkF m (pc + 1) Ls (.long (x - y) :: st)))) : own_G p e below s Q k n (T.setTop (mkF m pc Ls (.long y :: .long x :: st))) := own_st (fun _ => XS.lsub X.here hx rfl (hb hby hd) rfl) h
theorem own_lmul (X : Stand p l e R s m args below meth c T locs cells slots) (hx : p.tables.exec = Jvm.exec) (hby : c.code = code) {x y : Int64} (hd : decode code pc = .ok (.lmul, 1))  (h : own_G p e below s Q k n (T.setTop (mkF m (pc + 1) Ls (.long (x * y) :: st)))) : own_G p e below s Q k n (T.setTop (mkF m pc Ls (.long y :: .long x :: st))) := own_st (fun _ => XS.lmul X.here hx rfl (hb hby hd) rfl) h
theorem own_land (X : Stand p l e R s m args below meth c T locs cells slots) (hx : p.tables.exec = Jvm.exec) (hby : c.code = code) {x y : Int64} (hd : decode code pc = .ok (.land, 1))  (h : own_G p e below s Q k n (T.setTop (mkF m (pc + 1) Ls (.long (x &&& y) :: st)))) : own_G p e below s Q k n (T.setTop (mkF m pc Ls (.long y :: .long x :: st))) := own_st (fun _ => XS.land X.here hx rfl (hb hby hd) rfl) h
theorem own_lor (X : Stand p l e R s m args below meth c T locs cells slots) (hx : p.tables.exec = Jvm.exec) (hby : c.code = code) {x y : Int64} (hd : decode code pc = .ok (.lor, 1))  (h : own_G p e below s Q k n (T.setTop (mkF m (pc + 1) Ls (.long (x ||| y) :: st)))) : own_G p e below s Q k n (T.setTop (mkF m pc Ls (.long y :: .long x :: st))) := own_st (fun _ => XS.lor X.here hx rfl (hb hby hd) rfl) h
theorem own_lxor (X : Stand p l e R s m args below meth c T locs cells slots) (hx : p.tables.exec = Jvm.exec) (hby : c.code = code) {x y : Int64} (hd : decode code pc = .ok (.lxor, 1))  (h : own_G p e below s Q k n (T.setTop (mkF m (pc + 1) Ls (.long (x ^^^ y) :: st)))) : own_G p e below s Q k n (T.setTop (mkF m pc Ls (.long y :: .long x :: st))) := own_st (fun _ => XS.lxor X.here hx rfl (hb hby hd) rfl) h
theorem own_lshl (X : Stand p l e R s m args below meth c T locs cells slots) (hx : p.tables.exec = Jvm.exec) (hby : c.code = code) {x : Int64} {y : Int32} (hd : decode code pc = .ok (.lshl, 1))  (h : own_G p e below s Q k n (T.setTop (mkF m (pc + 1) Ls (.long (x <<< (y &&& 0x3f).toInt64) :: st)))) : own_G p e below s Q k n (T.setTop (mkF m pc Ls (.int y :: .long x :: st))) := own_st (fun _ => XS.lshl X.here hx rfl (hb hby hd) rfl) h
theorem own_lshr (X : Stand p l e R s m args below meth c T locs cells slots) (hx : p.tables.exec = Jvm.exec) (hby : c.code = code) {x : Int64} {y : Int32} (hd : decode code pc = .ok (.lshr, 1))  (h : own_G p e below s Q k n (T.setTop (mkF m (pc + 1) Ls (.long (x >>> (y &&& 0x3f).toInt64) :: st)))) : own_G p e below s Q k n (T.setTop (mkF m pc Ls (.int y :: .long x :: st))) := own_st (fun _ => XS.lshr X.here hx rfl (hb hby hd) rfl) h
theorem own_lushr (X : Stand p l e R s m args below meth c T locs cells slots) (hx : p.tables.exec = Jvm.exec) (hby : c.code = code) {x : Int64} {y : Int32} (hd : decode code pc = .ok (.lushr, 1))  (h : own_G p e below s Q k n (T.setTop (mkF m (pc + 1) Ls (.long ((x.toUInt64 >>> (y &&& 0x3f).toInt64.toUInt64).toInt64) :: st)))) : own_G p e below s Q k n (T.setTop (mkF m pc Ls (.int y :: .long x :: st))) := own_st (fun _ => XS.lushr X.here hx rfl (hb hby hd) rfl) h
theorem own_idiv (X : Stand p l e R s m args below meth c T locs cells slots) (hx : p.tables.exec = Jvm.exec) (hby : c.code = code) {x y : Int32} (hd : decode code pc = .ok (.idiv, 1)) (hy : y ≠ 0) (h : own_G p e below s Q k n (T.setTop (mkF m (pc + 1) Ls (.int (x / y) :: st)))) : own_G p e below s Q k n (T.setTop (mkF m pc Ls (.int y :: .int x :: st))) := own_st (fun _ => XS.idiv X.here hx rfl (hb hby hd) rfl hy) h
theorem own_irem (X : Stand p l e R s m args below meth c T locs cells slots) (hx : p.tables.exec = Jvm.exec) (hby : c.code = code) {x y : Int32} (hd : decode code pc = .ok (.irem, 1)) (hy : y ≠ 0) (h : own_G p e below s Q k n (T.setTop (mkF m (pc + 1) Ls (.int (x % y) :: st)))) : own_G p e below s Q k n (T.setTop (mkF m pc Ls (.int y :: .int x :: st))) := own_st (fun _ => iremM X hx rfl (hb hby hd) rfl hy) h
theorem own_ldiv (X : Stand p l e R s m args below meth c T locs cells slots) (hx : p.tables.exec = Jvm.exec) (hby : c.code = code) {x y : Int64} (hd : decode code pc = .ok (.ldiv, 1)) (hy : y ≠ 0) (h : own_G p e below s Q k n (T.setTop (mkF m (pc + 1) Ls (.long (x / y) :: st)))) : own_G p e below s Q k n (T.setTop (mkF m pc Ls (.long y :: .long x :: st))) := own_st (fun _ => XS.ldiv X.here hx rfl (hb hby hd) rfl hy) h
theorem own_lrem (X : Stand p l e R s m args below meth c T locs cells slots) (hx : p.tables.exec = Jvm.exec) (hby : c.code = code) {x y : Int64} (hd : decode code pc = .ok (.lrem, 1)) (hy : y ≠ 0) (h : own_G p e below s Q k n (T.setTop (mkF m (pc + 1) Ls (.long (x % y) :: st)))) : own_G p e below s Q k n (T.setTop (mkF m pc Ls (.long y :: .long x :: st))) := own_st (fun _ hr => XS.lrem X.here hx rfl (hb hby hd) rfl hy (by rw [lrem_mod]; exact hr)) h
theorem own_ineg (X : Stand p l e R s m args below meth c T locs cells slots) (hx : p.tables.exec = Jvm.exec) (hby : c.code = code) {x : Int32} (hd : decode code pc = .ok (.ineg, 1))  (h : own_G p e below s Q k n (T.setTop (mkF m (pc + 1) Ls (.int (-x) :: st)))) : own_G p e below s Q k n (T.setTop (mkF m pc Ls (.int x :: st))) := own_st (fun _ => XS.ineg X.here hx rfl (hb hby hd) rfl) h
theorem own_lneg (X : Stand p l e R s m args below meth c T locs cells slots) (hx : p.tables.exec = Jvm.exec) (hby : c.code = code) {x : Int64} (hd : decode code pc = .ok (.lneg, 1))  (h : own_G p e below s Q k n (T.setTop (mkF m (pc + 1) Ls (.long (-x) :: st)))) : own_G p e below s Q k n (T.setTop (mkF m pc Ls (.long x :: st))) := own_st (fun _ => XS.lneg X.here hx rfl (hb hby hd) rfl) h
theorem own_i2l (X : Stand p l e R s m args below meth c T locs cells slots) (hx : p.tables.exec = Jvm.exec) (hby : c.code = code) {x : Int32} (hd : decode code pc = .ok (.i2l, 1))  (h : own_G p e below s Q k n (T.setTop (mkF m (pc + 1) Ls (.long (x.toInt64) :: st)))) : own_G p e below s Q k n (T.setTop (mkF m pc Ls (.int x :: st))) := own_st (fun _ => XS.i2l X.here hx rfl (hb hby hd) rfl) h
theorem own_l2i (X : Stand p l e R s m args below meth c T locs cells slots) (hx : p.tables.exec = Jvm.exec) (hby : c.code = code) {x : Int64} (hd : decode code pc = .ok (.l2i, 1))  (h : own_G p e below s Q k n (T.setTop (mkF m (pc + 1) Ls (.int (x.toInt32) :: st)))) : own_G p e below s Q k n (T.setTop (mkF m pc Ls (.long x :: st))) := own_st (fun _ => XS.l2i X.here hx rfl (hb hby hd) rfl) h
theorem own_i2b (X : Stand p l e R s m args below meth c T locs cells slots) (hx : p.tables.exec = Jvm.exec) (hby : c.code = code) {x : Int32} (hd : decode code pc = .ok (.i2b, 1))  (h : own_G p e below s Q k n (T.setTop (mkF m (pc + 1) Ls (.int (x.toInt8.toInt32) :: st)))) : own_G p e below s Q k n (T.setTop (mkF m pc Ls (.int x :: st))) := own_st (fun _ => XS.i2b X.here hx rfl (hb hby hd) rfl) h
theorem own_i2s (X : Stand p l e R s m args below meth c T locs cells slots) (hx : p.tables.exec = Jvm.exec) (hby : c.code = code) {x : Int32} (hd : decode code pc = .ok (.i2s, 1))  (h : own_G p e below s Q k n (T.setTop (mkF m (pc + 1) Ls (.int (x.toInt16.toInt32) :: st)))) : own_G p e below s Q k n (T.setTop (mkF m pc Ls (.int x :: st))) := own_st (fun _ => XS.i2s X.here hx rfl (hb hby hd) rfl) h
theorem own_i2c (X : Stand p l e R s m args below meth c T locs cells slots) (hx : p.tables.exec = Jvm.exec) (hby : c.code = code) {x : Int32} (hd : decode code pc = .ok (.i2c, 1))  (h : own_G p e below s Q k n (T.setTop (mkF m (pc + 1) Ls (.int (x.toUInt32.toUInt16.toUInt32.toInt32) :: st)))) : own_G p e below s Q k n (T.setTop (mkF m pc Ls (.int x :: st))) := own_st (fun _ => XS.i2c X.here hx rfl (hb hby hd) rfl) h
theorem own_dup (X : Stand p l e R s m args below meth c T locs cells slots) (hx : p.tables.exec = Jvm.exec) (hby : c.code = code) {v : Value} (hd : decode code pc = .ok (.dup, 1)) (hc : v.category = 1) (h : own_G p e below s Q k n (T.setTop (mkF m (pc + 1) Ls (v :: v :: st)))) : own_G p e below s Q k n (T.setTop (mkF m pc Ls (v :: st))) := own_st (fun _ => XS.dup X.here hx rfl (hb hby hd) rfl hc) h
theorem own_dup_x1 (X : Stand p l e R s m args below meth c T locs cells slots) (hx : p.tables.exec = Jvm.exec) (hby : c.code = code) {v w : Value} (hd : decode code pc = .ok (.dup_x1, 1)) (hc : v.category = 1) (hc' : w.category = 1) (h : own_G p e below s Q k n (T.setTop (mkF m (pc + 1) Ls (v :: w :: v :: st)))) : own_G p e below s Q k n (T.setTop (mkF m pc Ls (v :: w :: st))) := own_st (fun _ => XS.dupX1 X.here hx rfl (hb hby hd) rfl hc hc') h
theorem own_dup2 (X : Stand p l e R s m args below meth c T locs cells slots) (hx : p.tables.exec = Jvm.exec) (hby : c.code = code) {v w : Value} (hd : decode code pc = .ok (.dup2, 1)) (hc : v.category = 1) (hc' : w.category = 1) (h : own_G p e below s Q k n (T.setTop (mkF m (pc + 1) Ls (v :: w :: v :: w :: st)))) : own_G p e below s Q k n (T.setTop (mkF m pc Ls (v :: w :: st))) := own_st (fun _ => Jvm.Free.XT.dup2 X.here hx rfl (hb hby hd) rfl hc hc') h
theorem own_dup2L (X : Stand p l e R s m args below meth c T locs cells slots) (hx : p.tables.exec = Jvm.exec) (hby : c.code = code) {v : Int64} (hd : decode code pc = .ok (.dup2, 1))  (h : own_G p e below s Q k n (T.setTop (mkF m (pc + 1) Ls (.long v :: .long v :: st)))) : own_G p e below s Q k n (T.setTop (mkF m pc Ls (.long v :: st))) := own_st (fun _ => Jvm.Free.XT.dup2L X.here hx rfl (hb hby hd) rfl) h
theorem own_pop (X : Stand p l e R s m args below meth c T locs cells slots) (hx : p.tables.exec = Jvm.exec) (hby : c.code = code) {v : Value} (hd : decode code pc = .ok (.pop, 1)) (hc : v.category = 1) (h : own_G p e below s Q k n (T.setTop (mkF m (pc + 1) Ls st))) : own_G p e below s Q k n (T.setTop (mkF m pc Ls (v :: st))) := own_st (fun _ => XS.pop X.here hx rfl (hb hby hd) rfl hc) h
theorem own_iinc (X : Stand p l e R s m args below meth c T locs cells slots) (hx : p.tables.exec = Jvm.exec) (hby : c.code = code) {kk : Nat} {cst : Int} {x : Int32} {l' : Array Slot} (hd : decode code pc = .ok (.iinc kk cst, 3)) (hl : Ls[kk]? = some (.val (.int x))) (hl' : storeLocals Ls kk (.int (x + Int32.ofInt cst)) = some l') (h : own_G p e below s Q k n (T.setTop (mkF m (pc + 3) l' st))) : own_G p e below s Q k n (T.setTop (mkF m pc Ls st)) := own_st (fun _ => XS.iinc X.here hx rfl (hb hby hd) hl hl') h
theorem own_goto (X : Stand p l e R s m args below meth c T locs cells slots) (hx : p.tables.exec = Jvm.exec) (hby : c.code = code) {o : Int} {pc' : Nat} (hd : decode code pc = .ok (.goto o, 3)) (ho : 0 ≤ (pc : Int) + o) (hp : ((pc : Int) + o).toNat = pc') (h : own_G p e below s Q k n (T.setTop (mkF m pc' Ls st))) : own_G p e below s Q k n (T.setTop (mkF m pc Ls st)) := own_st (fun _ => XS.goto X.here hx rfl rfl (hb hby hd) ho hp) h
theorem own_icmp_eq (X : Stand p l e R s m args below meth c T locs cells slots) (hx : p.tables.exec = Jvm.exec) (hby : c.code = code) {x y : Int32} {o : Int} {pc' : Nat} (hd : decode code pc = .ok (.if_icmp .eq o, 3)) (ho : 0 ≤ (pc : Int) + o) (hp : ((pc : Int) + o).toNat = pc') (hY : x = y → own_G p e below s Q k n (T.setTop (mkF m pc' Ls st))) (hN : ¬ x = y → own_G p e below s Q k n (T.setTop (mkF m (pc + 3) Ls st))) : own_G p e below s Q k n (T.setTop (mkF m pc Ls (.int y :: .int x :: st))) := by
  by_cases q : x = y
  · exact own_st (fun _ => XS.icmpYes X.here hx rfl rfl (hb hby hd) rfl (teq q).1 ho hp) (hY q)
  · exact own_st (fun _ => XS.icmpNo X.here hx rfl (hb hby hd) rfl (feq q).1) (hN q)
theorem own_if_eq (X : Stand p l e R s m args below meth c T locs cells slots) (hx : p.tables.exec = Jvm.exec) (hby : c.code = code) {x : Int32} {o : Int} {pc' : Nat} (hd : decode code pc = .ok (.ifCond .eq o, 3)) (ho : 0 ≤ (pc : Int) + o) (hp : ((pc : Int) + o).toNat = pc') (hY : x = 0 → own_G p e below s Q k n (T.setTop (mkF m pc' Ls st))) (hN : ¬ x = 0 → own_G p e below s Q k n (T.setTop (mkF m (pc + 3) Ls st))) : own_G p e below s Q k n (T.setTop (mkF m pc Ls (.int x :: st))) := by
  by_cases q : x = 0
  · exact own_st (fun _ => XS.ifYes X.here hx rfl rfl (hb hby hd) rfl ((if0 _ _).trans (teq q).1) ho hp) (hY q)
  · exact own_st (fun _ => XS.ifNo X.here hx rfl (hb hby hd) rfl ((if0 _ _).trans (feq q).1)) (hN q)
theorem own_lcmp_eq (X : Stand p l e R s m args below meth c T locs cells slots) (hx : p.tables.exec = Jvm.exec) (hby : c.code = code) {x y : Int64} {o : Int} {pc' : Nat} (hd : decode code pc = .ok (.lcmp, 1)) (hd2 : decode code (pc + 1) = .ok (.ifCond .eq o, 3)) (ho : 0 ≤ ((pc + 1 : Nat) : Int) + o) (hp : (((pc + 1 : Nat) : Int) + o).toNat = pc') (hY : x = y → own_G p e below s Q k n (T.setTop (mkF m pc' Ls st))) (hN : ¬ x = y → own_G p e below s Q k n (T.setTop (mkF m (pc + 4) Ls st))) : own_G p e below s Q k n (T.setTop (mkF m pc Ls (.long y :: .long x :: st))) := by
  refine own_st (fun _ => XS.lcmp X.here hx rfl (hb hby hd) rfl) ?_
  exact own_if_eq (x := lcmpW x y) X hx hby hd2 ho hp (fun q => hY ((lw_eq x y).mp q)) (fun q => hN (fun z => q ((lw_eq x y).mpr z)))
theorem own_icmp_ne (X : Stand p l e R s m args below meth c T locs cells slots) (hx : p.tables.exec = Jvm.exec) (hby : c.code = code) {x y : Int32} {o : Int} {pc' : Nat} (hd : decode code pc = .ok (.if_icmp .ne o, 3)) (ho : 0 ≤ (pc : Int) + o) (hp : ((pc : Int) + o).toNat = pc') (hY : ¬ x = y → own_G p e below s Q k n (T.setTop (mkF m pc' Ls st))) (hN : x = y → own_G p e below s Q k n (T.setTop (mkF m (pc + 3) Ls st))) : own_G p e below s Q k n (T.setTop (mkF m pc Ls (.int y :: .int x :: st))) := by
  by_cases q : x = y
  · exact own_st (fun _ => XS.icmpNo X.here hx rfl (hb hby hd) rfl (teq q).2) (hN q)
  · exact own_st (fun _ => XS.icmpYes X.here hx rfl rfl (hb hby hd) rfl (feq q).2 ho hp) (hY q)
theorem own_if_ne (X : Stand p l e R s m args below meth c T locs cells slots) (hx : p.tables.exec = Jvm.exec) (hby : c.code = code) {x : Int32} {o : Int} {pc' : Nat} (hd : decode code pc = .ok (.ifCond .ne o, 3)) (ho : 0 ≤ (pc : Int) + o) (hp : ((pc : Int) + o).toNat = pc') (hY : ¬ x = 0 → own_G p e below s Q k n (T.setTop (mkF m pc' Ls st))) (hN : x = 0 → own_G p e below s Q k n (T.setTop (mkF m (pc + 3) Ls st))) : own_G p e below s Q k n (T.setTop (mkF m pc Ls (.int x :: st))) := by
  by_cases q : x = 0
  · exact own_st (fun _ => XS.ifNo X.here hx rfl (hb hby hd) rfl ((if0 _ _).trans (teq q).2)) (hN q)
  · exact own_st (fun _ => XS.ifYes X.here hx rfl rfl (hb hby hd) rfl ((if0 _ _).trans (feq q).2) ho hp) (hY q)
theorem own_lcmp_ne (X : Stand p l e R s m args below meth c T locs cells slots) (hx : p.tables.exec = Jvm.exec) (hby : c.code = code) {x y : Int64} {o : Int} {pc' : Nat} (hd : decode code pc = .ok (.lcmp, 1)) (hd2 : decode code (pc + 1) = .ok (.ifCond .ne o, 3)) (ho : 0 ≤ ((pc + 1 : Nat) : Int) + o) (hp : (((pc + 1 : Nat) : Int) + o).toNat = pc') (hY : ¬ x = y → own_G p e below s Q k n (T.setTop (mkF m pc' Ls st))) (hN : x = y → own_G p e below s Q k n (T.setTop (mkF m (pc + 4) Ls st))) : own_G p e below s Q k n (T.setTop (mkF m pc Ls (.long y :: .long x :: st))) := by
  refine own_st (fun _ => XS.lcmp X.here hx rfl (hb hby hd) rfl) ?_
  exact own_if_ne (x := lcmpW x y) X hx hby hd2 ho hp (fun q => hY (fun z => q ((lw_eq x y).mpr z))) (fun q => hN ((lw_eq x y).mp q))
theorem own_icmp_lt (X : Stand p l e R s m args below meth c T locs cells slots) (hx : p.tables.exec = Jvm.exec) (hby : c.code = code) {x y : Int32} {o : Int} {pc' : Nat} (hd : decode code pc = .ok (.if_icmp .lt o, 3)) (ho : 0 ≤ (pc : Int) + o) (hp : ((pc : Int) + o).toNat = pc') (hY : x < y → own_G p e below s Q k n (T.setTop (mkF m pc' Ls st))) (hN : ¬ x < y → own_G p e below s Q k n (T.setTop (mkF m (pc + 3) Ls st))) : own_G p e below s Q k n (T.setTop (mkF m pc Ls (.int y :: .int x :: st))) := by
  by_cases q : x < y
  · exact own_st (fun _ => XS.icmpYes X.here hx rfl rfl (hb hby hd) rfl (tlt q).1 ho hp) (hY q)
  · exact own_st (fun _ => XS.icmpNo X.here hx rfl (hb hby hd) rfl (flt q).1) (hN q)
theorem own_if_lt (X : Stand p l e R s m args below meth c T locs cells slots) (hx : p.tables.exec = Jvm.exec) (hby : c.code = code) {x : Int32} {o : Int} {pc' : Nat} (hd : decode code pc = .ok (.ifCond .lt o, 3)) (ho : 0 ≤ (pc : Int) + o) (hp : ((pc : Int) + o).toNat = pc') (hY : x < 0 → own_G p e below s Q k n (T.setTop (mkF m pc' Ls st))) (hN : ¬ x < 0 → own_G p e below s Q k n (T.setTop (mkF m (pc + 3) Ls st))) : own_G p e below s Q k n (T.setTop (mkF m pc Ls (.int x :: st))) := by
  by_cases q : x < 0
  · exact own_st (fun _ => XS.ifYes X.here hx rfl rfl (hb hby hd) rfl ((if0 _ _).trans (tlt q).1) ho hp) (hY q)
  · exact own_st (fun _ => XS.ifNo X.here hx rfl (hb hby hd) rfl ((if0 _ _).trans (flt q).1)) (hN q)
theorem own_lcmp_lt (X : Stand p l e R s m args below meth c T locs cells slots) (hx : p.tables.exec = Jvm.exec) (hby : c.code = code) {x y : Int64} {o : Int} {pc' : Nat} (hd : decode code pc = .ok (.lcmp, 1)) (hd2 : decode code (pc + 1) = .ok (.ifCond .lt o, 3)) (ho : 0 ≤ ((pc + 1 : Nat) : Int) + o) (hp : (((pc + 1 : Nat) : Int) + o).toNat = pc') (hY : x < y → own_G p e below s Q k n (T.setTop (mkF m pc' Ls st))) (hN : ¬ x < y → own_G p e below s Q k n (T.setTop (mkF m (pc + 4) Ls st))) : own_G p e below s Q k n (T.setTop (mkF m pc Ls (.long y :: .long x :: st))) := by
  refine own_st (fun _ => XS.lcmp X.here hx rfl (hb hby hd) rfl) ?_
  exact own_if_lt (x := lcmpW x y) X hx hby hd2 ho hp (fun q => hY ((lw_lt x y).mp q)) (fun q => hN (fun z => q ((lw_lt x y).mpr z)))
theorem own_icmp_ge (X : Stand p l e R s m args below meth c T locs cells slots) (hx : p.tables.exec = Jvm.exec) (hby : c.code = code) {x y : Int32} {o : Int} {pc' : Nat} (hd : decode code pc = .ok (.if_icmp .ge o, 3)) (ho : 0 ≤ (pc : Int) + o) (hp : ((pc : Int) + o).toNat = pc') (hY : ¬ x < y → own_G p e below s Q k n (T.setTop (mkF m pc' Ls st))) (hN : x < y → own_G p e below s Q k n (T.setTop (mkF m (pc + 3) Ls st))) : own_G p e below s Q k n (T.setTop (mkF m pc Ls (.int y :: .int x :: st))) := by
  by_cases q : x < y
  · exact own_st (fun _ => XS.icmpNo X.here hx rfl (hb hby hd) rfl (tlt q).2.1) (hN q)
  · exact own_st (fun _ => XS.icmpYes X.here hx rfl rfl (hb hby hd) rfl (flt q).2.1 ho hp) (hY q)
theorem own_if_ge (X : Stand p l e R s m args below meth c T locs cells slots) (hx : p.tables.exec = Jvm.exec) (hby : c.code = code) {x : Int32} {o : Int} {pc' : Nat} (hd : decode code pc = .ok (.ifCond .ge o, 3)) (ho : 0 ≤ (pc : Int) + o) (hp : ((pc : Int) + o).toNat = pc') (hY : ¬ x < 0 → own_G p e below s Q k n (T.setTop (mkF m pc' Ls st))) (hN : x < 0 → own_G p e below s Q k n (T.setTop (mkF m (pc + 3) Ls st))) : own_G p e below s Q k n (T.setTop (mkF m pc Ls (.int x :: st))) := by
  by_cases q : x < 0
  · exact own_st (fun _ => XS.ifNo X.here hx rfl (hb hby hd) rfl ((if0 _ _).trans (tlt q).2.1)) (hN q)
  · exact own_st (fun _ => XS.ifYes X.here hx rfl rfl (hb hby hd) rfl ((if0 _ _).trans (flt q).2.1) ho hp) (hY q)
theorem own_lcmp_ge (X : Stand p l e R s m args below meth c T locs cells slots) (hx : p.tables.exec = Jvm.exec) (hby : c.code = code) {x y : Int64} {o : Int} {pc' : Nat} (hd : decode code pc = .ok (.lcmp, 1)) (hd2 : decode code (pc + 1) = .ok (.ifCond .ge o, 3)) (ho : 0 ≤ ((pc + 1 : Nat) : Int) + o) (hp : (((pc + 1 : Nat) : Int) + o).toNat = pc') (hY : ¬ x < y → own_G p e below s Q k n (T.setTop (mkF m pc' Ls st))) (hN : x < y → own_G p e below s Q k n (T.setTop (mkF m (pc + 4) Ls st))) : own_G p e below s Q k n (T.setTop (mkF m pc Ls (.long y :: .long x :: st))) := by
  refine own_st (fun _ => XS.lcmp X.here hx rfl (hb hby hd) rfl) ?_
  exact own_if_ge (x := lcmpW x y) X hx hby hd2 ho hp (fun q => hY (fun z => q ((lw_lt x y).mpr z))) (fun q => hN ((lw_lt x y).mp q))
theorem own_icmp_gt (X : Stand p l e R s m args below meth c T locs cells slots) (hx : p.tables.exec = Jvm.exec) (hby : c.code = code) {x y : Int32} {o : Int} {pc' : Nat} (hd : decode code pc = .ok (.if_icmp .gt o, 3)) (ho : 0 ≤ (pc : Int) + o) (hp : ((pc : Int) + o).toNat = pc') (hY : y < x → own_G p e below s Q k n (T.setTop (mkF m pc' Ls st))) (hN : ¬ y < x → own_G p e below s Q k n (T.setTop (mkF m (pc + 3) Ls st))) : own_G p e below s Q k n (T.setTop (mkF m pc Ls (.int y :: .int x :: st))) := by
  by_cases q : y < x
  · exact own_st (fun _ => XS.icmpYes X.here hx rfl rfl (hb hby hd) rfl (tlt q).2.2.1 ho hp) (hY q)
  · exact own_st (fun _ => XS.icmpNo X.here hx rfl (hb hby hd) rfl (flt q).2.2.1) (hN q)
theorem own_if_gt (X : Stand p l e R s m args below meth c T locs cells slots) (hx : p.tables.exec = Jvm.exec) (hby : c.code = code) {x : Int32} {o : Int} {pc' : Nat} (hd : decode code pc = .ok (.ifCond .gt o, 3)) (ho : 0 ≤ (pc : Int) + o) (hp : ((pc : Int) + o).toNat = pc') (hY : 0 < x → own_G p e below s Q k n (T.setTop (mkF m pc' Ls st))) (hN : ¬ 0 < x → own_G p e below s Q k n (T.setTop (mkF m (pc + 3) Ls st))) : own_G p e below s Q k n (T.setTop (mkF m pc Ls (.int x :: st))) := by
  by_cases q : 0 < x
  · exact own_st (fun _ => XS.ifYes X.here hx rfl rfl (hb hby hd) rfl ((if0 _ _).trans (tlt q).2.2.1) ho hp) (hY q)
  · exact own_st (fun _ => XS.ifNo X.here hx rfl (hb hby hd) rfl ((if0 _ _).trans (flt q).2.2.1)) (hN q)
theorem own_lcmp_gt (X : Stand p l e R s m args below meth c T locs cells slots) (hx : p.tables.exec = Jvm.exec) (hby : c.code = code) {x y : Int64} {o : Int} {pc' : Nat} (hd : decode code pc = .ok (.lcmp, 1)) (hd2 : decode code (pc + 1) = .ok (.ifCond .gt o, 3)) (ho : 0 ≤ ((pc + 1 : Nat) : Int) + o) (hp : (((pc + 1 : Nat) : Int) + o).toNat = pc') (hY : y < x → own_G p e below s Q k n (T.setTop (mkF m pc' Ls st))) (hN : ¬ y < x → own_G p e below s Q k n (T.setTop (mkF m (pc + 4) Ls st))) : own_G p e below s Q k n (T.setTop (mkF m pc Ls (.long y :: .long x :: st))) := by
  refine own_st (fun _ => XS.lcmp X.here hx rfl (hb hby hd) rfl) ?_
  exact own_if_gt (x := lcmpW x y) X hx hby hd2 ho hp (fun q => hY ((lw_gt x y).mp q)) (fun q => hN (fun z => q ((lw_gt x y).mpr z)))
theorem own_icmp_le (X : Stand p l e R s m args below meth c T locs cells slots) (hx : p.tables.exec = Jvm.exec) (hby : c.code = code) {x y : Int32} {o : Int} {pc' : Nat} (hd : decode code pc = .ok (.if_icmp .le o, 3)) (ho : 0 ≤ (pc : Int) + o) (hp : ((pc : Int) + o).toNat = pc') (hY : ¬ y < x → own_G p e below s Q k n (T.setTop (mkF m pc' Ls st))) (hN : y < x → own_G p e below s Q k n (T.setTop (mkF m (pc + 3) Ls st))) : own_G p e below s Q k n (T.setTop (mkF m pc Ls (.int y :: .int x :: st))) := by
  by_cases q : y < x
  · exact own_st (fun _ => XS.icmpNo X.here hx rfl (hb hby hd) rfl (tlt q).2.2.2) (hN q)
  · exact own_st (fun _ => XS.icmpYes X.here hx rfl rfl (hb hby hd) rfl (flt q).2.2.2 ho hp) (hY q)
theorem own_if_le (X : Stand p l e R s m args below meth c T locs cells slots) (hx : p.tables.exec = Jvm.exec) (hby : c.code = code) {x : Int32} {o : Int} {pc' : Nat} (hd : decode code pc = .ok (.ifCond .le o, 3)) (ho : 0 ≤ (pc : Int) + o) (hp : ((pc : Int) + o).toNat = pc') (hY : ¬ 0 < x → own_G p e below s Q k n (T.setTop (mkF m pc' Ls st))) (hN : 0 < x → own_G p e below s Q k n (T.setTop (mkF m (pc + 3) Ls st))) : own_G p e below s Q k n (T.setTop (mkF m pc Ls (.int x :: st))) := by
  by_cases q : 0 < x
  · exact own_st (fun _ => XS.ifNo X.here hx rfl (hb hby hd) rfl ((if0 _ _).trans (tlt q).2.2.2)) (hN q)
  · exact own_st (fun _ => XS.ifYes X.here hx rfl rfl (hb hby hd) rfl ((if0 _ _).trans (flt q).2.2.2) ho hp) (hY q)
theorem own_lcmp_le (X : Stand p l e R s m args below meth c T locs cells slots) (hx : p.tables.exec = Jvm.exec) (hby : c.code = code) {x y : Int64} {o : Int} {pc' : Nat} (hd : decode code pc = .ok (.lcmp, 1)) (hd2 : decode code (pc + 1) = .ok (.ifCond .le o, 3)) (ho : 0 ≤ ((pc + 1 : Nat) : Int) + o) (hp : (((pc + 1 : Nat) : Int) + o).toNat = pc') (hY : ¬ y < x → own_G p e below s Q k n (T.setTop (mkF m pc' Ls st))) (hN : y < x → own_G p e below s Q k n (T.setTop (mkF m (pc + 4) Ls st))) : own_G p e below s Q k n (T.setTop (mkF m pc Ls (.long y :: .long x :: st))) := by
  refine own_st (fun _ => XS.lcmp X.here hx rfl (hb hby hd) rfl) ?_
  exact own_if_le (x := lcmpW x y) X hx hby hd2 ho hp (fun q => hY (fun z => q ((lw_gt x y).mpr z))) (fun q => hN ((lw_gt x y).mp q))
theorem own_acmp_eq (X : Stand p l e R s m args below meth c T locs cells slots) (hx : p.tables.exec = Jvm.exec) (hby : c.code = code) {x y : Value} {o : Int} {pc' : Nat} (hx1 : x.isRef = true) (hy1 : y.isRef = true) (hd : decode code pc = .ok (.if_acmp .eq o, 3)) (ho : 0 ≤ (pc : Int) + o) (hp : ((pc : Int) + o).toNat = pc') (hY : x = y → own_G p e below s Q k n (T.setTop (mkF m pc' Ls st))) (hN : ¬ x = y → own_G p e below s Q k n (T.setTop (mkF m (pc + 3) Ls st))) : own_G p e below s Q k n (T.setTop (mkF m pc Ls (y :: x :: st))) := by
  by_cases q : x = y
  · exact own_st (fun _ => Jvm.Free.XT.acmpYes X.here hx rfl rfl (hb hby hd) rfl hx1 hy1 (decide_eq_true q) ho hp) (hY q)
  · exact own_st (fun _ => Jvm.Free.XT.acmpNo X.here hx rfl (hb hby hd) rfl hx1 hy1 (decide_eq_false q)) (hN q)
theorem own_acmp_ne (X : Stand p l e R s m args below meth c T locs cells slots) (hx : p.tables.exec = Jvm.exec) (hby : c.code = code) {x y : Value} {o : Int} {pc' : Nat} (hx1 : x.isRef = true) (hy1 : y.isRef = true) (hd : decode code pc = .ok (.if_acmp .ne o, 3)) (ho : 0 ≤ (pc : Int) + o) (hp : ((pc : Int) + o).toNat = pc') (hY : ¬ x = y → own_G p e below s Q k n (T.setTop (mkF m pc' Ls st))) (hN : x = y → own_G p e below s Q k n (T.setTop (mkF m (pc + 3) Ls st))) : own_G p e below s Q k n (T.setTop (mkF m pc Ls (y :: x :: st))) := by
  by_cases q : x = y
  · exact own_st (fun _ => Jvm.Free.XT.acmpNo X.here hx rfl (hb hby hd) rfl hx1 hy1 (decide_eq_false (fun z => z q))) (hN q)
  · exact own_st (fun _ => Jvm.Free.XT.acmpYes X.here hx rfl rfl (hb hby hd) rfl hx1 hy1 (decide_eq_true q) ho hp) (hY q)
theorem own_ifnullY (X : Stand p l e R s m args below meth c T locs cells slots) (hx : p.tables.exec = Jvm.exec) (hby : c.code = code) {o : Int} {pc' : Nat} (hd : decode code pc = .ok (.ifnull o, 3)) (ho : 0 ≤ (pc : Int) + o) (hp : ((pc : Int) + o).toNat = pc') (h : own_G p e below s Q k n (T.setTop (mkF m pc' Ls st))) : own_G p e below s Q k n (T.setTop (mkF m pc Ls (.null :: st))) := own_st (fun _ => XS.ifnullYes X.here hx rfl rfl (hb hby hd) rfl ho hp) h
theorem own_ifnullN (X : Stand p l e R s m args below meth c T locs cells slots) (hx : p.tables.exec = Jvm.exec) (hby : c.code = code) {o : Int} {b : Addr} (hd : decode code pc = .ok (.ifnull o, 3)) (h : own_G p e below s Q k n (T.setTop (mkF m (pc + 3) Ls st))) : own_G p e below s Q k n (T.setTop (mkF m pc Ls (.ref b :: st))) := own_st (fun _ => XS.ifnullNo X.here hx rfl (hb hby hd) rfl) h
theorem own_ifnonnullY (X : Stand p l e R s m args below meth c T locs cells slots) (hx : p.tables.exec = Jvm.exec) (hby : c.code = code) {o : Int} {b : Addr} {pc' : Nat} (hd : decode code pc = .ok (.ifnonnull o, 3)) (ho : 0 ≤ (pc : Int) + o) (hp : ((pc : Int) + o).toNat = pc') (h : own_G p e below s Q k n (T.setTop (mkF m pc' Ls st))) : own_G p e below s Q k n (T.setTop (mkF m pc Ls (.ref b :: st))) := own_st (fun _ => XS.ifnonnullYes X.here hx rfl rfl (hb hby hd) rfl ho hp) h
theorem own_ifnonnullN (X : Stand p l e R s m args below meth c T locs cells slots) (hx : p.tables.exec = Jvm.exec) (hby : c.code = code) {o : Int} (hd : decode code pc = .ok (.ifnonnull o, 3)) (h : own_G p e below s Q k n (T.setTop (mkF m (pc + 3) Ls st))) : own_G p e below s Q k n (T.setTop (mkF m pc Ls (.null :: st))) := own_st (fun _ => XS.ifnonnullNo X.here hx rfl (hb hby hd) rfl) h
theorem own_tswIn (X : Stand p l e R s m args below meth c T locs cells slots) (hx : p.tables.exec = Jvm.exec) (hby : c.code = code) {dflt low high : Int} {offs : Array Int} {len : Nat} {o : Int} {pc' : Nat} {i : Int32} (hd : decode code pc = .ok (.tableswitch dflt low high offs, len)) (hin : ¬ (i.toInt < low ∨ i.toInt > high)) (hoff : offs[(i.toInt - low).toNat]? = some o) (ho : 0 ≤ (pc : Int) + o) (hp : ((pc : Int) + o).toNat = pc') (h : own_G p e below s Q k n (T.setTop (mkF m pc' Ls st))) : own_G p e below s Q k n (T.setTop (mkF m pc Ls (.int i :: st))) := own_st (fun _ => XS.tswIn (g := mkF m pc Ls (.int i :: st)) (pc0 := pc) X.here hx rfl rfl (hb hby hd) rfl hin hoff ho hp) h
theorem own_ldcI (X : Stand p l e R s m args below meth c T locs cells slots) (hx : p.tables.exec = Jvm.exec) (hby : c.code = code) (hZ : Z.Warmed39 s.vm) {own : String} {i : Nat} {v : Int32} (hown : s.vm.findClass own = some m.cls) (w : (Cond.constant own i v).before a0 Z = true) (hd : decode code pc = .ok (.ldc i, 2)) (h : own_G p e below s Q k n (T.setTop (mkF m (pc + 2) Ls (.int v :: st)))) : own_G p e below s Q k n (T.setTop (mkF m pc Ls st)) := own_st (X.ldcInt hx hown (mvT hZ w) rfl (hb hby hd)) h
theorem own_ldcJ (X : Stand p l e R s m args below meth c T locs cells slots) (hx : p.tables.exec = Jvm.exec) (hby : c.code = code) (hZ : Z.Warmed39 s.vm) {own : String} {i : Nat} {v : Int64} (hown : s.vm.findClass own = some m.cls) (w : (Cond.constantLong own i v).before a0 Z = true) (hd : decode code pc = .ok (.ldc2_w i, 3)) (h : own_G p e below s Q k n (T.setTop (mkF m (pc + 3) Ls (.long v :: st)))) : own_G p e below s Q k n (T.setTop (mkF m pc Ls st)) := own_st (X.ldc2Long hx hown (mvT hZ w) rfl (hb hby hd)) h
theorem own_instNull (X : Stand p l e R s m args below meth c T locs cells slots) (hx : p.tables.exec = Jvm.exec) (hby : c.code = code) {i : Nat} (hd : decode code pc = .ok (.instanceof i, 3)) (h : own_G p e below s Q k n (T.setTop (mkF m (pc + 3) Ls (.int 0 :: st)))) : own_G p e below s Q k n (T.setTop (mkF m pc Ls (.null :: st))) := own_st (X.instanceofNull hx rfl rfl (hb hby hd)) h
theorem own_castNull (X : Stand p l e R s m args below meth c T locs cells slots) (hx : p.tables.exec = Jvm.exec) (hby : c.code = code) {i : Nat} (hd : decode code pc = .ok (.checkcast i, 3)) (h : own_G p e below s Q k n (T.setTop (mkF m (pc + 3) Ls (.null :: st)))) : own_G p e below s Q k n (T.setTop (mkF m pc Ls (.null :: st))) := own_st (X.checkcastNull hx rfl rfl (hb hby hd)) h
def own_Ar (Z : State) (h : Heap) (a : Addr) (ty : FieldType) (n : Nat) (f : Nat → Value) : Prop := ∃ c : Cell, Arr Z h a c ty ∧ c.slots.size = n ∧ n < 2 ^ 31 ∧ ∀ j, j < n → c.slots[j]? = some (f j)
def own_set (f : Nat → Value) (j : Nat) (v : Value) : Nat → Value := fun i => if i = j then v else f i
theorem own_set_same (f : Nat → Value) (j : Nat) (v : Value) : own_set f j v j = v := if_pos rfl
theorem own_set_ne (f : Nat → Value) {i j : Nat} (v : Value) (q : i ≠ j) : own_set f j v i = f i := if_neg q
theorem own_Ar.lt {a : Addr} {ty : FieldType} {N : Nat} {f : Nat → Value} (F : own_Ar Z h a ty N f) : a < h.size := by obtain ⟨c, A, -⟩ := F; exact A.lt
theorem own_Ar.small {a : Addr} {ty : FieldType} {N : Nat} {f : Nat → Value} (F : own_Ar Z h a ty N f) : N < 2 ^ 31 := by obtain ⟨c, -, -, q, -⟩ := F; exact q
theorem own_Ar.ext {h' : Heap} {a : Addr} {ty : FieldType} {N : Nat} {f : Nat → Value} (F : own_Ar Z h a ty N f) (E : Ext h h') : own_Ar Z h' a ty N f := by obtain ⟨c, A, r⟩ := F; exact ⟨c, A.ext E, r⟩
theorem own_Ar.other {h' : Heap} {a b : Addr} {sl : Nat} {v : Value} {ty : FieldType} {N : Nat} {f : Nat → Value} (F : own_Ar Z h b ty N f) (W : Wr h h' a sl v) (q : b ≠ a) : own_Ar Z h' b ty N f := by obtain ⟨c, A, r⟩ := F; exact ⟨c, A.other W q, r⟩
theorem own_Ar.keep {h' : Heap} {a : Addr} {ws : List Addr} {ty : FieldType} {N : Nat} {f : Nat → Value} (F : own_Ar Z h a ty N f) (K : Keep h h' ws) (q : a ∉ ws) : own_Ar Z h' a ty N f := by obtain ⟨c, A, r⟩ := F; exact ⟨c, ⟨K.2.1 a c A.1 q, A.2⟩, r⟩
theorem own_Ar.fn {a : Addr} {ty : FieldType} {N : Nat} {f g : Nat → Value} (F : own_Ar Z h a ty N f) (q : ∀ j, j < N → f j = g j) : own_Ar Z h a ty N g := by obtain ⟨c, A, r1, r2, r3⟩ := F; exact ⟨c, A, r1, r2, fun j hj => by rw [r3 j hj, q j hj]⟩
theorem own_Ar.store {h' : Heap} {a : Addr} {c : Cell} {ty : FieldType} {N j : Nat} {f : Nat → Value} {v : Value} (A : Arr Z h a c ty) (r1 : c.slots.size = N) (r2 : N < 2 ^ 31) (r3 : ∀ j, j < N → c.slots[j]? = some (f j)) (W : Wr h h' a j v) : own_Ar Z h' a ty N (own_set f j v) := by
  refine ⟨_, A.same W, by rw [sz_set]; exact r1, r2, fun i hi => ?_⟩
  by_cases e : i = j
  · subst e; rw [own_set_same]; simp [Cell.setSlot, r1, hi]
  · rw [own_set_ne _ _ e, ← r3 i hi]; exact Array.getElem?_setIfInBounds_ne (fun q => e q.symm)
theorem own_Ar.new {a : Addr} {ty : FieldType} {kc : ClassId} {z : Int32} (A : Arr Z h a (newA kc ty z) ty) (q : ¬ z < 0) : own_Ar Z h a ty z.toNatClampNeg (fun _ => defaultValue ty) :=
  ⟨_, A, sz_new _ _ _, (back32 q).2, fun j hj => by simp [newA, hj]⟩
theorem own_inb {N : Nat} {j : Int32} {i : Nat} (hj : j.toInt = i) (hi : i < N) : ¬ (j < 0 ∨ N ≤ j.toNatClampNeg) ∧ j.toNatClampNeg = i := by
  have q : j.toNatClampNeg = i := by simp only [Int32.toNatClampNeg, hj]; omega
  refine ⟨?_, q⟩
  rw [q]; simp only [Int32.lt_iff_toInt_lt, hj, Int32.reduceToInt]; omega
def own_Ov (Z : State) (h : Heap) (a : Addr) (C : String) : Prop := ∃ cell : Cell, h[a]? = some cell ∧ Ovr Z cell.cls C
theorem own_Ov.ext {h' : Heap} {a : Addr} {C : String} (F : own_Ov Z h a C) (E : Ext h h') : own_Ov Z h' a C := by obtain ⟨c, h1, h2⟩ := F; exact ⟨c, E.2 _ _ h1, h2⟩
theorem own_Ov.wr {h' : Heap} {a b : Addr} {sl : Nat} {v : Value} {C : String} (F : own_Ov Z h a C) (W : Wr h h' b sl v) : own_Ov Z h' a C := by obtain ⟨c, h1, h2⟩ := F; obtain ⟨c', e1, e2, -⟩ := wr_at W h1; exact ⟨c', e1, by rw [e2]; exact h2⟩
theorem own_Ov.keep {h' : Heap} {a : Addr} {ws : List Addr} {C : String} (F : own_Ov Z h a C) (K : Keep h h' ws) : own_Ov Z h' a C := by obtain ⟨c, h1, h2⟩ := F; obtain ⟨c', e1, e2, -⟩ := K.2.2 _ _ h1; exact ⟨c', e1, by rw [e2]; exact h2⟩
theorem own_sto {a y : Addr} {ty : FieldType} {N : Nat} {f : Nat → Value} {C : String} (F : own_Ar Z h a ty N f) (V : own_Ov Z h a C) (I : Ins Z h y C true) : Sto Z h a (.ref y) := by
  obtain ⟨c, A, -⟩ := F; obtain ⟨c', h1, h2⟩ := V; cases A.1.symm.trans h1; exact Sto.of A h2 I
theorem own_alen (X : Stand p l e R s m args below meth c T locs cells slots) (hx : p.tables.exec = Jvm.exec) (hby : c.code = code) (hZ : Z.Warmed39 s.vm) (eT : T.heap = h) {a : Addr} {ty : FieldType} {N : Nat} {f : Nat → Value} (F : own_Ar Z h a ty N f) (hd : decode code pc = .ok (.arraylength, 1)) (h2 : own_G p e below s Q k n (T.setTop (mkF m (pc + 1) Ls (.int N.toInt32 :: st)))) : own_G p e below s Q k n (T.setTop (mkF m pc Ls (.ref a :: st))) := by
  obtain ⟨cl, A, r1, r2, r3⟩ := F
  refine own_st (fun _ => X.arraylength hx (by rw [eT]; exact A.1) (State.isArrayOf_alike hZ.alike A.2.1) (g := mkF m pc Ls (.ref a :: st)) rfl rfl (hb hby hd) _) ?_
  rw [r1]; exact h2
theorem own_iaload (X : Stand p l e R s m args below meth c T locs cells slots) (hx : p.tables.exec = Jvm.exec) (hby : c.code = code) (hZ : Z.Warmed39 s.vm) (eT : T.heap = h) {a : Addr} {N : Nat} {f : Nat → Value} (F : own_Ar Z h a .int N f) {j : Int32} {i : Nat} (hj : j.toInt = i) (hi : i < N) (hd : decode code pc = .ok (.iaload, 1)) (h2 : own_G p e below s Q k n (T.setTop (mkF m (pc + 1) Ls (f i :: st)))) : own_G p e below s Q k n (T.setTop (mkF m pc Ls (.int j :: .ref a :: st))) := by
  obtain ⟨cl, A, r1, r2, r3⟩ := F
  obtain ⟨q1, q2⟩ := own_inb hj hi
  exact own_st (fun _ => X.iaload hx (v := f i) (by rw [eT]; exact A.1) (State.isArrayOf_alike hZ.alike A.2.1) A.2.2 (j := j) (by rw [r1]; exact q1) (by rw [q2]; exact r3 i hi) (g := mkF m pc Ls (.int j :: .ref a :: st)) rfl rfl (hb hby hd) _) h2
theorem own_laload (X : Stand p l e R s m args below meth c T locs cells slots) (hx : p.tables.exec = Jvm.exec) (hby : c.code = code) (hZ : Z.Warmed39 s.vm) (eT : T.heap = h) {a : Addr} {N : Nat} {f : Nat → Value} (F : own_Ar Z h a .long N f) {j : Int32} {i : Nat} (hj : j.toInt = i) (hi : i < N) (hd : decode code pc = .ok (.laload, 1)) (h2 : own_G p e below s Q k n (T.setTop (mkF m (pc + 1) Ls (f i :: st)))) : own_G p e below s Q k n (T.setTop (mkF m pc Ls (.int j :: .ref a :: st))) := by
  obtain ⟨cl, A, r1, r2, r3⟩ := F
  obtain ⟨q1, q2⟩ := own_inb hj hi
  exact own_st (fun _ => X.laload hx (v := f i) (by rw [eT]; exact A.1) (State.isArrayOf_alike hZ.alike A.2.1) A.2.2 (j := j) (by rw [r1]; exact q1) (by rw [q2]; exact r3 i hi) (g := mkF m pc Ls (.int j :: .ref a :: st)) rfl rfl (hb hby hd) _) h2
theorem own_baload (X : Stand p l e R s m args below meth c T locs cells slots) (hx : p.tables.exec = Jvm.exec) (hby : c.code = code) (hZ : Z.Warmed39 s.vm) (eT : T.heap = h) {a : Addr} {N : Nat} {f : Nat → Value} (F : own_Ar Z h a .byte N f) {j : Int32} {i : Nat} (hj : j.toInt = i) (hi : i < N) (hd : decode code pc = .ok (.baload, 1)) (h2 : own_G p e below s Q k n (T.setTop (mkF m (pc + 1) Ls (f i :: st)))) : own_G p e below s Q k n (T.setTop (mkF m pc Ls (.int j :: .ref a :: st))) := by
  obtain ⟨cl, A, r1, r2, r3⟩ := F
  obtain ⟨q1, q2⟩ := own_inb hj hi
  exact own_st (fun _ => X.baloadBytes hx (v := f i) (by rw [eT]; exact A.1) (State.isArrayOf_alike hZ.alike A.2.1) A.2.2 (j := j) (by rw [r1]; exact q1) (by rw [q2]; exact r3 i hi) (g := mkF m pc Ls (.int j :: .ref a :: st)) rfl rfl (hb hby hd) _) h2
theorem own_caload (X : Stand p l e R s m args below meth c T locs cells slots) (hx : p.tables.exec = Jvm.exec) (hby : c.code = code) (hZ : Z.Warmed39 s.vm) (eT : T.heap = h) {a : Addr} {N : Nat} {f : Nat → Value} (F : own_Ar Z h a .char N f) {j : Int32} {i : Nat} (hj : j.toInt = i) (hi : i < N) (hd : decode code pc = .ok (.caload, 1)) (h2 : own_G p e below s Q k n (T.setTop (mkF m (pc + 1) Ls (f i :: st)))) : own_G p e below s Q k n (T.setTop (mkF m pc Ls (.int j :: .ref a :: st))) := by
  obtain ⟨cl, A, r1, r2, r3⟩ := F
  obtain ⟨q1, q2⟩ := own_inb hj hi
  exact own_st (fun _ => X.caload hx (v := f i) (by rw [eT]; exact A.1) (State.isArrayOf_alike hZ.alike A.2.1) A.2.2 (j := j) (by rw [r1]; exact q1) (by rw [q2]; exact r3 i hi) (g := mkF m pc Ls (.int j :: .ref a :: st)) rfl rfl (hb hby hd) _) h2
theorem own_aaload (X : Stand p l e R s m args below meth c T locs cells slots) (hx : p.tables.exec = Jvm.exec) (hby : c.code = code) (hZ : Z.Warmed39 s.vm) (eT : T.heap = h) {a : Addr} {ty : FieldType} {N : Nat} {f : Nat → Value} (F : own_Ar Z h a ty N f) (hty : ty.isReference = true) {j : Int32} {i : Nat} (hj : j.toInt = i) (hi : i < N) (hd : decode code pc = .ok (.aaload, 1)) (h2 : own_G p e below s Q k n (T.setTop (mkF m (pc + 1) Ls (f i :: st)))) : own_G p e below s Q k n (T.setTop (mkF m pc Ls (.int j :: .ref a :: st))) := by
  obtain ⟨cl, A, r1, r2, r3⟩ := F
  obtain ⟨q1, q2⟩ := own_inb hj hi
  exact own_st (fun _ => X.aaload hx (v := f i) (by rw [eT]; exact A.1) (State.isArrayOf_alike hZ.alike A.2.1) hty A.2.2 (j := j) (by rw [r1]; exact q1) (by rw [q2]; exact r3 i hi) (g := mkF m pc Ls (.int j :: .ref a :: st)) rfl rfl (hb hby hd) _) h2
theorem own_iastore (X : Stand p l e R s m args below meth c T locs cells slots) (hx : p.tables.exec = Jvm.exec) (hby : c.code = code) (hZ : Z.Warmed39 s.vm) (eT : T.heap = h) {a : Addr} {N : Nat} {f : Nat → Value} (F : own_Ar Z h a .int N f) {j : Int32} {i : Nat} (hj : j.toInt = i) (hi : i < N) {x : Int32} (hd : decode code pc = .ok (.iastore, 1)) : ∃ T' h', Stand p l e R s m args below meth c T' (locs ++ [⟨a, i⟩]) cells slots ∧ T'.heap = h' ∧ Wr h h' a i (.int x) ∧ own_Ar Z h' a .int N (own_set f i (.int x)) ∧ ∀ target, Steps p.tables e below (T'.setTop (mkF m (pc + 1) Ls st)) target → Steps p.tables e below (T.setTop (mkF m pc Ls (.int x :: .int j :: .ref a :: st))) target := by
  obtain ⟨cl, A, r1, r2, r3⟩ := F
  obtain ⟨q1, q2⟩ := own_inb hj hi
  obtain ⟨T', h', X', e', W, stp⟩ := stI X hx hZ eT A (j := j) (by rw [r1]; exact q1) (g := mkF m pc Ls (.int x :: .int j :: .ref a :: st)) rfl rfl (hb hby hd)
  rw [q2] at X' W
  exact ⟨T', h', X', e', W, own_Ar.store A r1 r2 r3 W, stp⟩
theorem own_lastore (X : Stand p l e R s m args below meth c T locs cells slots) (hx : p.tables.exec = Jvm.exec) (hby : c.code = code) (hZ : Z.Warmed39 s.vm) (eT : T.heap = h) {a : Addr} {N : Nat} {f : Nat → Value} (F : own_Ar Z h a .long N f) {j : Int32} {i : Nat} (hj : j.toInt = i) (hi : i < N) {x : Int64} (hd : decode code pc = .ok (.lastore, 1)) : ∃ T' h', Stand p l e R s m args below meth c T' (locs ++ [⟨a, i⟩]) cells slots ∧ T'.heap = h' ∧ Wr h h' a i (.long x) ∧ own_Ar Z h' a .long N (own_set f i (.long x)) ∧ ∀ target, Steps p.tables e below (T'.setTop (mkF m (pc + 1) Ls st)) target → Steps p.tables e below (T.setTop (mkF m pc Ls (.long x :: .int j :: .ref a :: st))) target := by
  obtain ⟨cl, A, r1, r2, r3⟩ := F
  obtain ⟨q1, q2⟩ := own_inb hj hi
  obtain ⟨T', h', X', e', W, stp⟩ := stJ X hx hZ eT A (j := j) (by rw [r1]; exact q1) (g := mkF m pc Ls (.long x :: .int j :: .ref a :: st)) rfl rfl (hb hby hd)
  rw [q2] at X' W
  exact ⟨T', h', X', e', W, own_Ar.store A r1 r2 r3 W, stp⟩
theorem own_bastore (X : Stand p l e R s m args below meth c T locs cells slots) (hx : p.tables.exec = Jvm.exec) (hby : c.code = code) (hZ : Z.Warmed39 s.vm) (eT : T.heap = h) {a : Addr} {N : Nat} {f : Nat → Value} (F : own_Ar Z h a .byte N f) {j : Int32} {i : Nat} (hj : j.toInt = i) (hi : i < N) {x : Int32} (hd : decode code pc = .ok (.bastore, 1)) : ∃ T' h', Stand p l e R s m args below meth c T' (locs ++ [⟨a, i⟩]) cells slots ∧ T'.heap = h' ∧ Wr h h' a i (.int (nar .byte x)) ∧ own_Ar Z h' a .byte N (own_set f i (.int (nar .byte x))) ∧ ∀ target, Steps p.tables e below (T'.setTop (mkF m (pc + 1) Ls st)) target → Steps p.tables e below (T.setTop (mkF m pc Ls (.int x :: .int j :: .ref a :: st))) target := by
  obtain ⟨cl, A, r1, r2, r3⟩ := F
  obtain ⟨q1, q2⟩ := own_inb hj hi
  obtain ⟨T', h', X', e', W, stp⟩ := stB X hx hZ eT A (j := j) (by rw [r1]; exact q1) (g := mkF m pc Ls (.int x :: .int j :: .ref a :: st)) rfl rfl (hb hby hd)
  rw [q2] at X' W
  exact ⟨T', h', X', e', W, own_Ar.store A r1 r2 r3 W, stp⟩
theorem own_castore (X : Stand p l e R s m args below meth c T locs cells slots) (hx : p.tables.exec = Jvm.exec) (hby : c.code = code) (hZ : Z.Warmed39 s.vm) (eT : T.heap = h) {a : Addr} {N : Nat} {f : Nat → Value} (F : own_Ar Z h a .char N f) {j : Int32} {i : Nat} (hj : j.toInt = i) (hi : i < N) {x : Int32} (hd : decode code pc = .ok (.castore, 1)) : ∃ T' h', Stand p l e R s m args below meth c T' (locs ++ [⟨a, i⟩]) cells slots ∧ T'.heap = h' ∧ Wr h h' a i (.int (nar .char x)) ∧ own_Ar Z h' a .char N (own_set f i (.int (nar .char x))) ∧ ∀ target, Steps p.tables e below (T'.setTop (mkF m (pc + 1) Ls st)) target → Steps p.tables e below (T.setTop (mkF m pc Ls (.int x :: .int j :: .ref a :: st))) target := by
  obtain ⟨cl, A, r1, r2, r3⟩ := F
  obtain ⟨q1, q2⟩ := own_inb hj hi
  obtain ⟨T', h', X', e', W, stp⟩ := stC X hx hZ eT A (j := j) (by rw [r1]; exact q1) (g := mkF m pc Ls (.int x :: .int j :: .ref a :: st)) rfl rfl (hb hby hd)
  rw [q2] at X' W
  exact ⟨T', h', X', e', W, own_Ar.store A r1 r2 r3 W, stp⟩
theorem own_dastore (X : Stand p l e R s m args below meth c T locs cells slots) (hx : p.tables.exec = Jvm.exec) (hby : c.code = code) (hZ : Z.Warmed39 s.vm) (eT : T.heap = h) {a : Addr} {N : Nat} {f : Nat → Value} (F : own_Ar Z h a .double N f) {j : Int32} {i : Nat} (hj : j.toInt = i) (hi : i < N) {x : UInt64} (hd : decode code pc = .ok (.dastore, 1)) : ∃ T' h', Stand p l e R s m args below meth c T' (locs ++ [⟨a, i⟩]) cells slots ∧ T'.heap = h' ∧ Wr h h' a i (.double x) ∧ own_Ar Z h' a .double N (own_set f i (.double x)) ∧ ∀ target, Steps p.tables e below (T'.setTop (mkF m (pc + 1) Ls st)) target → Steps p.tables e below (T.setTop (mkF m pc Ls (.double x :: .int j :: .ref a :: st))) target := by
  obtain ⟨cl, A, r1, r2, r3⟩ := F
  obtain ⟨q1, q2⟩ := own_inb hj hi
  obtain ⟨T', h', X', e', W, stp⟩ := stD X hx hZ eT A (j := j) (by rw [r1]; exact q1) (g := mkF m pc Ls (.double x :: .int j :: .ref a :: st)) rfl rfl (hb hby hd)
  rw [q2] at X' W
  exact ⟨T', h', X', e', W, own_Ar.store A r1 r2 r3 W, stp⟩
theorem own_aastore (X : Stand p l e R s m args below meth c T locs cells slots) (hx : p.tables.exec = Jvm.exec) (hby : c.code = code) (hZ : Z.Warmed39 s.vm) (eT : T.heap = h) {a : Addr} {ty : FieldType} {N : Nat} {f : Nat → Value} (F : own_Ar Z h a ty N f) (hty : ty.isReference = true) {j : Int32} {i : Nat} (hj : j.toInt = i) (hi : i < N) {v : Value} (S : Sto Z h a v) (hd : decode code pc = .ok (.aastore, 1)) : ∃ T' h', Stand p l e R s m args below meth c T' (locs ++ [⟨a, i⟩]) cells slots ∧ T'.heap = h' ∧ Wr h h' a i v ∧ own_Ar Z h' a ty N (own_set f i v) ∧ ∀ target, Steps p.tables e below (T'.setTop (mkF m (pc + 1) Ls st)) target → Steps p.tables e below (T.setTop (mkF m pc Ls (v :: .int j :: .ref a :: st))) target := by
  obtain ⟨cl, A, r1, r2, r3⟩ := F
  obtain ⟨q1, q2⟩ := own_inb hj hi
  obtain ⟨T', h', X', e', W, stp⟩ := stR X hx hZ eT A (j := j) (by rw [r1]; exact q1) hty S (g := mkF m pc Ls (v :: .int j :: .ref a :: st)) rfl rfl (hb hby hd)
  rw [q2] at X' W
  exact ⟨T', h', X', e', W, own_Ar.store A r1 r2 r3 W, stp⟩
end OwnSteps
theorem own_narR {C : String} {v : Value} (h : v.isRef = true) : narrow (.object C) v = v := by rcases ref_cases h with rfl | ⟨z, rfl⟩ <;> rfl
theorem own_fitR {C : String} {v : Value} (h : v.isRef = true) : fits (.object C) v = true := by rcases ref_cases h with rfl | ⟨z, rfl⟩ <;> rfl
theorem own_irr {x : Int32} : ¬ x < x := by rw [Int32.lt_iff_toInt_lt]; omega
theorem own_irrL {x : Int64} : ¬ x < x := by rw [Int64.lt_iff_toInt_lt]; omega
theorem own_w0 {Z : State} {a0 : Array Value} (hw : ∀ d ∈ tables_1, d.before a0 Z = true) : (Jvm.Cond.classLink "com/example/iron_log/ironlog/consumequeue/QueueEntryEqualsPinLaw" (7 : Nat) "com/example/iron_log/ironlog/consumequeue/QueueEntry").before a0 Z = true := hw _ (List.mem_of_getElem? (i := 0) rfl)
theorem own_w1 {Z : State} {a0 : Array Value} (hw : ∀ d ∈ tables_1, d.before a0 Z = true) : (Jvm.Cond.instantiable "com/example/iron_log/ironlog/consumequeue/QueueEntry" (3 : Nat)).before a0 Z = true := hw _ (List.mem_of_getElem? (i := 1) rfl)
theorem own_w2 {Z : State} {a0 : Array Value} (hw : ∀ d ∈ tables_1, d.before a0 Z = true) : (Jvm.Cond.initialized "com/example/iron_log/ironlog/consumequeue/QueueEntry").before a0 Z = true := hw _ (List.mem_of_getElem? (i := 2) rfl)
theorem own_w3 {Z : State} {a0 : Array Value} (hw : ∀ d ∈ tables_1, d.before a0 Z = true) : (Jvm.Cond.methodLink "com/example/iron_log/ironlog/consumequeue/QueueEntryEqualsPinLaw" (9 : Nat) ({ cls := "com/example/iron_log/ironlog/consumequeue/QueueEntry", name := "<init>", desc := "(JIJ)V" } : Jvm.MethodName)).before a0 Z = true := hw _ (List.mem_of_getElem? (i := 3) rfl)
theorem own_w4 {Z : State} {a0 : Array Value} (hw : ∀ d ∈ tables_1, d.before a0 Z = true) : (Jvm.Cond.instanceMethod ({ cls := "com/example/iron_log/ironlog/consumequeue/QueueEntry", name := "<init>", desc := "(JIJ)V" } : Jvm.MethodName)).before a0 Z = true := hw _ (List.mem_of_getElem? (i := 4) rfl)
theorem own_w5 {Z : State} {a0 : Array Value} (hw : ∀ d ∈ tables_1, d.before a0 Z = true) : (Jvm.Cond.code ({ cls := "com/example/iron_log/ironlog/consumequeue/QueueEntry", name := "<init>", desc := "(JIJ)V" } : Jvm.MethodName) prog_44_method_1_code (6 : Nat) (Option.none : Option Jvm.ClassFile.FieldType)).before a0 Z = true := hw _ (List.mem_of_getElem? (i := 5) rfl)
theorem own_w6 {Z : State} {a0 : Array Value} (hw : ∀ d ∈ tables_1, d.before a0 Z = true) : (Jvm.Cond.methodLink "com/example/iron_log/ironlog/consumequeue/QueueEntry" (3 : Nat) ({ cls := "java/lang/Object", name := "<init>", desc := "()V" } : Jvm.MethodName)).before a0 Z = true := hw _ (List.mem_of_getElem? (i := 6) rfl)
theorem own_w7 {Z : State} {a0 : Array Value} (hw : ∀ d ∈ tables_1, d.before a0 Z = true) : (Jvm.Cond.instanceMethod ({ cls := "java/lang/Object", name := "<init>", desc := "()V" } : Jvm.MethodName)).before a0 Z = true := hw _ (List.mem_of_getElem? (i := 7) rfl)
theorem own_w8 {Z : State} {a0 : Array Value} (hw : ∀ d ∈ tables_1, d.before a0 Z = true) : (Jvm.Cond.code ({ cls := "java/lang/Object", name := "<init>", desc := "()V" } : Jvm.MethodName) object_method_1_code (1 : Nat) (Option.none : Option Jvm.ClassFile.FieldType)).before a0 Z = true := hw _ (List.mem_of_getElem? (i := 8) rfl)
theorem own_w9 {Z : State} {a0 : Array Value} (hw : ∀ d ∈ tables_1, d.before a0 Z = true) : (Jvm.Cond.fieldLink "com/example/iron_log/ironlog/consumequeue/QueueEntry" (9 : Nat) "com/example/iron_log/ironlog/consumequeue/QueueEntry" "commitLogOffset" "J").before a0 Z = true := hw _ (List.mem_of_getElem? (i := 9) rfl)
theorem own_w10 {Z : State} {a0 : Array Value} (hw : ∀ d ∈ tables_1, d.before a0 Z = true) : (Jvm.Cond.laysFinal "com/example/iron_log/ironlog/consumequeue/QueueEntry" "com/example/iron_log/ironlog/consumequeue/QueueEntry" "commitLogOffset" "J").before a0 Z = true := hw _ (List.mem_of_getElem? (i := 10) rfl)
theorem own_w11 {Z : State} {a0 : Array Value} (hw : ∀ d ∈ tables_1, d.before a0 Z = true) : (Jvm.Cond.fieldLink "com/example/iron_log/ironlog/consumequeue/QueueEntry" (15 : Nat) "com/example/iron_log/ironlog/consumequeue/QueueEntry" "recordSize" "I").before a0 Z = true := hw _ (List.mem_of_getElem? (i := 11) rfl)
theorem own_w12 {Z : State} {a0 : Array Value} (hw : ∀ d ∈ tables_1, d.before a0 Z = true) : (Jvm.Cond.laysFinal "com/example/iron_log/ironlog/consumequeue/QueueEntry" "com/example/iron_log/ironlog/consumequeue/QueueEntry" "recordSize" "I").before a0 Z = true := hw _ (List.mem_of_getElem? (i := 12) rfl)
theorem own_w13 {Z : State} {a0 : Array Value} (hw : ∀ d ∈ tables_1, d.before a0 Z = true) : (Jvm.Cond.fieldLink "com/example/iron_log/ironlog/consumequeue/QueueEntry" (19 : Nat) "com/example/iron_log/ironlog/consumequeue/QueueEntry" "tagsCode" "J").before a0 Z = true := hw _ (List.mem_of_getElem? (i := 13) rfl)
theorem own_w14 {Z : State} {a0 : Array Value} (hw : ∀ d ∈ tables_1, d.before a0 Z = true) : (Jvm.Cond.laysFinal "com/example/iron_log/ironlog/consumequeue/QueueEntry" "com/example/iron_log/ironlog/consumequeue/QueueEntry" "tagsCode" "J").before a0 Z = true := hw _ (List.mem_of_getElem? (i := 14) rfl)
theorem own_w15 {Z : State} {a0 : Array Value} (hw : ∀ d ∈ tables_1, d.before a0 Z = true) : (Jvm.Cond.methodLink "com/example/iron_log/ironlog/consumequeue/QueueEntryEqualsPinLaw" (12 : Nat) ({ cls := "com/example/iron_log/ironlog/consumequeue/QueueEntry", name := "equals", desc := "(Ljava/lang/Object;)Z" } : Jvm.MethodName)).before a0 Z = true := hw _ (List.mem_of_getElem? (i := 15) rfl)
theorem own_w16 {Z : State} {a0 : Array Value} (hw : ∀ d ∈ tables_1, d.before a0 Z = true) : (Jvm.Cond.declares ({ cls := "com/example/iron_log/ironlog/consumequeue/QueueEntry", name := "equals", desc := "(Ljava/lang/Object;)Z" } : Jvm.MethodName)).before a0 Z = true := hw _ (List.mem_of_getElem? (i := 16) rfl)
theorem own_w17 {Z : State} {a0 : Array Value} (hw : ∀ d ∈ tables_1, d.before a0 Z = true) : (Jvm.Cond.instanceMethod ({ cls := "com/example/iron_log/ironlog/consumequeue/QueueEntry", name := "equals", desc := "(Ljava/lang/Object;)Z" } : Jvm.MethodName)).before a0 Z = true := hw _ (List.mem_of_getElem? (i := 17) rfl)
theorem own_w18 {Z : State} {a0 : Array Value} (hw : ∀ d ∈ tables_1, d.before a0 Z = true) : (Jvm.Cond.selects "com/example/iron_log/ironlog/consumequeue/QueueEntry" ({ cls := "com/example/iron_log/ironlog/consumequeue/QueueEntry", name := "equals", desc := "(Ljava/lang/Object;)Z" } : Jvm.MethodName) ({ cls := "com/example/iron_log/ironlog/consumequeue/QueueEntry", name := "equals", desc := "(Ljava/lang/Object;)Z" } : Jvm.MethodName)).before a0 Z = true := hw _ (List.mem_of_getElem? (i := 18) rfl)
theorem own_w19 {Z : State} {a0 : Array Value} (hw : ∀ d ∈ tables_1, d.before a0 Z = true) : (Jvm.Cond.code ({ cls := "com/example/iron_log/ironlog/consumequeue/QueueEntry", name := "equals", desc := "(Ljava/lang/Object;)Z" } : Jvm.MethodName) prog_44_method_13_code (3 : Nat) (Option.some Jvm.ClassFile.FieldType.boolean)).before a0 Z = true := hw _ (List.mem_of_getElem? (i := 19) rfl)
theorem own_w20 {Z : State} {a0 : Array Value} (hw : ∀ d ∈ tables_1, d.before a0 Z = true) : (Jvm.Cond.classLink "com/example/iron_log/ironlog/consumequeue/QueueEntry" (10 : Nat) "com/example/iron_log/ironlog/consumequeue/QueueEntry").before a0 Z = true := hw _ (List.mem_of_getElem? (i := 20) rfl)
theorem own_w22 {Z : State} {a0 : Array Value} (hw : ∀ d ∈ tables_1, d.before a0 Z = true) : (Jvm.Cond.methodLink "com/example/iron_log/ironlog/consumequeue/QueueEntryEqualsPinLaw" (16 : Nat) ({ cls := "java/lang/Long", name := "valueOf", desc := "(J)Ljava/lang/Long;" } : Jvm.MethodName)).before a0 Z = true := hw _ (List.mem_of_getElem? (i := 22) rfl)
theorem own_w23 {Z : State} {a0 : Array Value} (hw : ∀ d ∈ tables_1, d.before a0 Z = true) : (Jvm.Cond.static ({ cls := "java/lang/Long", name := "valueOf", desc := "(J)Ljava/lang/Long;" } : Jvm.MethodName)).before a0 Z = true := hw _ (List.mem_of_getElem? (i := 23) rfl)
theorem own_w24 {Z : State} {a0 : Array Value} (hw : ∀ d ∈ tables_1, d.before a0 Z = true) : (Jvm.Cond.initialized "java/lang/Long").before a0 Z = true := hw _ (List.mem_of_getElem? (i := 24) rfl)
theorem own_w25 {Z : State} {a0 : Array Value} (hw : ∀ d ∈ tables_1, d.before a0 Z = true) : (Jvm.Cond.code ({ cls := "java/lang/Long", name := "valueOf", desc := "(J)Ljava/lang/Long;" } : Jvm.MethodName) jdk_35_method_24_code (3 : Nat) (Option.some (Jvm.ClassFile.FieldType.object "java/lang/Long"))).before a0 Z = true := hw _ (List.mem_of_getElem? (i := 25) rfl)
theorem own_w26 {Z : State} {a0 : Array Value} (hw : ∀ d ∈ tables_1, d.before a0 Z = true) : (Jvm.Cond.constantLong "java/lang/Long" (230 : Nat) (-128 : Int64)).before a0 Z = true := hw _ (List.mem_of_getElem? (i := 26) rfl)
theorem own_w27 {Z : State} {a0 : Array Value} (hw : ∀ d ∈ tables_1, d.before a0 Z = true) : (Jvm.Cond.classLink "java/lang/Long" (1 : Nat) "java/lang/Long").before a0 Z = true := hw _ (List.mem_of_getElem? (i := 27) rfl)
theorem own_w28 {Z : State} {a0 : Array Value} (hw : ∀ d ∈ tables_1, d.before a0 Z = true) : (Jvm.Cond.instantiable "java/lang/Long" (1 : Nat)).before a0 Z = true := hw _ (List.mem_of_getElem? (i := 28) rfl)
theorem own_w29 {Z : State} {a0 : Array Value} (hw : ∀ d ∈ tables_1, d.before a0 Z = true) : (Jvm.Cond.methodLink "java/lang/Long" (240 : Nat) ({ cls := "java/lang/Long", name := "<init>", desc := "(J)V" } : Jvm.MethodName)).before a0 Z = true := hw _ (List.mem_of_getElem? (i := 29) rfl)
theorem own_w30 {Z : State} {a0 : Array Value} (hw : ∀ d ∈ tables_1, d.before a0 Z = true) : (Jvm.Cond.instanceMethod ({ cls := "java/lang/Long", name := "<init>", desc := "(J)V" } : Jvm.MethodName)).before a0 Z = true := hw _ (List.mem_of_getElem? (i := 30) rfl)
theorem own_w32 {Z : State} {a0 : Array Value} (hw : ∀ d ∈ tables_1, d.before a0 Z = true) : (Jvm.Cond.code ({ cls := "java/lang/Long", name := "<init>", desc := "(J)V" } : Jvm.MethodName) jdk_35_method_26_code (3 : Nat) (Option.none : Option Jvm.ClassFile.FieldType)).before a0 Z = true := hw _ (List.mem_of_getElem? (i := 32) rfl)
theorem own_w33 {Z : State} {a0 : Array Value} (hw : ∀ d ∈ tables_1, d.before a0 Z = true) : (Jvm.Cond.methodLink "java/lang/Long" (270 : Nat) ({ cls := "java/lang/Number", name := "<init>", desc := "()V" } : Jvm.MethodName)).before a0 Z = true := hw _ (List.mem_of_getElem? (i := 33) rfl)
theorem own_w34 {Z : State} {a0 : Array Value} (hw : ∀ d ∈ tables_1, d.before a0 Z = true) : (Jvm.Cond.instanceMethod ({ cls := "java/lang/Number", name := "<init>", desc := "()V" } : Jvm.MethodName)).before a0 Z = true := hw _ (List.mem_of_getElem? (i := 34) rfl)
theorem own_w37 {Z : State} {a0 : Array Value} (hw : ∀ d ∈ tables_1, d.before a0 Z = true) : (Jvm.Cond.initialized "java/lang/Number").before a0 Z = true := hw _ (List.mem_of_getElem? (i := 37) rfl)
theorem own_w38 {Z : State} {a0 : Array Value} (hw : ∀ d ∈ tables_1, d.before a0 Z = true) : (Jvm.Cond.code ({ cls := "java/lang/Number", name := "<init>", desc := "()V" } : Jvm.MethodName) jdk_18_method_1_code (1 : Nat) (Option.none : Option Jvm.ClassFile.FieldType)).before a0 Z = true := hw _ (List.mem_of_getElem? (i := 38) rfl)
theorem own_w39 {Z : State} {a0 : Array Value} (hw : ∀ d ∈ tables_1, d.before a0 Z = true) : (Jvm.Cond.methodLink "java/lang/Number" (1 : Nat) ({ cls := "java/lang/Object", name := "<init>", desc := "()V" } : Jvm.MethodName)).before a0 Z = true := hw _ (List.mem_of_getElem? (i := 39) rfl)
theorem own_w40 {Z : State} {a0 : Array Value} (hw : ∀ d ∈ tables_1, d.before a0 Z = true) : (Jvm.Cond.fieldLink "java/lang/Long" (273 : Nat) "java/lang/Long" "value" "J").before a0 Z = true := hw _ (List.mem_of_getElem? (i := 40) rfl)
theorem own_w41 {Z : State} {a0 : Array Value} (hw : ∀ d ∈ tables_1, d.before a0 Z = true) : (Jvm.Cond.laysFinal "java/lang/Long" "java/lang/Long" "value" "J").before a0 Z = true := hw _ (List.mem_of_getElem? (i := 41) rfl)
theorem own_w42 {Z : State} {a0 : Array Value} (hw : ∀ d ∈ tables_1, d.before a0 Z = true) : (Jvm.Cond.superclass "java/lang/Long" "java/lang/Number").before a0 Z = true := hw _ (List.mem_of_getElem? (i := 42) rfl)
theorem own_w43 {Z : State} {a0 : Array Value} (hw : ∀ d ∈ tables_1, d.before a0 Z = true) : (Jvm.Cond.superclass "java/lang/Number" "java/lang/Object").before a0 Z = true := hw _ (List.mem_of_getElem? (i := 43) rfl)
theorem own_w44 {Z : State} {a0 : Array Value} (hw : ∀ d ∈ tables_1, d.before a0 Z = true) : (Jvm.Cond.noSuperclass "java/lang/Object").before a0 Z = true := hw _ (List.mem_of_getElem? (i := 44) rfl)
theorem own_w45 {Z : State} {a0 : Array Value} (hw : ∀ d ∈ tables_1, d.before a0 Z = true) : (Jvm.Cond.constantLong "java/lang/Long" (232 : Nat) (127 : Int64)).before a0 Z = true := hw _ (List.mem_of_getElem? (i := 45) rfl)
theorem own_w46 {Z : State} {a0 : Array Value} (hw : ∀ d ∈ tables_1, d.before a0 Z = true) : (Jvm.Cond.fieldLink "java/lang/Long" (234 : Nat) "java/lang/Long$LongCache" "cache" "[Ljava/lang/Long;").before a0 Z = true := hw _ (List.mem_of_getElem? (i := 46) rfl)
theorem own_d1_0 : decode prog_44_method_1_code 0 = .ok (.aload_n 0, 1) := by decide +kernel
theorem own_d1_1 : decode prog_44_method_1_code 1 = .ok (.invokespecial 3, 3) := by decide +kernel
theorem own_d1_4 : decode prog_44_method_1_code 4 = .ok (.aload_n 0, 1) := by decide +kernel
theorem own_d1_5 : decode prog_44_method_1_code 5 = .ok (.lload_n 1, 1) := by decide +kernel
theorem own_d1_6 : decode prog_44_method_1_code 6 = .ok (.putfield 9, 3) := by decide +kernel
theorem own_d1_9 : decode prog_44_method_1_code 9 = .ok (.aload_n 0, 1) := by decide +kernel
theorem own_d1_10 : decode prog_44_method_1_code 10 = .ok (.iload_n 3, 1) := by decide +kernel
theorem own_d1_11 : decode prog_44_method_1_code 11 = .ok (.putfield 15, 3) := by decide +kernel
theorem own_d1_14 : decode prog_44_method_1_code 14 = .ok (.aload_n 0, 1) := by decide +kernel
theorem own_d1_15 : decode prog_44_method_1_code 15 = .ok (.lload 4, 2) := by decide +kernel
theorem own_d1_17 : decode prog_44_method_1_code 17 = .ok (.putfield 19, 3) := by decide +kernel
theorem own_d1_20 : decode prog_44_method_1_code 20 = .ok (.return_, 1) := by decide +kernel
theorem own_d3_0 : decode prog_44_method_13_code 0 = .ok (.aload_n 1, 1) := by decide +kernel
theorem own_d3_1 : decode prog_44_method_13_code 1 = .ok (.instanceof 10, 3) := by decide +kernel
theorem own_d3_4 : decode prog_44_method_13_code 4 = .ok (.ifCond .ne 5, 3) := by decide +kernel
theorem own_d3_7 : decode prog_44_method_13_code 7 = .ok (.iconst 0, 1) := by decide +kernel
theorem own_d3_8 : decode prog_44_method_13_code 8 = .ok (.ireturn, 1) := by decide +kernel
theorem own_d3_9 : decode prog_44_method_13_code 9 = .ok (.aload_n 1, 1) := by decide +kernel
theorem own_d3_10 : decode prog_44_method_13_code 10 = .ok (.checkcast 10, 3) := by decide +kernel
theorem own_d3_13 : decode prog_44_method_13_code 13 = .ok (.astore_n 2, 1) := by decide +kernel
theorem own_d3_14 : decode prog_44_method_13_code 14 = .ok (.aload_n 0, 1) := by decide +kernel
theorem own_d3_15 : decode prog_44_method_13_code 15 = .ok (.getfield 9, 3) := by decide +kernel
theorem own_d3_18 : decode prog_44_method_13_code 18 = .ok (.aload_n 2, 1) := by decide +kernel
theorem own_d3_19 : decode prog_44_method_13_code 19 = .ok (.getfield 9, 3) := by decide +kernel
theorem own_d3_22 : decode prog_44_method_13_code 22 = .ok (.lcmp, 1) := by decide +kernel
theorem own_d3_23 : decode prog_44_method_13_code 23 = .ok (.ifCond .ne 30, 3) := by decide +kernel
theorem own_d3_26 : decode prog_44_method_13_code 26 = .ok (.aload_n 0, 1) := by decide +kernel
theorem own_d3_27 : decode prog_44_method_13_code 27 = .ok (.getfield 15, 3) := by decide +kernel
theorem own_d3_30 : decode prog_44_method_13_code 30 = .ok (.aload_n 2, 1) := by decide +kernel
theorem own_d3_31 : decode prog_44_method_13_code 31 = .ok (.getfield 15, 3) := by decide +kernel
theorem own_d3_34 : decode prog_44_method_13_code 34 = .ok (.if_icmp .ne 19, 3) := by decide +kernel
theorem own_d3_37 : decode prog_44_method_13_code 37 = .ok (.aload_n 0, 1) := by decide +kernel
theorem own_d3_38 : decode prog_44_method_13_code 38 = .ok (.getfield 19, 3) := by decide +kernel
theorem own_d3_41 : decode prog_44_method_13_code 41 = .ok (.aload_n 2, 1) := by decide +kernel
theorem own_d3_42 : decode prog_44_method_13_code 42 = .ok (.getfield 19, 3) := by decide +kernel
theorem own_d3_45 : decode prog_44_method_13_code 45 = .ok (.lcmp, 1) := by decide +kernel
theorem own_d3_46 : decode prog_44_method_13_code 46 = .ok (.ifCond .ne 7, 3) := by decide +kernel
theorem own_d3_49 : decode prog_44_method_13_code 49 = .ok (.iconst 1, 1) := by decide +kernel
theorem own_d3_50 : decode prog_44_method_13_code 50 = .ok (.goto 4, 3) := by decide +kernel
theorem own_d3_53 : decode prog_44_method_13_code 53 = .ok (.iconst 0, 1) := by decide +kernel
theorem own_d3_54 : decode prog_44_method_13_code 54 = .ok (.ireturn, 1) := by decide +kernel
theorem own_d4_0 : decode jdk_35_method_24_code 0 = .ok (.sipush 128, 3) := by decide +kernel
theorem own_d4_3 : decode jdk_35_method_24_code 3 = .ok (.istore_n 2, 1) := by decide +kernel
theorem own_d4_4 : decode jdk_35_method_24_code 4 = .ok (.lload_n 0, 1) := by decide +kernel
theorem own_d4_5 : decode jdk_35_method_24_code 5 = .ok (.ldc2_w 230, 3) := by decide +kernel
theorem own_d4_8 : decode jdk_35_method_24_code 8 = .ok (.lcmp, 1) := by decide +kernel
theorem own_d4_9 : decode jdk_35_method_24_code 9 = .ok (.ifCond .lt 22, 3) := by decide +kernel
theorem own_d4_12 : decode jdk_35_method_24_code 12 = .ok (.lload_n 0, 1) := by decide +kernel
theorem own_d4_13 : decode jdk_35_method_24_code 13 = .ok (.ldc2_w 232, 3) := by decide +kernel
theorem own_d4_16 : decode jdk_35_method_24_code 16 = .ok (.lcmp, 1) := by decide +kernel
theorem own_d4_17 : decode jdk_35_method_24_code 17 = .ok (.ifCond .gt 14, 3) := by decide +kernel
theorem own_d4_20 : decode jdk_35_method_24_code 20 = .ok (.getstatic 234, 3) := by decide +kernel
theorem own_d4_23 : decode jdk_35_method_24_code 23 = .ok (.lload_n 0, 1) := by decide +kernel
theorem own_d4_24 : decode jdk_35_method_24_code 24 = .ok (.l2i, 1) := by decide +kernel
theorem own_d4_25 : decode jdk_35_method_24_code 25 = .ok (.sipush 128, 3) := by decide +kernel
theorem own_d4_28 : decode jdk_35_method_24_code 28 = .ok (.iadd, 1) := by decide +kernel
theorem own_d4_29 : decode jdk_35_method_24_code 29 = .ok (.aaload, 1) := by decide +kernel
theorem own_d4_30 : decode jdk_35_method_24_code 30 = .ok (.areturn, 1) := by decide +kernel
theorem own_d4_31 : decode jdk_35_method_24_code 31 = .ok (.new 1, 3) := by decide +kernel
theorem own_d4_34 : decode jdk_35_method_24_code 34 = .ok (.dup, 1) := by decide +kernel
theorem own_d4_35 : decode jdk_35_method_24_code 35 = .ok (.lload_n 0, 1) := by decide +kernel
theorem own_d4_36 : decode jdk_35_method_24_code 36 = .ok (.invokespecial 240, 3) := by decide +kernel
theorem own_d4_39 : decode jdk_35_method_24_code 39 = .ok (.areturn, 1) := by decide +kernel
theorem own_d5_0 : decode jdk_35_method_26_code 0 = .ok (.aload_n 0, 1) := by decide +kernel
theorem own_d5_1 : decode jdk_35_method_26_code 1 = .ok (.invokespecial 270, 3) := by decide +kernel
theorem own_d5_4 : decode jdk_35_method_26_code 4 = .ok (.aload_n 0, 1) := by decide +kernel
theorem own_d5_5 : decode jdk_35_method_26_code 5 = .ok (.lload_n 1, 1) := by decide +kernel
theorem own_d5_6 : decode jdk_35_method_26_code 6 = .ok (.putfield 273, 3) := by decide +kernel
theorem own_d5_9 : decode jdk_35_method_26_code 9 = .ok (.return_, 1) := by decide +kernel
theorem own_d6_0 : decode jdk_18_method_1_code 0 = .ok (.aload_n 0, 1) := by decide +kernel
theorem own_d6_1 : decode jdk_18_method_1_code 1 = .ok (.invokespecial 1, 3) := by decide +kernel
theorem own_d6_4 : decode jdk_18_method_1_code 4 = .ok (.return_, 1) := by decide +kernel
theorem own_pd0 : parseMethodDescriptor "()V" = some ⟨[], none⟩ := by decide +kernel
theorem own_pd1 : parseMethodDescriptor "(J)V" = some ⟨[.long], none⟩ := by decide +kernel
theorem own_pd2 : parseMethodDescriptor "(JIJ)V" = some ⟨[.long, .int, .long], none⟩ := by decide +kernel
theorem own_pd3 : parseMethodDescriptor "(Ljava/lang/Object;)Z" = some ⟨[(.object "java/lang/Object")], some .boolean⟩ := by decide +kernel
theorem own_pd4 : parseMethodDescriptor "(J)Ljava/lang/Long;" = some ⟨[.long], some (.object "java/lang/Long")⟩ := by decide +kernel
theorem own_pn0 : plainName "com/example/iron_log/ironlog/consumequeue/QueueEntry" = true := by first | (simp [plainName, overriddenIn]; done) | decide +kernel
theorem own_pn1 : plainName "java/lang/Number" = true := by first | (simp [plainName, overriddenIn]; done) | decide +kernel
theorem own_pn2 : plainName "java/lang/Long" = true := by first | (simp [plainName, overriddenIn]; done) | decide +kernel
theorem own_pn3 : plainName "com/example/iron_log/ironlog/consumequeue/QueueEntryEqualsPinLaw" = true := by first | (simp [plainName, overriddenIn]; done) | decide +kernel
def own_eq (o1 : Int64) (s1 : Int32) (t1 o2 : Int64) (s2 : Int32) (t2 : Int64) : Int32 := if o1 = o2 then (if s1 = s2 then (if t1 = t2 then 1 else 0) else 0) else 0
theorem own_eq_self (o1 : Int64) (s1 : Int32) (t1 : Int64) : own_eq o1 s1 t1 o1 s1 t1 = 1 := by simp [own_eq]
theorem own_NSroot {Z : State} {a0 : Array Value} {O K : String} {n : Nat} (w : (Cond.noSuperclass O).before a0 Z = true) (wk : (Cond.instantiable K n).before a0 Z = true) (hn : O ≠ K) : NS Z O K := by
  obtain ⟨c, k, h1, h2, h3, -, -⟩ := Cond.noSuperclass_spec w
  obtain ⟨t, k', g1, -⟩ := Cond.instantiable_spec wk
  have ne := ids_ne h1 g1 hn
  refine ⟨c, t, h1, g1, fun fuel => ?_⟩
  cases fuel with
  | zero => rfl
  | succ f => simp [Vm.isSubclassAux, ne, h2, h3]
theorem own_NSno {Z : State} {a0 : Array Value} {C S K : String} {n : Nat} (w : (Cond.superclass C S).before a0 Z = true) (wk : (Cond.instantiable K n).before a0 Z = true) (nn : NS Z C K) (hn : C ≠ K) : ∃ c t, Z.vm.findClass C = some c ∧ Z.vm.findClass K = some t ∧ Z.vm.assignable c t = false := by
  obtain ⟨c, t, h0, g0, n3⟩ := nn
  obtain ⟨p, k, kp, h1, h2, h3, h4, h5, -, h7⟩ := Cond.superclass_spec h0 w
  obtain ⟨t', k', g1, g2, g5, g7, -⟩ := Cond.instantiable_spec wk
  cases g0.symm.trans g1
  have ne := ids_ne h0 g0 hn
  have g8 : k'.isInterface = false := (Bool.or_eq_false_iff.mp g7).1
  refine ⟨c, t, h0, g0, ?_⟩
  show Z.vm.assignableAux (255 + 1) c t = false
  simp [Vm.assignableAux, ne, h2, g2, h5, g5, g8, Vm.isSubclass, n3]
def own_Ca (Z : State) (C CC AD : String) (arr : Addr) (f : Nat → Value) : Prop := Sta Z Z.heap CC "cache" AD (.ref arr) ∧ own_Ar Z Z.heap arr (.object C) 256 f ∧ ∀ j, j < 256 → ∃ box, f j = .ref box ∧ Exa Z Z.heap box C
theorem own_cache {args : Array Value} {s : State} {C CC AD : String} {body : Jvm.Cond} (h1 : (Cond.initializedFor CC "cache" AD).before args s = true ∨ ((Cond.initialized CC).before args s = true ∧ (Cond.laysStatic CC "cache" AD).before args s = true)) (h2 : (Cond.arrayOf (.static CC "cache" AD) (.object C)).before args s = true) (h4 : (Cond.eq (.length (.static CC "cache" AD)) (.int 256)).before args s = true) (h5 : (Cond.all (.static CC "cache" AD) (.and (.exactly (.elem (.static CC "cache" AD) (.index 0)) C) body)).before args s = true) : ∃ arr f, own_Ca s C CC AD arr f := by
  have h2' := Cond.before_iff.mp h2
  obtain ⟨a, ev⟩ := arr_v h2'
  obtain ⟨c, A⟩ := Arr.start ev h2'
  obtain ⟨q1, q2⟩ := IntBox.length_fwd h4 ev A.1 A.2.1 A.2.2
  have hsz : c.slots.size = 256 := by
    have e1 := len_toInt q1; rw [q2] at e1
    have e2 : (256 : Int32).toInt = 256 := by decide
    omega
  have hat := IntBox.arrayAt_of A.1 A.2.1 A.2.2
  have hall := Cond.all_elim ev hat (Cond.before_iff.mp h5)
  refine ⟨a, fun j => (c.slots[j]?).getD .null, Sta.start ev h1, ⟨c, A, hsz, by decide, fun j hj => ?_⟩, fun j hj => ?_⟩
  · show c.slots[j]? = some ((c.slots[j]?).getD .null)
    rw [Array.getElem?_eq_getElem (by rw [hsz]; exact hj)]; rfl
  · obtain ⟨hex, -⟩ := and_e (hall j (by rw [hsz]; exact hj))
    have evj : (Term.static CC "cache" AD).eval args s none [j] s = some (.ref a) := ev
    obtain ⟨hnn, hback⟩ := IntBox.place_nonneg j hj
    have evalE : (Term.elem (.static CC "cache" AD) (.index 0)).eval args s none [j] s = c.slots[j]? := by
      have e1 : (Term.index 0).eval args s none [j] s = some (.int j.toInt32) := Term.index_eval _
      rw [elem_f evj e1 hat hnn, hback]
    obtain ⟨box, eb⟩ := exa_v hex
    refine ⟨box, ?_, exa_at eb hex⟩
    show (c.slots[j]?).getD .null = .ref box
    rw [← evalE, eb]; rfl
theorem own_cidxI {x : Int32} (h1 : ¬ x < (-128 : Int32)) (h2 : ¬ (127 : Int32) < x) : (x + (128 : Int32)).toInt = (((x.toInt + 128).toNat : Nat) : Int) ∧ (x.toInt + 128).toNat < 256 := by
  have q := c_iadd x (128 : Int32); have r := rng32 (x + (128 : Int32))
  have e1 : (-128 : Int32).toInt = -128 := by decide
  have e2 : (127 : Int32).toInt = 127 := by decide
  have e3 : (128 : Int32).toInt = 128 := by decide
  rw [Int32.lt_iff_toInt_lt] at h1 h2; rw [e1] at h1; rw [e2] at h2; rw [e3] at q; omega
theorem own_cidxJ {x : Int64} (h1 : ¬ x < (-128 : Int64)) (h2 : ¬ (127 : Int64) < x) : ((x.toInt32) + (128 : Int32)).toInt = (((x.toInt + 128).toNat : Nat) : Int) ∧ (x.toInt + 128).toNat < 256 := by
  have q := c_iadd x.toInt32 (128 : Int32); have r := rng32 (x.toInt32 + (128 : Int32)); have r2 := rng32 x.toInt32; have q2 := c_l2i x
  have e1 : (-128 : Int64).toInt = -128 := by decide
  have e2 : (127 : Int64).toInt = 127 := by decide
  have e3 : (128 : Int32).toInt = 128 := by decide
  rw [Int64.lt_iff_toInt_lt] at h1 h2; rw [e1] at h1; rw [e2] at h2; rw [e3] at q; omega
theorem own_high {args : Array Value} {s : State} {CC : String} {k : Int32} (h : (Cond.eq (.static CC "high" "I") (.int k)).before args s = true) (hi : (Cond.initializedFor CC "high" "I").before args s = true ∨ ((Cond.initialized CC).before args s = true ∧ (Cond.laysStatic CC "high" "I").before args s = true)) : Sta s s.heap CC "high" "I" (.int k) := by
  have h' := Cond.before_iff.mp h
  obtain ⟨x, y, e1, e2, k1, k2⟩ := cmp_v (Or.inl h')
  cases (show some (Value.int k) = some y from e2)
  obtain ⟨z, rfl⟩ := k2
  have q : z = k := by simp only [Cond.value] at h'; rw [e1, e2] at h'; simpa using h'
  subst q
  exact Sta.start e1 hi
theorem own_nes {α : Type} {x y : α} (h : ¬ x = y) : ¬ y = x := fun q => h q.symm

def own_rm1_Q (Z : State) (a : Addr) (x1 : Int64) (x2 : Int32) (x3 : Int64)  (h0 : Heap) (n0 : Nat) : Option Value → Heap → List Loc → Prop := fun v h L => v = none ∧ Fr n0 L ∧ Keep h0 h [a] ∧ Exa Z h a "com/example/iron_log/ironlog/consumequeue/QueueEntry" ∧ Fld Z h a "com/example/iron_log/ironlog/consumequeue/QueueEntry" "commitLogOffset" "J" (Value.long x1) ∧ Fld Z h a "com/example/iron_log/ironlog/consumequeue/QueueEntry" "recordSize" "I" (Value.int x2) ∧ Fld Z h a "com/example/iron_log/ironlog/consumequeue/QueueEntry" "tagsCode" "J" (Value.long x3)
theorem own_rm1_ef (m : MethodId) (a : Addr) (x1 : Int64) (x2 : Int32) (x3 : Int64)  : entryFrame m #[(Value.ref a), (Value.long x1), (Value.int x2), (Value.long x3)] 6 = mkF m 0 #[.val (Value.ref a), .val (Value.long x1), .second, .val (Value.int x2), .val (Value.long x3), .second] [] := by first | (simp [entryFrame, mkF, argsToLocals, Value.category]; done) | rfl
set_option maxRecDepth 65536 in
set_option maxHeartbeats 40000000 in
theorem own_rm1 (l : Launch) (Z : State) (a0 : Array Value) (hw : ∀ d ∈ tables_1, d.before a0 Z = true) (ws : List Jvm.Cond) (a : Addr) (x1 : Int64) (x2 : Int32) (x3 : Int64)  (h0 : Heap) (n0 : Nat) (O0 : Old Z n0 h0) (E_a : Exa Z h0 a "com/example/iron_log/ironlog/consumequeue/QueueEntry") (F_a_commitLogOffset : Fld Z h0 a "com/example/iron_log/ironlog/consumequeue/QueueEntry" "commitLogOffset" "J" (Value.long (0 : Int64))) (F_a_recordSize : Fld Z h0 a "com/example/iron_log/ironlog/consumequeue/QueueEntry" "recordSize" "I" (Value.int (0 : Int32))) (F_a_tagsCode : Fld Z h0 a "com/example/iron_log/ironlog/consumequeue/QueueEntry" "tagsCode" "J" (Value.long (0 : Int64))) (g_a : n0 ≤ a)  :
    MetFree l (⟨"com/example/iron_log/ironlog/consumequeue/QueueEntry", "<init>", "(JIJ)V"⟩ : MethodName) (head1 (Jvm.Cond.code (⟨"com/example/iron_log/ironlog/consumequeue/QueueEntry", "<init>", "(JIJ)V"⟩ : MethodName) prog_44_method_1_code 6 none :: ws) ({ frames := 1, cells := 0, slots := 0, locals := 12 } : Room)) (fun aa_ U => aa_ = #[(Value.ref a), (Value.long x1), (Value.int x2), (Value.long x3)] ∧ Z.Warmed39 U.vm ∧ U.heap = h0) (fun _ _ _ _ _ => True) (fun _ UU_ oo_ UX_ => ∃ vv_ LL_, oo_ = .returned vv_ ∧ (own_rm1_Q Z a x1 x2 x3 h0 n0) vv_ UX_.heap LL_ ∧ FrameEnd UU_ oo_ UX_ LL_ ({ frames := 1, cells := 0, slots := 0, locals := 12 } : Room).cells ({ frames := 1, cells := 0, slots := 0, locals := 12 } : Room).slots) := by
  refine MetFree.of_bodySF (plainFor_of_name own_pn0) hisR ?_
  intro p e s m args below meth c s₁ Bd hml0 hP hK
  obtain ⟨rfl, hZ, hh⟩ := hP
  have hx := Bd.exec
  have hby := Bd.bytes
  have hml : c.maxLocals = 6 := hml0
  have hown : s.vm.findClass "com/example/iron_log/ironlog/consumequeue/QueueEntry" = some m.cls := findClass_of_methodNamed Bd.named
  have hnm := (name_of_methodNamed Bd.named Bd.method).1
  have hlk : meth.locks = false := BodyLoose.notSynchronized Bd
  have X0 : Stand p l e ({ frames := 1, cells := 0, slots := 0, locals := 12 } : Room) s m #[(Value.ref a), (Value.long x1), (Value.int x2), (Value.long x3)] below meth c s₁ [] 0 0 := Stand.of_body Bd
  have e0 : s₁.heap = h0 := by rw [← hh, Bd.state]; rfl
  have N0 := Fr.nil n0
  show own_G p e below s (own_rm1_Q Z a x1 x2 x3 h0 n0) ({ frames := 1, cells := 0, slots := 0, locals := 12 } : Room).cells ({ frames := 1, cells := 0, slots := 0, locals := 12 } : Room).slots (s₁.setTop (entryFrame m #[(Value.ref a), (Value.long x1), (Value.int x2), (Value.long x3)] 6))
  refine own_cast (own_rm1_ef m a x1 x2 x3 ) ?_
  show own_G p e below s _ _ _ (s₁.setTop (mkF m 0 #[.val (Value.ref a), .val (Value.long x1), .second, .val (Value.int x2), .val (Value.long x3), .second] []))
  refine own_aloadN X0 hx hby own_d1_0 rfl rfl ?_
  show own_G p e below s _ _ _ (s₁.setTop (mkF m 1 #[.val (Value.ref a), .val (Value.long x1), .second, .val (Value.int x2), .val (Value.long x3), .second] [(Value.ref a)]))
  obtain ⟨T1, X1, e1, st1⟩ := initO X0 hx hZ hown (own_w6 hw) (own_w7 hw) (own_w8 hw) e0 (g := (mkF m 1 #[.val (Value.ref a), .val (Value.long x1), .second, .val (Value.int x2), .val (Value.long x3), .second] [(Value.ref a)])) rfl (by rw [hml]; rfl) rfl (hb hby own_d1_1) (by decide) (W := 0) (by show 2 * 0 + _ ≤ _; exact Nat.le_of_eq rfl) (by decide)
  refine own_st st1 ?_
  show own_G p e below s _ _ _ (T1.setTop (mkF m 4 #[.val (Value.ref a), .val (Value.long x1), .second, .val (Value.int x2), .val (Value.long x3), .second] []))
  refine own_aloadN X1 hx hby own_d1_4 rfl rfl ?_
  show own_G p e below s _ _ _ (T1.setTop (mkF m 5 #[.val (Value.ref a), .val (Value.long x1), .second, .val (Value.int x2), .val (Value.long x3), .second] [(Value.ref a)]))
  refine own_lloadN X1 hx hby own_d1_5 rfl ?_
  show own_G p e below s _ _ _ (T1.setTop (mkF m 6 #[.val (Value.ref a), .val (Value.long x1), .second, .val (Value.int x2), .val (Value.long x3), .second] [(Value.long x1), (Value.ref a)]))
  obtain ⟨T2, h2, X2, e2, W2, st2⟩ := putF X1 hx hZ hown (host := "") (Or.inl (own_w9 hw)) Via.refl e1 F_a_commitLogOffset E_a (Or.inr ⟨(own_w10 hw), rfl, hnm⟩) (own_w1 hw) (ty := .long) (by decide) rfl rfl (g := (mkF m 6 #[.val (Value.ref a), .val (Value.long x1), .second, .val (Value.int x2), .val (Value.long x3), .second] [(Value.long x1), (Value.ref a)])) rfl rfl (hb hby own_d1_6)
  have F3_a_recordSize := Fld.other W2 F_a_recordSize (Or.inr (slot_ne (C := "com/example/iron_log/ironlog/consumequeue/QueueEntry") (Or.inr (own_w12 hw)) (Or.inr (own_w10 hw)) (by decide) (t := .int) (t' := .long) (by decide) (by decide)))
  have F3_a_tagsCode := Fld.other W2 F_a_tagsCode (Or.inr (slot_ne (C := "com/example/iron_log/ironlog/consumequeue/QueueEntry") (Or.inr (own_w14 hw)) (Or.inr (own_w10 hw)) (by decide) (t := .long) (t' := .long) (by decide) (by decide)))
  have E3_a := Exa.wr W2 E_a
  have O3 := Old.wr O0 W2 g_a
  have F2w := Fld.same W2 F_a_commitLogOffset
  have K2 := Keep.wr (Keep.refl h0 [a]) W2 (Or.inl (List.mem_of_getElem? (i := 0) rfl))
  have N2 := Fr.snoc X2 N0 g_a
  refine own_st st2 ?_
  show own_G p e below s _ _ _ (T2.setTop (mkF m 9 #[.val (Value.ref a), .val (Value.long x1), .second, .val (Value.int x2), .val (Value.long x3), .second] []))
  refine own_aloadN X2 hx hby own_d1_9 rfl rfl ?_
  show own_G p e below s _ _ _ (T2.setTop (mkF m 10 #[.val (Value.ref a), .val (Value.long x1), .second, .val (Value.int x2), .val (Value.long x3), .second] [(Value.ref a)]))
  refine own_iloadN X2 hx hby own_d1_10 rfl ?_
  show own_G p e below s _ _ _ (T2.setTop (mkF m 11 #[.val (Value.ref a), .val (Value.long x1), .second, .val (Value.int x2), .val (Value.long x3), .second] [(Value.int x2), (Value.ref a)]))
  obtain ⟨T4, h4, X4, e4, W4, st4⟩ := putF X2 hx hZ hown (host := "") (Or.inl (own_w11 hw)) Via.refl e2 F3_a_recordSize E3_a (Or.inr ⟨(own_w12 hw), rfl, hnm⟩) (own_w1 hw) (ty := .int) (by decide) rfl rfl (g := (mkF m 11 #[.val (Value.ref a), .val (Value.long x1), .second, .val (Value.int x2), .val (Value.long x3), .second] [(Value.int x2), (Value.ref a)])) rfl rfl (hb hby own_d1_11)
  have F5_a_commitLogOffset := Fld.other W4 F2w (Or.inr (slot_ne (C := "com/example/iron_log/ironlog/consumequeue/QueueEntry") (Or.inr (own_w10 hw)) (Or.inr (own_w12 hw)) (by decide) (t := .long) (t' := .int) (by decide) (by decide)))
  have F5_a_tagsCode := Fld.other W4 F3_a_tagsCode (Or.inr (slot_ne (C := "com/example/iron_log/ironlog/consumequeue/QueueEntry") (Or.inr (own_w14 hw)) (Or.inr (own_w12 hw)) (by decide) (t := .long) (t' := .int) (by decide) (by decide)))
  have E5_a := Exa.wr W4 E3_a
  have O5 := Old.wr O3 W4 g_a
  have F4w := Fld.same W4 F3_a_recordSize
  have K4 := Keep.wr K2 W4 (Or.inl (List.mem_of_getElem? (i := 0) rfl))
  have N4 := Fr.snoc X4 N2 g_a
  refine own_st st4 ?_
  show own_G p e below s _ _ _ (T4.setTop (mkF m 14 #[.val (Value.ref a), .val (Value.long x1), .second, .val (Value.int x2), .val (Value.long x3), .second] []))
  refine own_aloadN X4 hx hby own_d1_14 rfl rfl ?_
  show own_G p e below s _ _ _ (T4.setTop (mkF m 15 #[.val (Value.ref a), .val (Value.long x1), .second, .val (Value.int x2), .val (Value.long x3), .second] [(Value.ref a)]))
  refine own_lload X4 hx hby own_d1_15 rfl ?_
  show own_G p e below s _ _ _ (T4.setTop (mkF m 17 #[.val (Value.ref a), .val (Value.long x1), .second, .val (Value.int x2), .val (Value.long x3), .second] [(Value.long x3), (Value.ref a)]))
  obtain ⟨T6, h6, X6, e6, W6, st6⟩ := putF X4 hx hZ hown (host := "") (Or.inl (own_w13 hw)) Via.refl e4 F5_a_tagsCode E5_a (Or.inr ⟨(own_w14 hw), rfl, hnm⟩) (own_w1 hw) (ty := .long) (by decide) rfl rfl (g := (mkF m 17 #[.val (Value.ref a), .val (Value.long x1), .second, .val (Value.int x2), .val (Value.long x3), .second] [(Value.long x3), (Value.ref a)])) rfl rfl (hb hby own_d1_17)
  have F7_a_commitLogOffset := Fld.other W6 F5_a_commitLogOffset (Or.inr (slot_ne (C := "com/example/iron_log/ironlog/consumequeue/QueueEntry") (Or.inr (own_w10 hw)) (Or.inr (own_w14 hw)) (by decide) (t := .long) (t' := .long) (by decide) (by decide)))
  have F7_a_recordSize := Fld.other W6 F4w (Or.inr (slot_ne (C := "com/example/iron_log/ironlog/consumequeue/QueueEntry") (Or.inr (own_w12 hw)) (Or.inr (own_w14 hw)) (by decide) (t := .int) (t' := .long) (by decide) (by decide)))
  have E7_a := Exa.wr W6 E5_a
  have O7 := Old.wr O5 W6 g_a
  have F6w := Fld.same W6 F5_a_tagsCode
  have K6 := Keep.wr K4 W6 (Or.inl (List.mem_of_getElem? (i := 0) rfl))
  have N6 := Fr.snoc X6 N4 g_a
  refine own_st st6 ?_
  show own_G p e below s _ _ _ (T6.setTop (mkF m 20 #[.val (Value.ref a), .val (Value.long x1), .second, .val (Value.int x2), .val (Value.long x3), .second] []))
  refine own_ret0 X6 hx hby hlk Bd.returns own_d1_20 (by decide) (by decide) ?_
  show own_rm1_Q Z a x1 x2 x3 h0 n0 none T6.heap _
  rw [e6]
  exact ⟨rfl, N6, K6, E7_a, F7_a_commitLogOffset, F7_a_recordSize, F6w⟩
def own_rm6_Q (Z : State) (a : Addr)  (h0 : Heap) (n0 : Nat) : Option Value → Heap → List Loc → Prop := fun v h L => v = none ∧ h = h0 ∧ Fr n0 L
theorem own_rm6_ef (m : MethodId) (a : Addr)  : entryFrame m #[(Value.ref a)] 1 = mkF m 0 #[.val (Value.ref a)] [] := by first | (simp [entryFrame, mkF, argsToLocals, Value.category]; done) | rfl
set_option maxRecDepth 65536 in
set_option maxHeartbeats 40000000 in
theorem own_rm6 (l : Launch) (Z : State) (a0 : Array Value) (hw : ∀ d ∈ tables_1, d.before a0 Z = true) (ws : List Jvm.Cond) (a : Addr)  (h0 : Heap) (n0 : Nat) (O0 : Old Z n0 h0)  :
    MetFree l (⟨"java/lang/Number", "<init>", "()V"⟩ : MethodName) (head1 (Jvm.Cond.code (⟨"java/lang/Number", "<init>", "()V"⟩ : MethodName) jdk_18_method_1_code 1 none :: ws) ({ frames := 1, cells := 0, slots := 0, locals := 12 } : Room)) (fun aa_ U => aa_ = #[(Value.ref a)] ∧ Z.Warmed39 U.vm ∧ U.heap = h0) (fun _ _ _ _ _ => True) (fun _ UU_ oo_ UX_ => ∃ vv_ LL_, oo_ = .returned vv_ ∧ (own_rm6_Q Z a h0 n0) vv_ UX_.heap LL_ ∧ FrameEnd UU_ oo_ UX_ LL_ ({ frames := 1, cells := 0, slots := 0, locals := 12 } : Room).cells ({ frames := 1, cells := 0, slots := 0, locals := 12 } : Room).slots) := by
  refine MetFree.of_bodySF (plainFor_of_name own_pn1) hisR ?_
  intro p e s m args below meth c s₁ Bd hml0 hP hK
  obtain ⟨rfl, hZ, hh⟩ := hP
  have hx := Bd.exec
  have hby := Bd.bytes
  have hml : c.maxLocals = 1 := hml0
  have hown : s.vm.findClass "java/lang/Number" = some m.cls := findClass_of_methodNamed Bd.named
  have hnm := (name_of_methodNamed Bd.named Bd.method).1
  have hlk : meth.locks = false := BodyLoose.notSynchronized Bd
  have X0 : Stand p l e ({ frames := 1, cells := 0, slots := 0, locals := 12 } : Room) s m #[(Value.ref a)] below meth c s₁ [] 0 0 := Stand.of_body Bd
  have e0 : s₁.heap = h0 := by rw [← hh, Bd.state]; rfl
  have N0 := Fr.nil n0
  show own_G p e below s (own_rm6_Q Z a h0 n0) ({ frames := 1, cells := 0, slots := 0, locals := 12 } : Room).cells ({ frames := 1, cells := 0, slots := 0, locals := 12 } : Room).slots (s₁.setTop (entryFrame m #[(Value.ref a)] 1))
  refine own_cast (own_rm6_ef m a ) ?_
  show own_G p e below s _ _ _ (s₁.setTop (mkF m 0 #[.val (Value.ref a)] []))
  refine own_aloadN X0 hx hby own_d6_0 rfl rfl ?_
  show own_G p e below s _ _ _ (s₁.setTop (mkF m 1 #[.val (Value.ref a)] [(Value.ref a)]))
  obtain ⟨T1, X1, e1, st1⟩ := initO X0 hx hZ hown (own_w39 hw) (own_w7 hw) (own_w8 hw) e0 (g := (mkF m 1 #[.val (Value.ref a)] [(Value.ref a)])) rfl (by rw [hml]; rfl) rfl (hb hby own_d6_1) (by decide) (W := 0) (by show 2 * 0 + _ ≤ _; exact Nat.le_of_eq rfl) (by decide)
  refine own_st st1 ?_
  show own_G p e below s _ _ _ (T1.setTop (mkF m 4 #[.val (Value.ref a)] []))
  refine own_ret0 X1 hx hby hlk Bd.returns own_d6_4 (by decide) (by decide) ?_
  refine ⟨?_, e1, N0⟩
  rfl
def own_rm5_Q (Z : State) (a : Addr) (x : Int64)  (h0 : Heap) (n0 : Nat) : Option Value → Heap → List Loc → Prop := fun v h L => v = none ∧ Fr n0 L ∧ Keep h0 h [a] ∧ Exa Z h a "java/lang/Long" ∧ Fld Z h a "java/lang/Long" "value" "J" (Value.long x)
theorem own_rm5_ef (m : MethodId) (a : Addr) (x : Int64)  : entryFrame m #[(Value.ref a), (Value.long x)] 3 = mkF m 0 #[.val (Value.ref a), .val (Value.long x), .second] [] := by first | (simp [entryFrame, mkF, argsToLocals, Value.category]; done) | rfl
set_option maxRecDepth 65536 in
set_option maxHeartbeats 40000000 in
theorem own_rm5 (l : Launch) (Z : State) (a0 : Array Value) (hw : ∀ d ∈ tables_1, d.before a0 Z = true) (ws : List Jvm.Cond) (a : Addr) (x : Int64)  (h0 : Heap) (n0 : Nat) (O0 : Old Z n0 h0) (E_a : Exa Z h0 a "java/lang/Long") (F_a_value : Fld Z h0 a "java/lang/Long" "value" "J" (Value.long (0 : Int64))) (g_a : n0 ≤ a)  :
    MetFree l (⟨"java/lang/Long", "<init>", "(J)V"⟩ : MethodName) (head1 (Jvm.Cond.code (⟨"java/lang/Long", "<init>", "(J)V"⟩ : MethodName) jdk_35_method_26_code 3 none :: ws) ({ frames := 2, cells := 0, slots := 0, locals := 24 } : Room)) (fun aa_ U => aa_ = #[(Value.ref a), (Value.long x)] ∧ Z.Warmed39 U.vm ∧ U.heap = h0) (fun _ _ _ _ _ => True) (fun _ UU_ oo_ UX_ => ∃ vv_ LL_, oo_ = .returned vv_ ∧ (own_rm5_Q Z a x h0 n0) vv_ UX_.heap LL_ ∧ FrameEnd UU_ oo_ UX_ LL_ ({ frames := 2, cells := 0, slots := 0, locals := 24 } : Room).cells ({ frames := 2, cells := 0, slots := 0, locals := 24 } : Room).slots) := by
  refine MetFree.of_bodySF (plainFor_of_name own_pn2) hisR ?_
  intro p e s m args below meth c s₁ Bd hml0 hP hK
  obtain ⟨rfl, hZ, hh⟩ := hP
  have hx := Bd.exec
  have hby := Bd.bytes
  have hml : c.maxLocals = 3 := hml0
  have hown : s.vm.findClass "java/lang/Long" = some m.cls := findClass_of_methodNamed Bd.named
  have hnm := (name_of_methodNamed Bd.named Bd.method).1
  have hlk : meth.locks = false := BodyLoose.notSynchronized Bd
  have X0 : Stand p l e ({ frames := 2, cells := 0, slots := 0, locals := 24 } : Room) s m #[(Value.ref a), (Value.long x)] below meth c s₁ [] 0 0 := Stand.of_body Bd
  have e0 : s₁.heap = h0 := by rw [← hh, Bd.state]; rfl
  have N0 := Fr.nil n0
  show own_G p e below s (own_rm5_Q Z a x h0 n0) ({ frames := 2, cells := 0, slots := 0, locals := 24 } : Room).cells ({ frames := 2, cells := 0, slots := 0, locals := 24 } : Room).slots (s₁.setTop (entryFrame m #[(Value.ref a), (Value.long x)] 3))
  refine own_cast (own_rm5_ef m a x ) ?_
  show own_G p e below s _ _ _ (s₁.setTop (mkF m 0 #[.val (Value.ref a), .val (Value.long x), .second] []))
  refine own_aloadN X0 hx hby own_d5_0 rfl rfl ?_
  show own_G p e below s _ _ _ (s₁.setTop (mkF m 1 #[.val (Value.ref a), .val (Value.long x), .second] [(Value.ref a)]))
  obtain ⟨_, _, ⟨T1, L1, k1, n1⟩, -, X1, ⟨Lc1, hQ1, l1, y1, z1⟩, st1⟩ := X0.specialBack hx (y := (⟨"java/lang/Number", "<init>", "()V"⟩ : MethodName)) rfl hown (mvT hZ (own_w33 hw)) (mvT hZ (own_w34 hw)) (mvT hZ (own_w38 hw)) (by decide) (backOf (W := 0) (own_rm6 l Z a0 hw [] a  h0 n0 O0  ) hZ (own_w38 hw) (own_w37 hw) (by decide) (by decide)) (g := (mkF m 1 #[.val (Value.ref a), .val (Value.long x), .second] [(Value.ref a)])) rfl (by rw [hml]; rfl) (Steps.refl _) (a := a) (argsL := []) (rest := []) (lenOf own_pd0 rfl) rfl (by show 2 * 0 + _ ≤ _; exact Nat.le_of_eq rfl) (hb hby own_d5_1) (fun _ _ => ⟨rfl, e0, (by decide : (0 : Nat) + 0 ≤ _), (by decide : (0 : Nat) + 0 ≤ _)⟩)
  dsimp only [Pt.U, Pt.locs, Pt.cells, Pt.slots] at X1 l1 y1 z1 st1 hQ1
  subst l1 y1 z1
  obtain ⟨rfl, e1, Nq1⟩ := hQ1
  have N1 := Fr.app N0 Nq1
  refine own_tr st1 ?_
  show own_G p e below s _ _ _ (T1.setTop (mkF m 4 #[.val (Value.ref a), .val (Value.long x), .second] []))
  refine own_aloadN X1 hx hby own_d5_4 rfl rfl ?_
  show own_G p e below s _ _ _ (T1.setTop (mkF m 5 #[.val (Value.ref a), .val (Value.long x), .second] [(Value.ref a)]))
  refine own_lloadN X1 hx hby own_d5_5 rfl ?_
  show own_G p e below s _ _ _ (T1.setTop (mkF m 6 #[.val (Value.ref a), .val (Value.long x), .second] [(Value.long x), (Value.ref a)]))
  obtain ⟨T2, h2, X2, e2, W2, st2⟩ := putF X1 hx hZ hown (host := "") (Or.inl (own_w40 hw)) Via.refl e1 F_a_value E_a (Or.inr ⟨(own_w41 hw), rfl, hnm⟩) (own_w28 hw) (ty := .long) (by decide) rfl rfl (g := (mkF m 6 #[.val (Value.ref a), .val (Value.long x), .second] [(Value.long x), (Value.ref a)])) rfl rfl (hb hby own_d5_6)
  have E3_a := Exa.wr W2 E_a
  have O3 := Old.wr O0 W2 g_a
  have F2w := Fld.same W2 F_a_value
  have K2 := Keep.wr (Keep.refl h0 [a]) W2 (Or.inl (List.mem_of_getElem? (i := 0) rfl))
  have N2 := Fr.snoc X2 N1 g_a
  refine own_st st2 ?_
  show own_G p e below s _ _ _ (T2.setTop (mkF m 9 #[.val (Value.ref a), .val (Value.long x), .second] []))
  refine own_ret0 X2 hx hby hlk Bd.returns own_d5_9 (by decide) (by decide) ?_
  show own_rm5_Q Z a x h0 n0 none T2.heap _
  rw [e2]
  exact ⟨rfl, N2, K2, E3_a, F2w⟩
def own_rm4_Q (Z : State) (x : Int64) (arr : Addr) (f : Nat → Value) (h0 : Heap) (n0 : Nat) : Option Value → Heap → List Loc → Prop := fun v h L => ∃ r, v = some (.ref r) ∧ Fr n0 L ∧ Keep h0 h [] ∧ Exa Z h r "java/lang/Long"
theorem own_rm4_ef (m : MethodId) (x : Int64)  : entryFrame m #[(Value.long x)] 3 = mkF m 0 #[.val (Value.long x), .second, .unset] [] := by first | (simp [entryFrame, mkF, argsToLocals, Value.category]; done) | rfl
set_option maxRecDepth 65536 in
set_option maxHeartbeats 40000000 in
theorem own_rm4 (l : Launch) (Z : State) (a0 : Array Value) (hw : ∀ d ∈ tables_1, d.before a0 Z = true) (ws : List Jvm.Cond) (x : Int64) (arr : Addr) (f : Nat → Value) (h0 : Heap) (n0 : Nat) (O0 : Old Z n0 h0) (hC : own_Ca Z "java/lang/Long" "java/lang/Long$LongCache" "[Ljava/lang/Long;" arr f) :
    MetFree l (⟨"java/lang/Long", "valueOf", "(J)Ljava/lang/Long;"⟩ : MethodName) (head1 (Jvm.Cond.code (⟨"java/lang/Long", "valueOf", "(J)Ljava/lang/Long;"⟩ : MethodName) jdk_35_method_24_code 3 (some (.object "java/lang/Long")) :: ws) ({ frames := 3, cells := 1, slots := 1, locals := 39 } : Room)) (fun aa_ U => aa_ = #[(Value.long x)] ∧ Z.Warmed39 U.vm ∧ U.heap = h0) (fun _ _ _ _ _ => True) (fun _ UU_ oo_ UX_ => ∃ vv_ LL_, oo_ = .returned vv_ ∧ (own_rm4_Q Z x arr f h0 n0) vv_ UX_.heap LL_ ∧ FrameEnd UU_ oo_ UX_ LL_ ({ frames := 3, cells := 1, slots := 1, locals := 39 } : Room).cells ({ frames := 3, cells := 1, slots := 1, locals := 39 } : Room).slots) := by
  refine MetFree.of_bodySF (plainFor_of_name own_pn2) hisR ?_
  intro p e s m args below meth c s₁ Bd hml0 hP hK
  obtain ⟨rfl, hZ, hh⟩ := hP
  have hx := Bd.exec
  have hby := Bd.bytes
  have hml : c.maxLocals = 3 := hml0
  have hown : s.vm.findClass "java/lang/Long" = some m.cls := findClass_of_methodNamed Bd.named
  have hnm := (name_of_methodNamed Bd.named Bd.method).1
  have hlk : meth.locks = false := BodyLoose.notSynchronized Bd
  have X0 : Stand p l e ({ frames := 3, cells := 1, slots := 1, locals := 39 } : Room) s m #[(Value.long x)] below meth c s₁ [] 0 0 := Stand.of_body Bd
  have e0 : s₁.heap = h0 := by rw [← hh, Bd.state]; rfl
  have N0 := Fr.nil n0
  show own_G p e below s (own_rm4_Q Z x arr f h0 n0) ({ frames := 3, cells := 1, slots := 1, locals := 39 } : Room).cells ({ frames := 3, cells := 1, slots := 1, locals := 39 } : Room).slots (s₁.setTop (entryFrame m #[(Value.long x)] 3))
  refine own_cast (own_rm4_ef m x ) ?_
  show own_G p e below s _ _ _ (s₁.setTop (mkF m 0 #[.val (Value.long x), .second, .unset] []))
  refine own_sipush X0 hx hby own_d4_0 ?_
  show own_G p e below s _ _ _ (s₁.setTop (mkF m 3 #[.val (Value.long x), .second, .unset] [(Value.int (128 : Int32))]))
  refine own_istoreN X0 hx hby own_d4_3 (l' := #[.val (Value.long x), .second, .val (Value.int (128 : Int32))]) rfl ?_
  show own_G p e below s _ _ _ (s₁.setTop (mkF m 4 #[.val (Value.long x), .second, .val (Value.int (128 : Int32))] []))
  refine own_lloadN X0 hx hby own_d4_4 rfl ?_
  show own_G p e below s _ _ _ (s₁.setTop (mkF m 5 #[.val (Value.long x), .second, .val (Value.int (128 : Int32))] [(Value.long x)]))
  refine own_ldcJ X0 hx hby hZ hown (own_w26 hw) own_d4_5 ?_
  show own_G p e below s _ _ _ (s₁.setTop (mkF m 8 #[.val (Value.long x), .second, .val (Value.int (128 : Int32))] [(Value.long (-128 : Int64)), (Value.long x)]))
  refine own_lcmp_lt X0 hx hby own_d4_8 own_d4_9 (pc' := 31) (by decide) (by decide) (fun hb1 => ?_) (fun hb1 => ?_)
  · show own_G p e below s _ _ _ (s₁.setTop (mkF m 31 #[.val (Value.long x), .second, .val (Value.int (128 : Int32))] []))
    obtain ⟨T2, h2, X2, e2, E2, A2, D2, -, st2⟩ := newO X0 hx hZ hown (own_w27 hw) (own_w28 hw) (own_w24 hw) e0 (g := (mkF m 31 #[.val (Value.long x), .second, .val (Value.int (128 : Int32))] [])) rfl (hb hby own_d4_31) (by decide) (by decide)
    obtain ⟨b2, g2⟩ : ∃ z, z = h0.size := ⟨_, rfl⟩
    rw [← g2] at A2 D2 st2
    have ne2_arr : arr ≠ b2 := by rw [g2]; exact Nat.ne_of_lt (own_Ar.ext hC.2.1 O0.2).lt
    have A3_arr := own_Ar.ext (own_Ar.ext hC.2.1 O0.2) E2
    have O3 := Old.ext O0 E2
    have g2n : n0 ≤ b2 := by rw [g2]; exact O0.1 ▸ O0.2.1
    have z2n : h0.size ≤ b2 := by rw [g2]; exact ((Keep.refl h0 [])).1
    have F2_value : Fld Z h2 b2 "java/lang/Long" "value" "J" (Value.long (0 : Int64)) := D2 (Or.inr (own_w41 hw)) (ty := .long) (by decide)
    have K2 := Keep.ext (Keep.refl h0 []) E2
    refine own_st st2 ?_
    show own_G p e below s _ _ _ (T2.setTop (mkF m 34 #[.val (Value.long x), .second, .val (Value.int (128 : Int32))] [(Value.ref b2)]))
    refine own_dup X2 hx hby own_d4_34 rfl ?_
    show own_G p e below s _ _ _ (T2.setTop (mkF m 35 #[.val (Value.long x), .second, .val (Value.int (128 : Int32))] [(Value.ref b2), (Value.ref b2)]))
    refine own_lloadN X2 hx hby own_d4_35 rfl ?_
    show own_G p e below s _ _ _ (T2.setTop (mkF m 36 #[.val (Value.long x), .second, .val (Value.int (128 : Int32))] [(Value.long x), (Value.ref b2), (Value.ref b2)]))
    obtain ⟨_, _, ⟨T4, L4, k4, n4⟩, -, X4, ⟨Lc4, hQ4, l4, y4, z4⟩, st4⟩ := X2.specialBack hx (y := (⟨"java/lang/Long", "<init>", "(J)V"⟩ : MethodName)) rfl hown (mvT hZ (own_w29 hw)) (mvT hZ (own_w30 hw)) (mvT hZ (own_w32 hw)) (by decide) (backOf (W := 1) (own_rm5 l Z a0 hw [] b2 x  h2 n0 O3  A2 F2_value g2n) hZ (own_w32 hw) (own_w24 hw) (by decide) (by decide)) (g := (mkF m 36 #[.val (Value.long x), .second, .val (Value.int (128 : Int32))] [(Value.long x), (Value.ref b2), (Value.ref b2)])) rfl (by rw [hml]; rfl) (Steps.refl _) (a := b2) (argsL := [(Value.long x)]) (rest := [(Value.ref b2)]) (lenOf own_pd1 rfl) rfl (by show 2 * 0 + _ ≤ _; exact Nat.le_of_eq rfl) (hb hby own_d4_36) (fun _ _ => ⟨rfl, e2, (by decide : (1 : Nat) + 0 ≤ _), (by decide : (1 : Nat) + 0 ≤ _)⟩)
    dsimp only [Pt.U, Pt.locs, Pt.cells, Pt.slots] at X4 l4 y4 z4 st4 hQ4
    subst l4 y4 z4
    obtain ⟨rfl, Nq4, Kq4, Eq4, Fq4_value⟩ := hQ4
    have N4 := Fr.app N0 Nq4
    have E5_b2 := Exa.keep A2 Kq4
    have A5_arr := own_Ar.keep A3_arr Kq4 (ninS ne2_arr nin0)
    have O5 := Old.keep O3 Kq4 (allS g2n all0)
    have K4 := Keep.trans K2 Kq4 (allS (Or.inr z2n) all0)
    refine own_tr st4 ?_
    show own_G p e below s _ _ _ (T4.setTop (mkF m 39 #[.val (Value.long x), .second, .val (Value.int (128 : Int32))] [(Value.ref b2)]))
    refine own_retA X4 hx hby hlk Bd.returns rfl rfl rfl own_d4_39 (by decide) (by decide) ?_
    show own_rm4_Q Z x arr f h0 n0 _ T4.heap _
    skip
    exact ⟨_, rfl, N4, K4, Eq4⟩
  · show own_G p e below s _ _ _ (s₁.setTop (mkF m 12 #[.val (Value.long x), .second, .val (Value.int (128 : Int32))] []))
    refine own_lloadN X0 hx hby own_d4_12 rfl ?_
    show own_G p e below s _ _ _ (s₁.setTop (mkF m 13 #[.val (Value.long x), .second, .val (Value.int (128 : Int32))] [(Value.long x)]))
    refine own_ldcJ X0 hx hby hZ hown (own_w45 hw) own_d4_13 ?_
    show own_G p e below s _ _ _ (s₁.setTop (mkF m 16 #[.val (Value.long x), .second, .val (Value.int (128 : Int32))] [(Value.long (127 : Int64)), (Value.long x)]))
    refine own_lcmp_gt X0 hx hby own_d4_16 own_d4_17 (pc' := 31) (by decide) (by decide) (fun hb6 => ?_) (fun hb6 => ?_)
    · show own_G p e below s _ _ _ (s₁.setTop (mkF m 31 #[.val (Value.long x), .second, .val (Value.int (128 : Int32))] []))
      obtain ⟨T7, h7, X7, e7, E7, A7, D7, -, st7⟩ := newO X0 hx hZ hown (own_w27 hw) (own_w28 hw) (own_w24 hw) e0 (g := (mkF m 31 #[.val (Value.long x), .second, .val (Value.int (128 : Int32))] [])) rfl (hb hby own_d4_31) (by decide) (by decide)
      obtain ⟨b7, g7⟩ : ∃ z, z = h0.size := ⟨_, rfl⟩
      rw [← g7] at A7 D7 st7
      have ne7_arr : arr ≠ b7 := by rw [g7]; exact Nat.ne_of_lt (own_Ar.ext hC.2.1 O0.2).lt
      have A8_arr := own_Ar.ext (own_Ar.ext hC.2.1 O0.2) E7
      have O8 := Old.ext O0 E7
      have g7n : n0 ≤ b7 := by rw [g7]; exact O0.1 ▸ O0.2.1
      have z7n : h0.size ≤ b7 := by rw [g7]; exact ((Keep.refl h0 [])).1
      have F7_value : Fld Z h7 b7 "java/lang/Long" "value" "J" (Value.long (0 : Int64)) := D7 (Or.inr (own_w41 hw)) (ty := .long) (by decide)
      have K7 := Keep.ext (Keep.refl h0 []) E7
      refine own_st st7 ?_
      show own_G p e below s _ _ _ (T7.setTop (mkF m 34 #[.val (Value.long x), .second, .val (Value.int (128 : Int32))] [(Value.ref b7)]))
      refine own_dup X7 hx hby own_d4_34 rfl ?_
      show own_G p e below s _ _ _ (T7.setTop (mkF m 35 #[.val (Value.long x), .second, .val (Value.int (128 : Int32))] [(Value.ref b7), (Value.ref b7)]))
      refine own_lloadN X7 hx hby own_d4_35 rfl ?_
      show own_G p e below s _ _ _ (T7.setTop (mkF m 36 #[.val (Value.long x), .second, .val (Value.int (128 : Int32))] [(Value.long x), (Value.ref b7), (Value.ref b7)]))
      obtain ⟨_, _, ⟨T9, L9, k9, n9⟩, -, X9, ⟨Lc9, hQ9, l9, y9, z9⟩, st9⟩ := X7.specialBack hx (y := (⟨"java/lang/Long", "<init>", "(J)V"⟩ : MethodName)) rfl hown (mvT hZ (own_w29 hw)) (mvT hZ (own_w30 hw)) (mvT hZ (own_w32 hw)) (by decide) (backOf (W := 1) (own_rm5 l Z a0 hw [] b7 x  h7 n0 O8  A7 F7_value g7n) hZ (own_w32 hw) (own_w24 hw) (by decide) (by decide)) (g := (mkF m 36 #[.val (Value.long x), .second, .val (Value.int (128 : Int32))] [(Value.long x), (Value.ref b7), (Value.ref b7)])) rfl (by rw [hml]; rfl) (Steps.refl _) (a := b7) (argsL := [(Value.long x)]) (rest := [(Value.ref b7)]) (lenOf own_pd1 rfl) rfl (by show 2 * 0 + _ ≤ _; exact Nat.le_of_eq rfl) (hb hby own_d4_36) (fun _ _ => ⟨rfl, e7, (by decide : (1 : Nat) + 0 ≤ _), (by decide : (1 : Nat) + 0 ≤ _)⟩)
      dsimp only [Pt.U, Pt.locs, Pt.cells, Pt.slots] at X9 l9 y9 z9 st9 hQ9
      subst l9 y9 z9
      obtain ⟨rfl, Nq9, Kq9, Eq9, Fq9_value⟩ := hQ9
      have N9 := Fr.app N0 Nq9
      have E10_b7 := Exa.keep A7 Kq9
      have A10_arr := own_Ar.keep A8_arr Kq9 (ninS ne7_arr nin0)
      have O10 := Old.keep O8 Kq9 (allS g7n all0)
      have K9 := Keep.trans K7 Kq9 (allS (Or.inr z7n) all0)
      refine own_tr st9 ?_
      show own_G p e below s _ _ _ (T9.setTop (mkF m 39 #[.val (Value.long x), .second, .val (Value.int (128 : Int32))] [(Value.ref b7)]))
      refine own_retA X9 hx hby hlk Bd.returns rfl rfl rfl own_d4_39 (by decide) (by decide) ?_
      show own_rm4_Q Z x arr f h0 n0 _ T9.heap _
      skip
      exact ⟨_, rfl, N9, K9, Eq9⟩
    · show own_G p e below s _ _ _ (s₁.setTop (mkF m 20 #[.val (Value.long x), .second, .val (Value.int (128 : Int32))] []))
      obtain ⟨T11, X11, e11, st11⟩ := getS2 X0 hx hZ hown (host := "") (Or.inl (own_w46 hw)) Via.refl e0 (Sta.ext O0.2 hC.1) (g := (mkF m 20 #[.val (Value.long x), .second, .val (Value.int (128 : Int32))] [])) rfl (hb hby own_d4_20)
      refine own_st st11 ?_
      show own_G p e below s _ _ _ (T11.setTop (mkF m 23 #[.val (Value.long x), .second, .val (Value.int (128 : Int32))] [(Value.ref arr)]))
      refine own_lloadN X11 hx hby own_d4_23 rfl ?_
      show own_G p e below s _ _ _ (T11.setTop (mkF m 24 #[.val (Value.long x), .second, .val (Value.int (128 : Int32))] [(Value.long x), (Value.ref arr)]))
      refine own_l2i X11 hx hby own_d4_24 ?_
      show own_G p e below s _ _ _ (T11.setTop (mkF m 25 #[.val (Value.long x), .second, .val (Value.int (128 : Int32))] [(Value.int (x.toInt32)), (Value.ref arr)]))
      refine own_sipush X11 hx hby own_d4_25 ?_
      show own_G p e below s _ _ _ (T11.setTop (mkF m 28 #[.val (Value.long x), .second, .val (Value.int (128 : Int32))] [(Value.int (128 : Int32)), (Value.int (x.toInt32)), (Value.ref arr)]))
      refine own_iadd X11 hx hby own_d4_28 ?_
      show own_G p e below s _ _ _ (T11.setTop (mkF m 29 #[.val (Value.long x), .second, .val (Value.int (128 : Int32))] [(Value.int ((x.toInt32) + (128 : Int32))), (Value.ref arr)]))
      have hi : ((((x.toInt32) + (128 : Int32))).toInt) = (((x.toInt + 128).toNat : Nat) : Int) ∧ (x.toInt + 128).toNat < 256 := own_cidxJ hb1 hb6
      obtain ⟨box, hbox, Ebox⟩ := hC.2.2 _ hi.2
      refine own_aaload X11 hx hby hZ e11 (own_Ar.ext hC.2.1 O0.2) rfl (j := ((x.toInt32) + (128 : Int32))) (i := (x.toInt + 128).toNat) hi.1 hi.2 own_d4_29 ?_
      rw [hbox]
      show own_G p e below s _ _ _ (T11.setTop (mkF m 30 #[.val (Value.long x), .second, .val (Value.int (128 : Int32))] [(Value.ref box)]))
      refine own_retA X11 hx hby hlk Bd.returns rfl rfl rfl own_d4_30 (by decide) (by decide) ?_
      show own_rm4_Q Z x arr f h0 n0 _ T11.heap _
      rw [e11]
      exact ⟨_, rfl, N0, (Keep.refl h0 []), (Exa.ext O0.2 Ebox)⟩
def own_rmE_Q (Z : State) (a : Addr) (b : Addr) (u0 : Int64) (u1 : Int32) (u2 : Int64) (v0 : Int64) (v1 : Int32) (v2 : Int64) (h0 : Heap) (n0 : Nat) : Option Value → Heap → List Loc → Prop := fun v h L => v = some (Value.int (own_eq u0 u1 u2 v0 v1 v2)) ∧ h = h0 ∧ Fr n0 L
theorem own_rmE_ef (m : MethodId) (a : Addr) (b : Addr)  : entryFrame m #[(Value.ref a), (Value.ref b)] 3 = mkF m 0 #[.val (Value.ref a), .val (Value.ref b), .unset] [] := by first | (simp [entryFrame, mkF, argsToLocals, Value.category]; done) | rfl
set_option maxRecDepth 65536 in
set_option maxHeartbeats 40000000 in
theorem own_rmE (l : Launch) (Z : State) (a0 : Array Value) (hw : ∀ d ∈ tables_1, d.before a0 Z = true) (ws : List Jvm.Cond) (a : Addr) (b : Addr) (u0 : Int64) (u1 : Int32) (u2 : Int64) (v0 : Int64) (v1 : Int32) (v2 : Int64) (h0 : Heap) (n0 : Nat) (O0 : Old Z n0 h0) (F_a_commitLogOffset : Fld Z h0 a "com/example/iron_log/ironlog/consumequeue/QueueEntry" "commitLogOffset" "J" (Value.long u0)) (F_a_recordSize : Fld Z h0 a "com/example/iron_log/ironlog/consumequeue/QueueEntry" "recordSize" "I" (Value.int u1)) (F_a_tagsCode : Fld Z h0 a "com/example/iron_log/ironlog/consumequeue/QueueEntry" "tagsCode" "J" (Value.long u2)) (E_b : Exa Z h0 b "com/example/iron_log/ironlog/consumequeue/QueueEntry") (F_b_commitLogOffset : Fld Z h0 b "com/example/iron_log/ironlog/consumequeue/QueueEntry" "commitLogOffset" "J" (Value.long v0)) (F_b_recordSize : Fld Z h0 b "com/example/iron_log/ironlog/consumequeue/QueueEntry" "recordSize" "I" (Value.int v1)) (F_b_tagsCode : Fld Z h0 b "com/example/iron_log/ironlog/consumequeue/QueueEntry" "tagsCode" "J" (Value.long v2))  :
    MetFree l (⟨"com/example/iron_log/ironlog/consumequeue/QueueEntry", "equals", "(Ljava/lang/Object;)Z"⟩ : MethodName) (head1 (Jvm.Cond.code (⟨"com/example/iron_log/ironlog/consumequeue/QueueEntry", "equals", "(Ljava/lang/Object;)Z"⟩ : MethodName) prog_44_method_13_code 3 (some .boolean) :: ws) ({ frames := 0, cells := 0, slots := 0, locals := 0 } : Room)) (fun aa_ U => aa_ = #[(Value.ref a), (Value.ref b)] ∧ Z.Warmed39 U.vm ∧ U.heap = h0) (fun _ _ _ _ _ => True) (fun _ UU_ oo_ UX_ => ∃ vv_ LL_, oo_ = .returned vv_ ∧ (own_rmE_Q Z a b u0 u1 u2 v0 v1 v2 h0 n0) vv_ UX_.heap LL_ ∧ FrameEnd UU_ oo_ UX_ LL_ ({ frames := 0, cells := 0, slots := 0, locals := 0 } : Room).cells ({ frames := 0, cells := 0, slots := 0, locals := 0 } : Room).slots) := by
  refine MetFree.of_bodySF (plainFor_of_name own_pn0) hisR ?_
  intro p e s m args below meth c s₁ Bd hml0 hP hK
  obtain ⟨rfl, hZ, hh⟩ := hP
  have hx := Bd.exec
  have hby := Bd.bytes
  have hml : c.maxLocals = 3 := hml0
  have hown : s.vm.findClass "com/example/iron_log/ironlog/consumequeue/QueueEntry" = some m.cls := findClass_of_methodNamed Bd.named
  have hnm := (name_of_methodNamed Bd.named Bd.method).1
  have hlk : meth.locks = false := BodyLoose.notSynchronized Bd
  have X0 : Stand p l e ({ frames := 0, cells := 0, slots := 0, locals := 0 } : Room) s m #[(Value.ref a), (Value.ref b)] below meth c s₁ [] 0 0 := Stand.of_body Bd
  have e0 : s₁.heap = h0 := by rw [← hh, Bd.state]; rfl
  have N0 := Fr.nil n0
  show own_G p e below s (own_rmE_Q Z a b u0 u1 u2 v0 v1 v2 h0 n0) ({ frames := 0, cells := 0, slots := 0, locals := 0 } : Room).cells ({ frames := 0, cells := 0, slots := 0, locals := 0 } : Room).slots (s₁.setTop (entryFrame m #[(Value.ref a), (Value.ref b)] 3))
  refine own_cast (own_rmE_ef m a b ) ?_
  show own_G p e below s _ _ _ (s₁.setTop (mkF m 0 #[.val (Value.ref a), .val (Value.ref b), .unset] []))
  refine own_aloadN X0 hx hby own_d3_0 rfl rfl ?_
  show own_G p e below s _ _ _ (s₁.setTop (mkF m 1 #[.val (Value.ref a), .val (Value.ref b), .unset] [(Value.ref b)]))
  obtain ⟨T1, X1, e1, st1⟩ := instY X0 hx hZ hown (own_w20 hw) e0 (Ins.self E_b) (g := (mkF m 1 #[.val (Value.ref a), .val (Value.ref b), .unset] [(Value.ref b)])) rfl rfl (hb hby own_d3_1)
  refine own_st st1 ?_
  show own_G p e below s _ _ _ (T1.setTop (mkF m 4 #[.val (Value.ref a), .val (Value.ref b), .unset] [(Value.int (1 : Int32))]))
  refine own_if_ne X1 hx hby own_d3_4 (pc' := 9) (by decide) (by decide) (fun hb2 => ?_) (fun hb2 => by exfalso; revert hb2; decide)
  show own_G p e below s _ _ _ (T1.setTop (mkF m 9 #[.val (Value.ref a), .val (Value.ref b), .unset] []))
  refine own_aloadN X1 hx hby own_d3_9 rfl rfl ?_
  show own_G p e below s _ _ _ (T1.setTop (mkF m 10 #[.val (Value.ref a), .val (Value.ref b), .unset] [(Value.ref b)]))
  obtain ⟨T3, X3, e3, st3⟩ := castY X1 hx hZ hown (own_w20 hw) e1 (Ins.self E_b) (g := (mkF m 10 #[.val (Value.ref a), .val (Value.ref b), .unset] [(Value.ref b)])) rfl rfl (hb hby own_d3_10)
  refine own_st st3 ?_
  show own_G p e below s _ _ _ (T3.setTop (mkF m 13 #[.val (Value.ref a), .val (Value.ref b), .unset] [(Value.ref b)]))
  refine own_astoreN X3 hx hby own_d3_13 rfl (l' := #[.val (Value.ref a), .val (Value.ref b), .val (Value.ref b)]) rfl ?_
  show own_G p e below s _ _ _ (T3.setTop (mkF m 14 #[.val (Value.ref a), .val (Value.ref b), .val (Value.ref b)] []))
  refine own_aloadN X3 hx hby own_d3_14 rfl rfl ?_
  show own_G p e below s _ _ _ (T3.setTop (mkF m 15 #[.val (Value.ref a), .val (Value.ref b), .val (Value.ref b)] [(Value.ref a)]))
  obtain ⟨T4, X4, e4, st4⟩ := getF X3 hx hZ hown (host := "") (Or.inl (own_w9 hw)) Via.refl e3 F_a_commitLogOffset (g := (mkF m 15 #[.val (Value.ref a), .val (Value.ref b), .val (Value.ref b)] [(Value.ref a)])) rfl rfl (hb hby own_d3_15)
  refine own_st st4 ?_
  show own_G p e below s _ _ _ (T4.setTop (mkF m 18 #[.val (Value.ref a), .val (Value.ref b), .val (Value.ref b)] [(Value.long u0)]))
  refine own_aloadN X4 hx hby own_d3_18 rfl rfl ?_
  show own_G p e below s _ _ _ (T4.setTop (mkF m 19 #[.val (Value.ref a), .val (Value.ref b), .val (Value.ref b)] [(Value.ref b), (Value.long u0)]))
  obtain ⟨T5, X5, e5, st5⟩ := getF X4 hx hZ hown (host := "") (Or.inl (own_w9 hw)) Via.refl e4 F_b_commitLogOffset (g := (mkF m 19 #[.val (Value.ref a), .val (Value.ref b), .val (Value.ref b)] [(Value.ref b), (Value.long u0)])) rfl rfl (hb hby own_d3_19)
  refine own_st st5 ?_
  show own_G p e below s _ _ _ (T5.setTop (mkF m 22 #[.val (Value.ref a), .val (Value.ref b), .val (Value.ref b)] [(Value.long v0), (Value.long u0)]))
  refine own_lcmp_ne X5 hx hby own_d3_22 own_d3_23 (pc' := 53) (by decide) (by decide) (fun hb6 => ?_) (fun hb6 => ?_)
  · show own_G p e below s _ _ _ (T5.setTop (mkF m 53 #[.val (Value.ref a), .val (Value.ref b), .val (Value.ref b)] []))
    refine own_iconst X5 hx hby own_d3_53 ?_
    show own_G p e below s _ _ _ (T5.setTop (mkF m 54 #[.val (Value.ref a), .val (Value.ref b), .val (Value.ref b)] [(Value.int (0 : Int32))]))
    refine own_retN X5 hx hby hlk (t := .boolean) Bd.returns (by simp) own_d3_54 (by decide) (by decide) ?_
    refine ⟨?_, e5, N0⟩
    show some (Value.int (0 : Int32)) = _
    simp only [own_eq, if_neg hb2, if_neg hb6]
  · show own_G p e below s _ _ _ (T5.setTop (mkF m 26 #[.val (Value.ref a), .val (Value.ref b), .val (Value.ref b)] []))
    refine own_aloadN X5 hx hby own_d3_26 rfl rfl ?_
    show own_G p e below s _ _ _ (T5.setTop (mkF m 27 #[.val (Value.ref a), .val (Value.ref b), .val (Value.ref b)] [(Value.ref a)]))
    obtain ⟨T7, X7, e7, st7⟩ := getF X5 hx hZ hown (host := "") (Or.inl (own_w11 hw)) Via.refl e5 F_a_recordSize (g := (mkF m 27 #[.val (Value.ref a), .val (Value.ref b), .val (Value.ref b)] [(Value.ref a)])) rfl rfl (hb hby own_d3_27)
    refine own_st st7 ?_
    show own_G p e below s _ _ _ (T7.setTop (mkF m 30 #[.val (Value.ref a), .val (Value.ref b), .val (Value.ref b)] [(Value.int u1)]))
    refine own_aloadN X7 hx hby own_d3_30 rfl rfl ?_
    show own_G p e below s _ _ _ (T7.setTop (mkF m 31 #[.val (Value.ref a), .val (Value.ref b), .val (Value.ref b)] [(Value.ref b), (Value.int u1)]))
    obtain ⟨T8, X8, e8, st8⟩ := getF X7 hx hZ hown (host := "") (Or.inl (own_w11 hw)) Via.refl e7 F_b_recordSize (g := (mkF m 31 #[.val (Value.ref a), .val (Value.ref b), .val (Value.ref b)] [(Value.ref b), (Value.int u1)])) rfl rfl (hb hby own_d3_31)
    refine own_st st8 ?_
    show own_G p e below s _ _ _ (T8.setTop (mkF m 34 #[.val (Value.ref a), .val (Value.ref b), .val (Value.ref b)] [(Value.int v1), (Value.int u1)]))
    refine own_icmp_ne X8 hx hby own_d3_34 (pc' := 53) (by decide) (by decide) (fun hb9 => ?_) (fun hb9 => ?_)
    · show own_G p e below s _ _ _ (T8.setTop (mkF m 53 #[.val (Value.ref a), .val (Value.ref b), .val (Value.ref b)] []))
      refine own_iconst X8 hx hby own_d3_53 ?_
      show own_G p e below s _ _ _ (T8.setTop (mkF m 54 #[.val (Value.ref a), .val (Value.ref b), .val (Value.ref b)] [(Value.int (0 : Int32))]))
      refine own_retN X8 hx hby hlk (t := .boolean) Bd.returns (by simp) own_d3_54 (by decide) (by decide) ?_
      refine ⟨?_, e8, N0⟩
      show some (Value.int (0 : Int32)) = _
      simp only [own_eq, if_neg hb2, if_pos hb6, if_neg hb9]
    · show own_G p e below s _ _ _ (T8.setTop (mkF m 37 #[.val (Value.ref a), .val (Value.ref b), .val (Value.ref b)] []))
      refine own_aloadN X8 hx hby own_d3_37 rfl rfl ?_
      show own_G p e below s _ _ _ (T8.setTop (mkF m 38 #[.val (Value.ref a), .val (Value.ref b), .val (Value.ref b)] [(Value.ref a)]))
      obtain ⟨T10, X10, e10, st10⟩ := getF X8 hx hZ hown (host := "") (Or.inl (own_w13 hw)) Via.refl e8 F_a_tagsCode (g := (mkF m 38 #[.val (Value.ref a), .val (Value.ref b), .val (Value.ref b)] [(Value.ref a)])) rfl rfl (hb hby own_d3_38)
      refine own_st st10 ?_
      show own_G p e below s _ _ _ (T10.setTop (mkF m 41 #[.val (Value.ref a), .val (Value.ref b), .val (Value.ref b)] [(Value.long u2)]))
      refine own_aloadN X10 hx hby own_d3_41 rfl rfl ?_
      show own_G p e below s _ _ _ (T10.setTop (mkF m 42 #[.val (Value.ref a), .val (Value.ref b), .val (Value.ref b)] [(Value.ref b), (Value.long u2)]))
      obtain ⟨T11, X11, e11, st11⟩ := getF X10 hx hZ hown (host := "") (Or.inl (own_w13 hw)) Via.refl e10 F_b_tagsCode (g := (mkF m 42 #[.val (Value.ref a), .val (Value.ref b), .val (Value.ref b)] [(Value.ref b), (Value.long u2)])) rfl rfl (hb hby own_d3_42)
      refine own_st st11 ?_
      show own_G p e below s _ _ _ (T11.setTop (mkF m 45 #[.val (Value.ref a), .val (Value.ref b), .val (Value.ref b)] [(Value.long v2), (Value.long u2)]))
      refine own_lcmp_ne X11 hx hby own_d3_45 own_d3_46 (pc' := 53) (by decide) (by decide) (fun hb12 => ?_) (fun hb12 => ?_)
      · show own_G p e below s _ _ _ (T11.setTop (mkF m 53 #[.val (Value.ref a), .val (Value.ref b), .val (Value.ref b)] []))
        refine own_iconst X11 hx hby own_d3_53 ?_
        show own_G p e below s _ _ _ (T11.setTop (mkF m 54 #[.val (Value.ref a), .val (Value.ref b), .val (Value.ref b)] [(Value.int (0 : Int32))]))
        refine own_retN X11 hx hby hlk (t := .boolean) Bd.returns (by simp) own_d3_54 (by decide) (by decide) ?_
        refine ⟨?_, e11, N0⟩
        show some (Value.int (0 : Int32)) = _
        simp only [own_eq, if_neg hb2, if_pos hb6, if_pos hb9, if_neg hb12]
      · show own_G p e below s _ _ _ (T11.setTop (mkF m 49 #[.val (Value.ref a), .val (Value.ref b), .val (Value.ref b)] []))
        refine own_iconst X11 hx hby own_d3_49 ?_
        show own_G p e below s _ _ _ (T11.setTop (mkF m 50 #[.val (Value.ref a), .val (Value.ref b), .val (Value.ref b)] [(Value.int (1 : Int32))]))
        refine own_goto X11 hx hby own_d3_50 (pc' := 54) (by decide) (by decide) ?_
        show own_G p e below s _ _ _ (T11.setTop (mkF m 54 #[.val (Value.ref a), .val (Value.ref b), .val (Value.ref b)] [(Value.int (1 : Int32))]))
        refine own_retN X11 hx hby hlk (t := .boolean) Bd.returns (by simp) own_d3_54 (by decide) (by decide) ?_
        refine ⟨?_, e11, N0⟩
        show some (Value.int (1 : Int32)) = _
        simp only [own_eq, if_neg hb2, if_pos hb6, if_pos hb9, if_pos hb12]
def own_rmN_Q (Z : State) (a : Addr)  (h0 : Heap) (n0 : Nat) : Option Value → Heap → List Loc → Prop := fun v h L => v = some (Value.int (0 : Int32)) ∧ h = h0 ∧ Fr n0 L
theorem own_rmN_ef (m : MethodId) (a : Addr)  : entryFrame m #[(Value.ref a), Value.null] 3 = mkF m 0 #[.val (Value.ref a), .val Value.null, .unset] [] := by first | (simp [entryFrame, mkF, argsToLocals, Value.category]; done) | rfl
set_option maxRecDepth 65536 in
set_option maxHeartbeats 40000000 in
theorem own_rmN (l : Launch) (Z : State) (a0 : Array Value) (hw : ∀ d ∈ tables_1, d.before a0 Z = true) (ws : List Jvm.Cond) (a : Addr)  (h0 : Heap) (n0 : Nat) (O0 : Old Z n0 h0)  :
    MetFree l (⟨"com/example/iron_log/ironlog/consumequeue/QueueEntry", "equals", "(Ljava/lang/Object;)Z"⟩ : MethodName) (head1 (Jvm.Cond.code (⟨"com/example/iron_log/ironlog/consumequeue/QueueEntry", "equals", "(Ljava/lang/Object;)Z"⟩ : MethodName) prog_44_method_13_code 3 (some .boolean) :: ws) ({ frames := 0, cells := 0, slots := 0, locals := 0 } : Room)) (fun aa_ U => aa_ = #[(Value.ref a), Value.null] ∧ Z.Warmed39 U.vm ∧ U.heap = h0) (fun _ _ _ _ _ => True) (fun _ UU_ oo_ UX_ => ∃ vv_ LL_, oo_ = .returned vv_ ∧ (own_rmN_Q Z a h0 n0) vv_ UX_.heap LL_ ∧ FrameEnd UU_ oo_ UX_ LL_ ({ frames := 0, cells := 0, slots := 0, locals := 0 } : Room).cells ({ frames := 0, cells := 0, slots := 0, locals := 0 } : Room).slots) := by
  refine MetFree.of_bodySF (plainFor_of_name own_pn0) hisR ?_
  intro p e s m args below meth c s₁ Bd hml0 hP hK
  obtain ⟨rfl, hZ, hh⟩ := hP
  have hx := Bd.exec
  have hby := Bd.bytes
  have hml : c.maxLocals = 3 := hml0
  have hown : s.vm.findClass "com/example/iron_log/ironlog/consumequeue/QueueEntry" = some m.cls := findClass_of_methodNamed Bd.named
  have hnm := (name_of_methodNamed Bd.named Bd.method).1
  have hlk : meth.locks = false := BodyLoose.notSynchronized Bd
  have X0 : Stand p l e ({ frames := 0, cells := 0, slots := 0, locals := 0 } : Room) s m #[(Value.ref a), Value.null] below meth c s₁ [] 0 0 := Stand.of_body Bd
  have e0 : s₁.heap = h0 := by rw [← hh, Bd.state]; rfl
  have N0 := Fr.nil n0
  show own_G p e below s (own_rmN_Q Z a h0 n0) ({ frames := 0, cells := 0, slots := 0, locals := 0 } : Room).cells ({ frames := 0, cells := 0, slots := 0, locals := 0 } : Room).slots (s₁.setTop (entryFrame m #[(Value.ref a), Value.null] 3))
  refine own_cast (own_rmN_ef m a ) ?_
  show own_G p e below s _ _ _ (s₁.setTop (mkF m 0 #[.val (Value.ref a), .val Value.null, .unset] []))
  refine own_aloadN X0 hx hby own_d3_0 rfl rfl ?_
  show own_G p e below s _ _ _ (s₁.setTop (mkF m 1 #[.val (Value.ref a), .val Value.null, .unset] [Value.null]))
  refine own_instNull X0 hx hby own_d3_1 ?_
  show own_G p e below s _ _ _ (s₁.setTop (mkF m 4 #[.val (Value.ref a), .val Value.null, .unset] [(Value.int (0 : Int32))]))
  refine own_if_ne X0 hx hby own_d3_4 (pc' := 9) (by decide) (by decide) (fun hb1 => by exfalso; revert hb1; decide) (fun hb1 => ?_)
  show own_G p e below s _ _ _ (s₁.setTop (mkF m 7 #[.val (Value.ref a), .val Value.null, .unset] []))
  refine own_iconst X0 hx hby own_d3_7 ?_
  show own_G p e below s _ _ _ (s₁.setTop (mkF m 8 #[.val (Value.ref a), .val Value.null, .unset] [(Value.int (0 : Int32))]))
  refine own_retN X0 hx hby hlk (t := .boolean) Bd.returns (by simp) own_d3_8 (by decide) (by decide) ?_
  refine ⟨?_, e0, N0⟩
  show some (Value.int (0 : Int32)) = _
  rfl
def own_rmL_Q (Z : State) (a : Addr) (b : Addr)  (h0 : Heap) (n0 : Nat) : Option Value → Heap → List Loc → Prop := fun v h L => v = some (Value.int (0 : Int32)) ∧ h = h0 ∧ Fr n0 L
theorem own_rmL_ef (m : MethodId) (a : Addr) (b : Addr)  : entryFrame m #[(Value.ref a), (Value.ref b)] 3 = mkF m 0 #[.val (Value.ref a), .val (Value.ref b), .unset] [] := by first | (simp [entryFrame, mkF, argsToLocals, Value.category]; done) | rfl
set_option maxRecDepth 65536 in
set_option maxHeartbeats 40000000 in
theorem own_rmL (l : Launch) (Z : State) (a0 : Array Value) (hw : ∀ d ∈ tables_1, d.before a0 Z = true) (ws : List Jvm.Cond) (a : Addr) (b : Addr)  (h0 : Heap) (n0 : Nat) (O0 : Old Z n0 h0) (E_b : Exa Z h0 b "java/lang/Long")  :
    MetFree l (⟨"com/example/iron_log/ironlog/consumequeue/QueueEntry", "equals", "(Ljava/lang/Object;)Z"⟩ : MethodName) (head1 (Jvm.Cond.code (⟨"com/example/iron_log/ironlog/consumequeue/QueueEntry", "equals", "(Ljava/lang/Object;)Z"⟩ : MethodName) prog_44_method_13_code 3 (some .boolean) :: ws) ({ frames := 0, cells := 0, slots := 0, locals := 0 } : Room)) (fun aa_ U => aa_ = #[(Value.ref a), (Value.ref b)] ∧ Z.Warmed39 U.vm ∧ U.heap = h0) (fun _ _ _ _ _ => True) (fun _ UU_ oo_ UX_ => ∃ vv_ LL_, oo_ = .returned vv_ ∧ (own_rmL_Q Z a b h0 n0) vv_ UX_.heap LL_ ∧ FrameEnd UU_ oo_ UX_ LL_ ({ frames := 0, cells := 0, slots := 0, locals := 0 } : Room).cells ({ frames := 0, cells := 0, slots := 0, locals := 0 } : Room).slots) := by
  refine MetFree.of_bodySF (plainFor_of_name own_pn0) hisR ?_
  intro p e s m args below meth c s₁ Bd hml0 hP hK
  obtain ⟨rfl, hZ, hh⟩ := hP
  have hx := Bd.exec
  have hby := Bd.bytes
  have hml : c.maxLocals = 3 := hml0
  have hown : s.vm.findClass "com/example/iron_log/ironlog/consumequeue/QueueEntry" = some m.cls := findClass_of_methodNamed Bd.named
  have hnm := (name_of_methodNamed Bd.named Bd.method).1
  have hlk : meth.locks = false := BodyLoose.notSynchronized Bd
  have X0 : Stand p l e ({ frames := 0, cells := 0, slots := 0, locals := 0 } : Room) s m #[(Value.ref a), (Value.ref b)] below meth c s₁ [] 0 0 := Stand.of_body Bd
  have e0 : s₁.heap = h0 := by rw [← hh, Bd.state]; rfl
  have N0 := Fr.nil n0
  show own_G p e below s (own_rmL_Q Z a b h0 n0) ({ frames := 0, cells := 0, slots := 0, locals := 0 } : Room).cells ({ frames := 0, cells := 0, slots := 0, locals := 0 } : Room).slots (s₁.setTop (entryFrame m #[(Value.ref a), (Value.ref b)] 3))
  refine own_cast (own_rmL_ef m a b ) ?_
  show own_G p e below s _ _ _ (s₁.setTop (mkF m 0 #[.val (Value.ref a), .val (Value.ref b), .unset] []))
  refine own_aloadN X0 hx hby own_d3_0 rfl rfl ?_
  show own_G p e below s _ _ _ (s₁.setTop (mkF m 1 #[.val (Value.ref a), .val (Value.ref b), .unset] [(Value.ref b)]))
  obtain ⟨T1, X1, e1, st1⟩ := instNo X0 hx hZ hown (own_w20 hw) e0 E_b (own_NSno (own_w42 hw) (own_w1 hw) (NS.step (own_w42 hw) (NS.step (own_w43 hw) (own_NSroot (own_w44 hw) (own_w1 hw) (by decide)) (by decide)) (by decide)) (by decide)) (g := (mkF m 1 #[.val (Value.ref a), .val (Value.ref b), .unset] [(Value.ref b)])) rfl rfl (hb hby own_d3_1)
  refine own_st st1 ?_
  show own_G p e below s _ _ _ (T1.setTop (mkF m 4 #[.val (Value.ref a), .val (Value.ref b), .unset] [(Value.int (0 : Int32))]))
  refine own_if_ne X1 hx hby own_d3_4 (pc' := 9) (by decide) (by decide) (fun hb2 => by exfalso; revert hb2; decide) (fun hb2 => ?_)
  show own_G p e below s _ _ _ (T1.setTop (mkF m 7 #[.val (Value.ref a), .val (Value.ref b), .unset] []))
  refine own_iconst X1 hx hby own_d3_7 ?_
  show own_G p e below s _ _ _ (T1.setTop (mkF m 8 #[.val (Value.ref a), .val (Value.ref b), .unset] [(Value.int (0 : Int32))]))
  refine own_retN X1 hx hby hlk (t := .boolean) Bd.returns (by simp) own_d3_8 (by decide) (by decide) ?_
  refine ⟨?_, e1, N0⟩
  show some (Value.int (0 : Int32)) = _
  rfl
def own_rm0_Q (Z : State) (x0 : Int64) (x1 : Int32) (x2 : Int64) (x3 : Int64) (x4 : Int32) (x5 : Int32) (arr : Addr) (f : Nat → Value) (h0 : Heap) (n0 : Nat) : Option Value → Heap → List Loc → Prop := fun v h L => v = some (.int 1) ∧ Fr n0 L
theorem own_rm0_ef (m : MethodId) (x0 : Int64) (x1 : Int32) (x2 : Int64) (x3 : Int64) (x4 : Int32) (x5 : Int32)  : entryFrame m #[(Value.long x0), (Value.int x1), (Value.long x2), (Value.long x3), (Value.int x4), (Value.int x5)] maxLocals = mkF m 0 #[.val (Value.long x0), .second, .val (Value.int x1), .val (Value.long x2), .second, .val (Value.long x3), .second, .val (Value.int x4), .val (Value.int x5), .unset, .unset, .unset, .unset, .unset, .unset, .unset, .unset, .unset, .unset, .unset, .unset] [] := by first | (simp [entryFrame, mkF, argsToLocals, Value.category, maxLocals]; done) | rfl
set_option maxRecDepth 65536 in
set_option maxHeartbeats 40000000 in
theorem own_rm0 (l : Launch) (Z : State) (a0 : Array Value) (hw : ∀ d ∈ tables_1, d.before a0 Z = true) (ws : List Jvm.Cond) (x0 : Int64) (x1 : Int32) (x2 : Int64) (x3 : Int64) (x4 : Int32) (x5 : Int32) (arr : Addr) (f : Nat → Value) (h0 : Heap) (n0 : Nat) (O0 : Old Z n0 h0) (hC : own_Ca Z "java/lang/Long" "java/lang/Long$LongCache" "[Ljava/lang/Long;" arr f) :
    MetFree l x (head1 (Jvm.Cond.code x code maxLocals ret :: ws) room_1) (fun aa_ U => aa_ = #[(Value.long x0), (Value.int x1), (Value.long x2), (Value.long x3), (Value.int x4), (Value.int x5)] ∧ Z.Warmed39 U.vm ∧ U.heap = h0) (fun _ _ _ _ _ => True) (fun _ UU_ oo_ UX_ => ∃ vv_ LL_, oo_ = .returned vv_ ∧ (own_rm0_Q Z x0 x1 x2 x3 x4 x5 arr f h0 n0) vv_ UX_.heap LL_ ∧ FrameEnd UU_ oo_ UX_ LL_ 16 128) := by
  refine MetFree.of_bodySF (plainFor_of_name own_pn3) hisR ?_
  intro p e s m args below meth c s₁ Bd hml0 hP hK
  obtain ⟨rfl, hZ, hh⟩ := hP
  have hx := Bd.exec
  have hby := Bd.bytes
  have hml : c.maxLocals = 21 := hml0
  have hown : s.vm.findClass "com/example/iron_log/ironlog/consumequeue/QueueEntryEqualsPinLaw" = some m.cls := findClass_of_methodNamed Bd.named
  have hnm := (name_of_methodNamed Bd.named Bd.method).1
  have hlk : meth.locks = false := BodyLoose.notSynchronized Bd
  have X0 : Stand p l e room_1 s m #[(Value.long x0), (Value.int x1), (Value.long x2), (Value.long x3), (Value.int x4), (Value.int x5)] below meth c s₁ [] 0 0 := Stand.of_body Bd
  have e0 : s₁.heap = h0 := by rw [← hh, Bd.state]; rfl
  have N0 := Fr.nil n0
  show own_G p e below s (own_rm0_Q Z x0 x1 x2 x3 x4 x5 arr f h0 n0) 16 128 (s₁.setTop (entryFrame m #[(Value.long x0), (Value.int x1), (Value.long x2), (Value.long x3), (Value.int x4), (Value.int x5)] maxLocals))
  refine own_cast (own_rm0_ef m x0 x1 x2 x3 x4 x5 ) ?_
  have Jn : ∀ (c0 c1 c2 : Int32) (o2 : Int64) (z2 : Int32) (t2 : Int64), own_G p e below s (own_rm0_Q Z x0 x1 x2 x3 x4 x5 arr f h0 n0) 16 128 (s₁.setTop (mkF m 87 #[.val (Value.long x0), .second, .val (Value.int x1), .val (Value.long x2), .second, .val (Value.long x3), .second, .val (Value.int x4), .val (Value.int x5), .val (Value.int c0), .val (Value.int c1), .val (Value.int c2), .val (Value.long o2), .second, .val (Value.int z2), .val (Value.long t2), .second, .unset, .unset, .unset, .unset] [])) := by
    intro c0 c1 c2 o2 z2 t2
    show own_G p e below s _ _ _ (s₁.setTop (mkF m 87 #[.val (Value.long x0), .second, .val (Value.int x1), .val (Value.long x2), .second, .val (Value.long x3), .second, .val (Value.int x4), .val (Value.int x5), .val (Value.int c0), .val (Value.int c1), .val (Value.int c2), .val (Value.long o2), .second, .val (Value.int z2), .val (Value.long t2), .second, .unset, .unset, .unset, .unset] []))
    obtain ⟨T1, h1, X1, e1, E1, A1, D1, -, st1⟩ := newO X0 hx hZ hown (own_w0 hw) (own_w1 hw) (own_w2 hw) e0 (g := (mkF m 87 #[.val (Value.long x0), .second, .val (Value.int x1), .val (Value.long x2), .second, .val (Value.long x3), .second, .val (Value.int x4), .val (Value.int x5), .val (Value.int c0), .val (Value.int c1), .val (Value.int c2), .val (Value.long o2), .second, .val (Value.int z2), .val (Value.long t2), .second, .unset, .unset, .unset, .unset] [])) rfl (hb hby at_87) (by decide) (by decide)
    obtain ⟨b1, g1⟩ : ∃ z, z = h0.size := ⟨_, rfl⟩
    rw [← g1] at A1 D1 st1
    have O2 := Old.ext O0 E1
    have g1n : n0 ≤ b1 := by rw [g1]; exact O0.1 ▸ O0.2.1
    have F1_commitLogOffset : Fld Z h1 b1 "com/example/iron_log/ironlog/consumequeue/QueueEntry" "commitLogOffset" "J" (Value.long (0 : Int64)) := D1 (Or.inr (own_w10 hw)) (ty := .long) (by decide)
    have F1_recordSize : Fld Z h1 b1 "com/example/iron_log/ironlog/consumequeue/QueueEntry" "recordSize" "I" (Value.int (0 : Int32)) := D1 (Or.inr (own_w12 hw)) (ty := .int) (by decide)
    have F1_tagsCode : Fld Z h1 b1 "com/example/iron_log/ironlog/consumequeue/QueueEntry" "tagsCode" "J" (Value.long (0 : Int64)) := D1 (Or.inr (own_w14 hw)) (ty := .long) (by decide)
    refine own_st st1 ?_
    show own_G p e below s _ _ _ (T1.setTop (mkF m 90 #[.val (Value.long x0), .second, .val (Value.int x1), .val (Value.long x2), .second, .val (Value.long x3), .second, .val (Value.int x4), .val (Value.int x5), .val (Value.int c0), .val (Value.int c1), .val (Value.int c2), .val (Value.long o2), .second, .val (Value.int z2), .val (Value.long t2), .second, .unset, .unset, .unset, .unset] [(Value.ref b1)]))
    refine own_dup X1 hx hby at_90 rfl ?_
    show own_G p e below s _ _ _ (T1.setTop (mkF m 91 #[.val (Value.long x0), .second, .val (Value.int x1), .val (Value.long x2), .second, .val (Value.long x3), .second, .val (Value.int x4), .val (Value.int x5), .val (Value.int c0), .val (Value.int c1), .val (Value.int c2), .val (Value.long o2), .second, .val (Value.int z2), .val (Value.long t2), .second, .unset, .unset, .unset, .unset] [(Value.ref b1), (Value.ref b1)]))
    refine own_lloadN X1 hx hby at_91 rfl ?_
    show own_G p e below s _ _ _ (T1.setTop (mkF m 92 #[.val (Value.long x0), .second, .val (Value.int x1), .val (Value.long x2), .second, .val (Value.long x3), .second, .val (Value.int x4), .val (Value.int x5), .val (Value.int c0), .val (Value.int c1), .val (Value.int c2), .val (Value.long o2), .second, .val (Value.int z2), .val (Value.long t2), .second, .unset, .unset, .unset, .unset] [(Value.long x0), (Value.ref b1), (Value.ref b1)]))
    refine own_iloadN X1 hx hby at_92 rfl ?_
    show own_G p e below s _ _ _ (T1.setTop (mkF m 93 #[.val (Value.long x0), .second, .val (Value.int x1), .val (Value.long x2), .second, .val (Value.long x3), .second, .val (Value.int x4), .val (Value.int x5), .val (Value.int c0), .val (Value.int c1), .val (Value.int c2), .val (Value.long o2), .second, .val (Value.int z2), .val (Value.long t2), .second, .unset, .unset, .unset, .unset] [(Value.int x1), (Value.long x0), (Value.ref b1), (Value.ref b1)]))
    refine own_lloadN X1 hx hby at_93 rfl ?_
    show own_G p e below s _ _ _ (T1.setTop (mkF m 94 #[.val (Value.long x0), .second, .val (Value.int x1), .val (Value.long x2), .second, .val (Value.long x3), .second, .val (Value.int x4), .val (Value.int x5), .val (Value.int c0), .val (Value.int c1), .val (Value.int c2), .val (Value.long o2), .second, .val (Value.int z2), .val (Value.long t2), .second, .unset, .unset, .unset, .unset] [(Value.long x2), (Value.int x1), (Value.long x0), (Value.ref b1), (Value.ref b1)]))
    obtain ⟨_, _, ⟨T3, L3, k3, n3⟩, -, X3, ⟨Lc3, hQ3, l3, y3, z3⟩, st3⟩ := X1.specialBack hx (y := (⟨"com/example/iron_log/ironlog/consumequeue/QueueEntry", "<init>", "(JIJ)V"⟩ : MethodName)) rfl hown (mvT hZ (own_w3 hw)) (mvT hZ (own_w4 hw)) (mvT hZ (own_w5 hw)) (by decide) (backOf (W := 1) (own_rm1 l Z a0 hw [] b1 x0 x1 x2  h1 n0 O2  A1 F1_commitLogOffset F1_recordSize F1_tagsCode g1n) hZ (own_w5 hw) (own_w2 hw) (by decide) (by decide)) (g := (mkF m 94 #[.val (Value.long x0), .second, .val (Value.int x1), .val (Value.long x2), .second, .val (Value.long x3), .second, .val (Value.int x4), .val (Value.int x5), .val (Value.int c0), .val (Value.int c1), .val (Value.int c2), .val (Value.long o2), .second, .val (Value.int z2), .val (Value.long t2), .second, .unset, .unset, .unset, .unset] [(Value.long x2), (Value.int x1), (Value.long x0), (Value.ref b1), (Value.ref b1)])) rfl (by rw [hml]; rfl) (Steps.refl _) (a := b1) (argsL := [(Value.long x0), (Value.int x1), (Value.long x2)]) (rest := [(Value.ref b1)]) (lenOf own_pd2 rfl) rfl (by show 2 * 0 + _ ≤ _; exact Nat.le_of_eq rfl) (hb hby at_94) (fun _ _ => ⟨rfl, e1, (by decide : (1 : Nat) + 0 ≤ _), (by decide : (3 : Nat) + 0 ≤ _)⟩)
    dsimp only [Pt.U, Pt.locs, Pt.cells, Pt.slots] at X3 l3 y3 z3 st3 hQ3
    subst l3 y3 z3
    obtain ⟨rfl, Nq3, Kq3, Eq3, Fq3_commitLogOffset, Fq3_recordSize, Fq3_tagsCode⟩ := hQ3
    have N3 := Fr.app N0 Nq3
    have E4_b1 := Exa.keep A1 Kq3
    have O4 := Old.keep O2 Kq3 (allS g1n all0)
    refine own_tr st3 ?_
    show own_G p e below s _ _ _ (T3.setTop (mkF m 97 #[.val (Value.long x0), .second, .val (Value.int x1), .val (Value.long x2), .second, .val (Value.long x3), .second, .val (Value.int x4), .val (Value.int x5), .val (Value.int c0), .val (Value.int c1), .val (Value.int c2), .val (Value.long o2), .second, .val (Value.int z2), .val (Value.long t2), .second, .unset, .unset, .unset, .unset] [(Value.ref b1)]))
    refine own_astore X3 hx hby at_97 rfl (l' := #[.val (Value.long x0), .second, .val (Value.int x1), .val (Value.long x2), .second, .val (Value.long x3), .second, .val (Value.int x4), .val (Value.int x5), .val (Value.int c0), .val (Value.int c1), .val (Value.int c2), .val (Value.long o2), .second, .val (Value.int z2), .val (Value.long t2), .second, .val (Value.ref b1), .unset, .unset, .unset]) rfl ?_
    show own_G p e below s _ _ _ (T3.setTop (mkF m 99 #[.val (Value.long x0), .second, .val (Value.int x1), .val (Value.long x2), .second, .val (Value.long x3), .second, .val (Value.int x4), .val (Value.int x5), .val (Value.int c0), .val (Value.int c1), .val (Value.int c2), .val (Value.long o2), .second, .val (Value.int z2), .val (Value.long t2), .second, .val (Value.ref b1), .unset, .unset, .unset] []))
    obtain ⟨T5, h5, X5, e5, E5, A5, D5, -, st5⟩ := newO X3 hx hZ hown (own_w0 hw) (own_w1 hw) (own_w2 hw) rfl (g := (mkF m 99 #[.val (Value.long x0), .second, .val (Value.int x1), .val (Value.long x2), .second, .val (Value.long x3), .second, .val (Value.int x4), .val (Value.int x5), .val (Value.int c0), .val (Value.int c1), .val (Value.int c2), .val (Value.long o2), .second, .val (Value.int z2), .val (Value.long t2), .second, .val (Value.ref b1), .unset, .unset, .unset] [])) rfl (hb hby at_99) (by decide) (by decide)
    obtain ⟨b5, g5⟩ : ∃ z, z = T3.heap.size := ⟨_, rfl⟩
    rw [← g5] at A5 D5 st5
    have ne5_b1 : b1 ≠ b5 := by rw [g5]; exact Nat.ne_of_lt Fq3_commitLogOffset.lt
    have F6_b1_commitLogOffset := Fld.ext E5 Fq3_commitLogOffset
    have F6_b1_recordSize := Fld.ext E5 Fq3_recordSize
    have F6_b1_tagsCode := Fld.ext E5 Fq3_tagsCode
    have E6_b1 := Exa.ext E5 Eq3
    have O6 := Old.ext O4 E5
    have g5n : n0 ≤ b5 := by rw [g5]; exact O4.1 ▸ O4.2.1
    have F5_commitLogOffset : Fld Z h5 b5 "com/example/iron_log/ironlog/consumequeue/QueueEntry" "commitLogOffset" "J" (Value.long (0 : Int64)) := D5 (Or.inr (own_w10 hw)) (ty := .long) (by decide)
    have F5_recordSize : Fld Z h5 b5 "com/example/iron_log/ironlog/consumequeue/QueueEntry" "recordSize" "I" (Value.int (0 : Int32)) := D5 (Or.inr (own_w12 hw)) (ty := .int) (by decide)
    have F5_tagsCode : Fld Z h5 b5 "com/example/iron_log/ironlog/consumequeue/QueueEntry" "tagsCode" "J" (Value.long (0 : Int64)) := D5 (Or.inr (own_w14 hw)) (ty := .long) (by decide)
    refine own_st st5 ?_
    show own_G p e below s _ _ _ (T5.setTop (mkF m 102 #[.val (Value.long x0), .second, .val (Value.int x1), .val (Value.long x2), .second, .val (Value.long x3), .second, .val (Value.int x4), .val (Value.int x5), .val (Value.int c0), .val (Value.int c1), .val (Value.int c2), .val (Value.long o2), .second, .val (Value.int z2), .val (Value.long t2), .second, .val (Value.ref b1), .unset, .unset, .unset] [(Value.ref b5)]))
    refine own_dup X5 hx hby at_102 rfl ?_
    show own_G p e below s _ _ _ (T5.setTop (mkF m 103 #[.val (Value.long x0), .second, .val (Value.int x1), .val (Value.long x2), .second, .val (Value.long x3), .second, .val (Value.int x4), .val (Value.int x5), .val (Value.int c0), .val (Value.int c1), .val (Value.int c2), .val (Value.long o2), .second, .val (Value.int z2), .val (Value.long t2), .second, .val (Value.ref b1), .unset, .unset, .unset] [(Value.ref b5), (Value.ref b5)]))
    refine own_lload X5 hx hby at_103 rfl ?_
    show own_G p e below s _ _ _ (T5.setTop (mkF m 105 #[.val (Value.long x0), .second, .val (Value.int x1), .val (Value.long x2), .second, .val (Value.long x3), .second, .val (Value.int x4), .val (Value.int x5), .val (Value.int c0), .val (Value.int c1), .val (Value.int c2), .val (Value.long o2), .second, .val (Value.int z2), .val (Value.long t2), .second, .val (Value.ref b1), .unset, .unset, .unset] [(Value.long o2), (Value.ref b5), (Value.ref b5)]))
    refine own_iload X5 hx hby at_105 rfl ?_
    show own_G p e below s _ _ _ (T5.setTop (mkF m 107 #[.val (Value.long x0), .second, .val (Value.int x1), .val (Value.long x2), .second, .val (Value.long x3), .second, .val (Value.int x4), .val (Value.int x5), .val (Value.int c0), .val (Value.int c1), .val (Value.int c2), .val (Value.long o2), .second, .val (Value.int z2), .val (Value.long t2), .second, .val (Value.ref b1), .unset, .unset, .unset] [(Value.int z2), (Value.long o2), (Value.ref b5), (Value.ref b5)]))
    refine own_lload X5 hx hby at_107 rfl ?_
    show own_G p e below s _ _ _ (T5.setTop (mkF m 109 #[.val (Value.long x0), .second, .val (Value.int x1), .val (Value.long x2), .second, .val (Value.long x3), .second, .val (Value.int x4), .val (Value.int x5), .val (Value.int c0), .val (Value.int c1), .val (Value.int c2), .val (Value.long o2), .second, .val (Value.int z2), .val (Value.long t2), .second, .val (Value.ref b1), .unset, .unset, .unset] [(Value.long t2), (Value.int z2), (Value.long o2), (Value.ref b5), (Value.ref b5)]))
    obtain ⟨_, _, ⟨T7, L7, k7, n7⟩, -, X7, ⟨Lc7, hQ7, l7, y7, z7⟩, st7⟩ := X5.specialBack hx (y := (⟨"com/example/iron_log/ironlog/consumequeue/QueueEntry", "<init>", "(JIJ)V"⟩ : MethodName)) rfl hown (mvT hZ (own_w3 hw)) (mvT hZ (own_w4 hw)) (mvT hZ (own_w5 hw)) (by decide) (backOf (W := 1) (own_rm1 l Z a0 hw [] b5 o2 z2 t2  h5 n0 O6  A5 F5_commitLogOffset F5_recordSize F5_tagsCode g5n) hZ (own_w5 hw) (own_w2 hw) (by decide) (by decide)) (g := (mkF m 109 #[.val (Value.long x0), .second, .val (Value.int x1), .val (Value.long x2), .second, .val (Value.long x3), .second, .val (Value.int x4), .val (Value.int x5), .val (Value.int c0), .val (Value.int c1), .val (Value.int c2), .val (Value.long o2), .second, .val (Value.int z2), .val (Value.long t2), .second, .val (Value.ref b1), .unset, .unset, .unset] [(Value.long t2), (Value.int z2), (Value.long o2), (Value.ref b5), (Value.ref b5)])) rfl (by rw [hml]; rfl) (Steps.refl _) (a := b5) (argsL := [(Value.long o2), (Value.int z2), (Value.long t2)]) (rest := [(Value.ref b5)]) (lenOf own_pd2 rfl) rfl (by show 2 * 0 + _ ≤ _; exact Nat.le_of_eq rfl) (hb hby at_109) (fun _ _ => ⟨rfl, e5, (by decide : (2 : Nat) + 0 ≤ _), (by decide : (6 : Nat) + 0 ≤ _)⟩)
    dsimp only [Pt.U, Pt.locs, Pt.cells, Pt.slots] at X7 l7 y7 z7 st7 hQ7
    subst l7 y7 z7
    obtain ⟨rfl, Nq7, Kq7, Eq7, Fq7_commitLogOffset, Fq7_recordSize, Fq7_tagsCode⟩ := hQ7
    have N7 := Fr.app N3 Nq7
    have F8_b1_commitLogOffset := Fld.keep F6_b1_commitLogOffset Kq7 (ninS ne5_b1 nin0)
    have F8_b1_recordSize := Fld.keep F6_b1_recordSize Kq7 (ninS ne5_b1 nin0)
    have F8_b1_tagsCode := Fld.keep F6_b1_tagsCode Kq7 (ninS ne5_b1 nin0)
    have E8_b1 := Exa.keep E6_b1 Kq7
    have E8_b5 := Exa.keep A5 Kq7
    have O8 := Old.keep O6 Kq7 (allS g5n all0)
    refine own_tr st7 ?_
    show own_G p e below s _ _ _ (T7.setTop (mkF m 112 #[.val (Value.long x0), .second, .val (Value.int x1), .val (Value.long x2), .second, .val (Value.long x3), .second, .val (Value.int x4), .val (Value.int x5), .val (Value.int c0), .val (Value.int c1), .val (Value.int c2), .val (Value.long o2), .second, .val (Value.int z2), .val (Value.long t2), .second, .val (Value.ref b1), .unset, .unset, .unset] [(Value.ref b5)]))
    refine own_astore X7 hx hby at_112 rfl (l' := #[.val (Value.long x0), .second, .val (Value.int x1), .val (Value.long x2), .second, .val (Value.long x3), .second, .val (Value.int x4), .val (Value.int x5), .val (Value.int c0), .val (Value.int c1), .val (Value.int c2), .val (Value.long o2), .second, .val (Value.int z2), .val (Value.long t2), .second, .val (Value.ref b1), .val (Value.ref b5), .unset, .unset]) rfl ?_
    show own_G p e below s _ _ _ (T7.setTop (mkF m 114 #[.val (Value.long x0), .second, .val (Value.int x1), .val (Value.long x2), .second, .val (Value.long x3), .second, .val (Value.int x4), .val (Value.int x5), .val (Value.int c0), .val (Value.int c1), .val (Value.int c2), .val (Value.long o2), .second, .val (Value.int z2), .val (Value.long t2), .second, .val (Value.ref b1), .val (Value.ref b5), .unset, .unset] []))
    refine own_iload X7 hx hby at_114 rfl ?_
    show own_G p e below s _ _ _ (T7.setTop (mkF m 116 #[.val (Value.long x0), .second, .val (Value.int x1), .val (Value.long x2), .second, .val (Value.long x3), .second, .val (Value.int x4), .val (Value.int x5), .val (Value.int c0), .val (Value.int c1), .val (Value.int c2), .val (Value.long o2), .second, .val (Value.int z2), .val (Value.long t2), .second, .val (Value.ref b1), .val (Value.ref b5), .unset, .unset] [(Value.int x5)]))
    refine own_iconst X7 hx hby at_116 ?_
    show own_G p e below s _ _ _ (T7.setTop (mkF m 117 #[.val (Value.long x0), .second, .val (Value.int x1), .val (Value.long x2), .second, .val (Value.long x3), .second, .val (Value.int x4), .val (Value.int x5), .val (Value.int c0), .val (Value.int c1), .val (Value.int c2), .val (Value.long o2), .second, .val (Value.int z2), .val (Value.long t2), .second, .val (Value.ref b1), .val (Value.ref b5), .unset, .unset] [(Value.int (3 : Int32)), (Value.int x5)]))
    refine own_iushr X7 hx hby at_117 ?_
    show own_G p e below s _ _ _ (T7.setTop (mkF m 118 #[.val (Value.long x0), .second, .val (Value.int x1), .val (Value.long x2), .second, .val (Value.long x3), .second, .val (Value.int x4), .val (Value.int x5), .val (Value.int c0), .val (Value.int c1), .val (Value.int c2), .val (Value.long o2), .second, .val (Value.int z2), .val (Value.long t2), .second, .val (Value.ref b1), .val (Value.ref b5), .unset, .unset] [(Value.int ((x5.toUInt32 >>> ((3 : Int32) &&& 31).toUInt32).toInt32))]))
    refine own_iconst X7 hx hby at_118 ?_
    show own_G p e below s _ _ _ (T7.setTop (mkF m 119 #[.val (Value.long x0), .second, .val (Value.int x1), .val (Value.long x2), .second, .val (Value.long x3), .second, .val (Value.int x4), .val (Value.int x5), .val (Value.int c0), .val (Value.int c1), .val (Value.int c2), .val (Value.long o2), .second, .val (Value.int z2), .val (Value.long t2), .second, .val (Value.ref b1), .val (Value.ref b5), .unset, .unset] [(Value.int (3 : Int32)), (Value.int ((x5.toUInt32 >>> ((3 : Int32) &&& 31).toUInt32).toInt32))]))
    refine own_iand X7 hx hby at_119 ?_
    show own_G p e below s _ _ _ (T7.setTop (mkF m 120 #[.val (Value.long x0), .second, .val (Value.int x1), .val (Value.long x2), .second, .val (Value.long x3), .second, .val (Value.int x4), .val (Value.int x5), .val (Value.int c0), .val (Value.int c1), .val (Value.int c2), .val (Value.long o2), .second, .val (Value.int z2), .val (Value.long t2), .second, .val (Value.ref b1), .val (Value.ref b5), .unset, .unset] [(Value.int (((x5.toUInt32 >>> ((3 : Int32) &&& 31).toUInt32).toInt32) &&& (3 : Int32)))]))
    refine own_istore X7 hx hby at_120 (l' := #[.val (Value.long x0), .second, .val (Value.int x1), .val (Value.long x2), .second, .val (Value.long x3), .second, .val (Value.int x4), .val (Value.int x5), .val (Value.int c0), .val (Value.int c1), .val (Value.int c2), .val (Value.long o2), .second, .val (Value.int z2), .val (Value.long t2), .second, .val (Value.ref b1), .val (Value.ref b5), .val (Value.int (((x5.toUInt32 >>> ((3 : Int32) &&& 31).toUInt32).toInt32) &&& (3 : Int32))), .unset]) rfl ?_
    show own_G p e below s _ _ _ (T7.setTop (mkF m 122 #[.val (Value.long x0), .second, .val (Value.int x1), .val (Value.long x2), .second, .val (Value.long x3), .second, .val (Value.int x4), .val (Value.int x5), .val (Value.int c0), .val (Value.int c1), .val (Value.int c2), .val (Value.long o2), .second, .val (Value.int z2), .val (Value.long t2), .second, .val (Value.ref b1), .val (Value.ref b5), .val (Value.int (((x5.toUInt32 >>> ((3 : Int32) &&& 31).toUInt32).toInt32) &&& (3 : Int32))), .unset] []))
    refine own_iload X7 hx hby at_122 rfl ?_
    show own_G p e below s _ _ _ (T7.setTop (mkF m 124 #[.val (Value.long x0), .second, .val (Value.int x1), .val (Value.long x2), .second, .val (Value.long x3), .second, .val (Value.int x4), .val (Value.int x5), .val (Value.int c0), .val (Value.int c1), .val (Value.int c2), .val (Value.long o2), .second, .val (Value.int z2), .val (Value.long t2), .second, .val (Value.ref b1), .val (Value.ref b5), .val (Value.int (((x5.toUInt32 >>> ((3 : Int32) &&& 31).toUInt32).toInt32) &&& (3 : Int32))), .unset] [(Value.int (((x5.toUInt32 >>> ((3 : Int32) &&& 31).toUInt32).toInt32) &&& (3 : Int32)))]))
    refine own_iconst X7 hx hby at_124 ?_
    show own_G p e below s _ _ _ (T7.setTop (mkF m 125 #[.val (Value.long x0), .second, .val (Value.int x1), .val (Value.long x2), .second, .val (Value.long x3), .second, .val (Value.int x4), .val (Value.int x5), .val (Value.int c0), .val (Value.int c1), .val (Value.int c2), .val (Value.long o2), .second, .val (Value.int z2), .val (Value.long t2), .second, .val (Value.ref b1), .val (Value.ref b5), .val (Value.int (((x5.toUInt32 >>> ((3 : Int32) &&& 31).toUInt32).toInt32) &&& (3 : Int32))), .unset] [(Value.int (1 : Int32)), (Value.int (((x5.toUInt32 >>> ((3 : Int32) &&& 31).toUInt32).toInt32) &&& (3 : Int32)))]))
    refine own_icmp_ne X7 hx hby at_125 (pc' := 143) (by decide) (by decide) (fun hb9 => ?_) (fun hb9 => ?_)
    · show own_G p e below s _ _ _ (T7.setTop (mkF m 143 #[.val (Value.long x0), .second, .val (Value.int x1), .val (Value.long x2), .second, .val (Value.long x3), .second, .val (Value.int x4), .val (Value.int x5), .val (Value.int c0), .val (Value.int c1), .val (Value.int c2), .val (Value.long o2), .second, .val (Value.int z2), .val (Value.long t2), .second, .val (Value.ref b1), .val (Value.ref b5), .val (Value.int (((x5.toUInt32 >>> ((3 : Int32) &&& 31).toUInt32).toInt32) &&& (3 : Int32))), .unset] []))
      refine own_iload X7 hx hby at_143 rfl ?_
      show own_G p e below s _ _ _ (T7.setTop (mkF m 145 #[.val (Value.long x0), .second, .val (Value.int x1), .val (Value.long x2), .second, .val (Value.long x3), .second, .val (Value.int x4), .val (Value.int x5), .val (Value.int c0), .val (Value.int c1), .val (Value.int c2), .val (Value.long o2), .second, .val (Value.int z2), .val (Value.long t2), .second, .val (Value.ref b1), .val (Value.ref b5), .val (Value.int (((x5.toUInt32 >>> ((3 : Int32) &&& 31).toUInt32).toInt32) &&& (3 : Int32))), .unset] [(Value.int (((x5.toUInt32 >>> ((3 : Int32) &&& 31).toUInt32).toInt32) &&& (3 : Int32)))]))
      refine own_iconst X7 hx hby at_145 ?_
      show own_G p e below s _ _ _ (T7.setTop (mkF m 146 #[.val (Value.long x0), .second, .val (Value.int x1), .val (Value.long x2), .second, .val (Value.long x3), .second, .val (Value.int x4), .val (Value.int x5), .val (Value.int c0), .val (Value.int c1), .val (Value.int c2), .val (Value.long o2), .second, .val (Value.int z2), .val (Value.long t2), .second, .val (Value.ref b1), .val (Value.ref b5), .val (Value.int (((x5.toUInt32 >>> ((3 : Int32) &&& 31).toUInt32).toInt32) &&& (3 : Int32))), .unset] [(Value.int (2 : Int32)), (Value.int (((x5.toUInt32 >>> ((3 : Int32) &&& 31).toUInt32).toInt32) &&& (3 : Int32)))]))
      refine own_icmp_ne X7 hx hby at_146 (pc' := 167) (by decide) (by decide) (fun hb10 => ?_) (fun hb10 => ?_)
      · show own_G p e below s _ _ _ (T7.setTop (mkF m 167 #[.val (Value.long x0), .second, .val (Value.int x1), .val (Value.long x2), .second, .val (Value.long x3), .second, .val (Value.int x4), .val (Value.int x5), .val (Value.int c0), .val (Value.int c1), .val (Value.int c2), .val (Value.long o2), .second, .val (Value.int z2), .val (Value.long t2), .second, .val (Value.ref b1), .val (Value.ref b5), .val (Value.int (((x5.toUInt32 >>> ((3 : Int32) &&& 31).toUInt32).toInt32) &&& (3 : Int32))), .unset] []))
        refine own_iload X7 hx hby at_167 rfl ?_
        show own_G p e below s _ _ _ (T7.setTop (mkF m 169 #[.val (Value.long x0), .second, .val (Value.int x1), .val (Value.long x2), .second, .val (Value.long x3), .second, .val (Value.int x4), .val (Value.int x5), .val (Value.int c0), .val (Value.int c1), .val (Value.int c2), .val (Value.long o2), .second, .val (Value.int z2), .val (Value.long t2), .second, .val (Value.ref b1), .val (Value.ref b5), .val (Value.int (((x5.toUInt32 >>> ((3 : Int32) &&& 31).toUInt32).toInt32) &&& (3 : Int32))), .unset] [(Value.int (((x5.toUInt32 >>> ((3 : Int32) &&& 31).toUInt32).toInt32) &&& (3 : Int32)))]))
        refine own_iconst X7 hx hby at_169 ?_
        show own_G p e below s _ _ _ (T7.setTop (mkF m 170 #[.val (Value.long x0), .second, .val (Value.int x1), .val (Value.long x2), .second, .val (Value.long x3), .second, .val (Value.int x4), .val (Value.int x5), .val (Value.int c0), .val (Value.int c1), .val (Value.int c2), .val (Value.long o2), .second, .val (Value.int z2), .val (Value.long t2), .second, .val (Value.ref b1), .val (Value.ref b5), .val (Value.int (((x5.toUInt32 >>> ((3 : Int32) &&& 31).toUInt32).toInt32) &&& (3 : Int32))), .unset] [(Value.int (3 : Int32)), (Value.int (((x5.toUInt32 >>> ((3 : Int32) &&& 31).toUInt32).toInt32) &&& (3 : Int32)))]))
        refine own_icmp_ne X7 hx hby at_170 (pc' := 181) (by decide) (by decide) (fun hb11 => ?_) (fun hb11 => ?_)
        · show own_G p e below s _ _ _ (T7.setTop (mkF m 181 #[.val (Value.long x0), .second, .val (Value.int x1), .val (Value.long x2), .second, .val (Value.long x3), .second, .val (Value.int x4), .val (Value.int x5), .val (Value.int c0), .val (Value.int c1), .val (Value.int c2), .val (Value.long o2), .second, .val (Value.int z2), .val (Value.long t2), .second, .val (Value.ref b1), .val (Value.ref b5), .val (Value.int (((x5.toUInt32 >>> ((3 : Int32) &&& 31).toUInt32).toInt32) &&& (3 : Int32))), .unset] []))
          refine own_lloadN X7 hx hby at_181 rfl ?_
          show own_G p e below s _ _ _ (T7.setTop (mkF m 182 #[.val (Value.long x0), .second, .val (Value.int x1), .val (Value.long x2), .second, .val (Value.long x3), .second, .val (Value.int x4), .val (Value.int x5), .val (Value.int c0), .val (Value.int c1), .val (Value.int c2), .val (Value.long o2), .second, .val (Value.int z2), .val (Value.long t2), .second, .val (Value.ref b1), .val (Value.ref b5), .val (Value.int (((x5.toUInt32 >>> ((3 : Int32) &&& 31).toUInt32).toInt32) &&& (3 : Int32))), .unset] [(Value.long x0)]))
          refine own_lload X7 hx hby at_182 rfl ?_
          show own_G p e below s _ _ _ (T7.setTop (mkF m 184 #[.val (Value.long x0), .second, .val (Value.int x1), .val (Value.long x2), .second, .val (Value.long x3), .second, .val (Value.int x4), .val (Value.int x5), .val (Value.int c0), .val (Value.int c1), .val (Value.int c2), .val (Value.long o2), .second, .val (Value.int z2), .val (Value.long t2), .second, .val (Value.ref b1), .val (Value.ref b5), .val (Value.int (((x5.toUInt32 >>> ((3 : Int32) &&& 31).toUInt32).toInt32) &&& (3 : Int32))), .unset] [(Value.long o2), (Value.long x0)]))
          refine own_lcmp_ne X7 hx hby at_184 at_185 (pc' := 205) (by decide) (by decide) (fun hb12 => ?_) (fun hb12 => ?_)
          · show own_G p e below s _ _ _ (T7.setTop (mkF m 205 #[.val (Value.long x0), .second, .val (Value.int x1), .val (Value.long x2), .second, .val (Value.long x3), .second, .val (Value.int x4), .val (Value.int x5), .val (Value.int c0), .val (Value.int c1), .val (Value.int c2), .val (Value.long o2), .second, .val (Value.int z2), .val (Value.long t2), .second, .val (Value.ref b1), .val (Value.ref b5), .val (Value.int (((x5.toUInt32 >>> ((3 : Int32) &&& 31).toUInt32).toInt32) &&& (3 : Int32))), .unset] []))
            refine own_iconst X7 hx hby at_205 ?_
            show own_G p e below s _ _ _ (T7.setTop (mkF m 206 #[.val (Value.long x0), .second, .val (Value.int x1), .val (Value.long x2), .second, .val (Value.long x3), .second, .val (Value.int x4), .val (Value.int x5), .val (Value.int c0), .val (Value.int c1), .val (Value.int c2), .val (Value.long o2), .second, .val (Value.int z2), .val (Value.long t2), .second, .val (Value.ref b1), .val (Value.ref b5), .val (Value.int (((x5.toUInt32 >>> ((3 : Int32) &&& 31).toUInt32).toInt32) &&& (3 : Int32))), .unset] [(Value.int (0 : Int32))]))
            refine own_istore X7 hx hby at_206 (l' := #[.val (Value.long x0), .second, .val (Value.int x1), .val (Value.long x2), .second, .val (Value.long x3), .second, .val (Value.int x4), .val (Value.int x5), .val (Value.int c0), .val (Value.int c1), .val (Value.int c2), .val (Value.long o2), .second, .val (Value.int z2), .val (Value.long t2), .second, .val (Value.ref b1), .val (Value.ref b5), .val (Value.int (((x5.toUInt32 >>> ((3 : Int32) &&& 31).toUInt32).toInt32) &&& (3 : Int32))), .val (Value.int (0 : Int32))]) rfl ?_
            show own_G p e below s _ _ _ (T7.setTop (mkF m 208 #[.val (Value.long x0), .second, .val (Value.int x1), .val (Value.long x2), .second, .val (Value.long x3), .second, .val (Value.int x4), .val (Value.int x5), .val (Value.int c0), .val (Value.int c1), .val (Value.int c2), .val (Value.long o2), .second, .val (Value.int z2), .val (Value.long t2), .second, .val (Value.ref b1), .val (Value.ref b5), .val (Value.int (((x5.toUInt32 >>> ((3 : Int32) &&& 31).toUInt32).toInt32) &&& (3 : Int32))), .val (Value.int (0 : Int32))] []))
            refine own_aload X7 hx hby at_208 rfl rfl ?_
            show own_G p e below s _ _ _ (T7.setTop (mkF m 210 #[.val (Value.long x0), .second, .val (Value.int x1), .val (Value.long x2), .second, .val (Value.long x3), .second, .val (Value.int x4), .val (Value.int x5), .val (Value.int c0), .val (Value.int c1), .val (Value.int c2), .val (Value.long o2), .second, .val (Value.int z2), .val (Value.long t2), .second, .val (Value.ref b1), .val (Value.ref b5), .val (Value.int (((x5.toUInt32 >>> ((3 : Int32) &&& 31).toUInt32).toInt32) &&& (3 : Int32))), .val (Value.int (0 : Int32))] [(Value.ref b1)]))
            refine own_aload X7 hx hby at_210 rfl rfl ?_
            show own_G p e below s _ _ _ (T7.setTop (mkF m 212 #[.val (Value.long x0), .second, .val (Value.int x1), .val (Value.long x2), .second, .val (Value.long x3), .second, .val (Value.int x4), .val (Value.int x5), .val (Value.int c0), .val (Value.int c1), .val (Value.int c2), .val (Value.long o2), .second, .val (Value.int z2), .val (Value.long t2), .second, .val (Value.ref b1), .val (Value.ref b5), .val (Value.int (((x5.toUInt32 >>> ((3 : Int32) &&& 31).toUInt32).toInt32) &&& (3 : Int32))), .val (Value.int (0 : Int32))] [(Value.ref b5), (Value.ref b1)]))
            obtain ⟨cq13, kq13, q13a, q13b, q13c⟩ := isOf (T := T7) hZ rfl E8_b1
            obtain ⟨_, _, ⟨T13, L13, k13, n13⟩, -, X13, ⟨Lc13, hQ13, l13, y13, z13⟩, st13⟩ := X7.virtualBack hx (y := (⟨"com/example/iron_log/ironlog/consumequeue/QueueEntry", "equals", "(Ljava/lang/Object;)Z"⟩ : MethodName)) (z := (⟨"com/example/iron_log/ironlog/consumequeue/QueueEntry", "equals", "(Ljava/lang/Object;)Z"⟩ : MethodName)) hown (mvT hZ (own_w15 hw)) (mvT hZ (own_w16 hw)) (notFace_of_selects (args := #[]) (mvT hZ (own_w18 hw))) (mvT hZ (own_w18 hw)) (mvT hZ (own_w17 hw)) (by decide) (backOf (W := 0) (own_rmE l Z a0 hw [] b1 b5 x0 x1 x2 o2 z2 t2 T7.heap n0 O8  F8_b1_commitLogOffset F8_b1_recordSize F8_b1_tagsCode Eq7 Fq7_commitLogOffset Fq7_recordSize Fq7_tagsCode) hZ (own_w19 hw) (own_w2 hw) (by decide) (by decide)) q13a q13c (g := (mkF m 212 #[.val (Value.long x0), .second, .val (Value.int x1), .val (Value.long x2), .second, .val (Value.long x3), .second, .val (Value.int x4), .val (Value.int x5), .val (Value.int c0), .val (Value.int c1), .val (Value.int c2), .val (Value.long o2), .second, .val (Value.int z2), .val (Value.long t2), .second, .val (Value.ref b1), .val (Value.ref b5), .val (Value.int (((x5.toUInt32 >>> ((3 : Int32) &&& 31).toUInt32).toInt32) &&& (3 : Int32))), .val (Value.int (0 : Int32))] [(Value.ref b5), (Value.ref b1)])) rfl (by rw [hml]; rfl) (Steps.refl _) (argsL := [(Value.ref b5)]) (rest := []) (lenOf own_pd3 rfl) rfl (by show 2 * 0 + _ ≤ _; exact Nat.le_of_eq rfl) (hb hby at_212) (fun _ _ => ⟨rfl, rfl, (by decide : (2 : Nat) + 0 ≤ _), (by decide : (6 : Nat) + 0 ≤ _)⟩)
            dsimp only [Pt.U, Pt.locs, Pt.cells, Pt.slots] at X13 l13 y13 z13 st13 hQ13
            subst l13 y13 z13
            obtain ⟨rfl, e13, Nq13⟩ := hQ13
            have N13 := Fr.app N7 Nq13
            refine own_tr st13 ?_
            show own_G p e below s _ _ _ (T13.setTop (mkF m 215 #[.val (Value.long x0), .second, .val (Value.int x1), .val (Value.long x2), .second, .val (Value.long x3), .second, .val (Value.int x4), .val (Value.int x5), .val (Value.int c0), .val (Value.int c1), .val (Value.int c2), .val (Value.long o2), .second, .val (Value.int z2), .val (Value.long t2), .second, .val (Value.ref b1), .val (Value.ref b5), .val (Value.int (((x5.toUInt32 >>> ((3 : Int32) &&& 31).toUInt32).toInt32) &&& (3 : Int32))), .val (Value.int (0 : Int32))] [(Value.int (own_eq x0 x1 x2 o2 z2 t2))]))
            refine own_iload X13 hx hby at_215 rfl ?_
            show own_G p e below s _ _ _ (T13.setTop (mkF m 217 #[.val (Value.long x0), .second, .val (Value.int x1), .val (Value.long x2), .second, .val (Value.long x3), .second, .val (Value.int x4), .val (Value.int x5), .val (Value.int c0), .val (Value.int c1), .val (Value.int c2), .val (Value.long o2), .second, .val (Value.int z2), .val (Value.long t2), .second, .val (Value.ref b1), .val (Value.ref b5), .val (Value.int (((x5.toUInt32 >>> ((3 : Int32) &&& 31).toUInt32).toInt32) &&& (3 : Int32))), .val (Value.int (0 : Int32))] [(Value.int (0 : Int32)), (Value.int (own_eq x0 x1 x2 o2 z2 t2))]))
            refine own_icmp_ne X13 hx hby at_217 (pc' := 236) (by decide) (by decide) (fun hb14 => by exfalso; exact hb14 (by simp [own_eq, hb12, own_nes hb12])) (fun hb14 => ?_)
            show own_G p e below s _ _ _ (T13.setTop (mkF m 220 #[.val (Value.long x0), .second, .val (Value.int x1), .val (Value.long x2), .second, .val (Value.long x3), .second, .val (Value.int x4), .val (Value.int x5), .val (Value.int c0), .val (Value.int c1), .val (Value.int c2), .val (Value.long o2), .second, .val (Value.int z2), .val (Value.long t2), .second, .val (Value.ref b1), .val (Value.ref b5), .val (Value.int (((x5.toUInt32 >>> ((3 : Int32) &&& 31).toUInt32).toInt32) &&& (3 : Int32))), .val (Value.int (0 : Int32))] []))
            refine own_aload X13 hx hby at_220 rfl rfl ?_
            show own_G p e below s _ _ _ (T13.setTop (mkF m 222 #[.val (Value.long x0), .second, .val (Value.int x1), .val (Value.long x2), .second, .val (Value.long x3), .second, .val (Value.int x4), .val (Value.int x5), .val (Value.int c0), .val (Value.int c1), .val (Value.int c2), .val (Value.long o2), .second, .val (Value.int z2), .val (Value.long t2), .second, .val (Value.ref b1), .val (Value.ref b5), .val (Value.int (((x5.toUInt32 >>> ((3 : Int32) &&& 31).toUInt32).toInt32) &&& (3 : Int32))), .val (Value.int (0 : Int32))] [(Value.ref b5)]))
            refine own_aload X13 hx hby at_222 rfl rfl ?_
            show own_G p e below s _ _ _ (T13.setTop (mkF m 224 #[.val (Value.long x0), .second, .val (Value.int x1), .val (Value.long x2), .second, .val (Value.long x3), .second, .val (Value.int x4), .val (Value.int x5), .val (Value.int c0), .val (Value.int c1), .val (Value.int c2), .val (Value.long o2), .second, .val (Value.int z2), .val (Value.long t2), .second, .val (Value.ref b1), .val (Value.ref b5), .val (Value.int (((x5.toUInt32 >>> ((3 : Int32) &&& 31).toUInt32).toInt32) &&& (3 : Int32))), .val (Value.int (0 : Int32))] [(Value.ref b1), (Value.ref b5)]))
            obtain ⟨cq15, kq15, q15a, q15b, q15c⟩ := isOf (T := T13) hZ e13 Eq7
            obtain ⟨_, _, ⟨T15, L15, k15, n15⟩, -, X15, ⟨Lc15, hQ15, l15, y15, z15⟩, st15⟩ := X13.virtualBack hx (y := (⟨"com/example/iron_log/ironlog/consumequeue/QueueEntry", "equals", "(Ljava/lang/Object;)Z"⟩ : MethodName)) (z := (⟨"com/example/iron_log/ironlog/consumequeue/QueueEntry", "equals", "(Ljava/lang/Object;)Z"⟩ : MethodName)) hown (mvT hZ (own_w15 hw)) (mvT hZ (own_w16 hw)) (notFace_of_selects (args := #[]) (mvT hZ (own_w18 hw))) (mvT hZ (own_w18 hw)) (mvT hZ (own_w17 hw)) (by decide) (backOf (W := 0) (own_rmE l Z a0 hw [] b5 b1 o2 z2 t2 x0 x1 x2 T7.heap n0 O8  Fq7_commitLogOffset Fq7_recordSize Fq7_tagsCode E8_b1 F8_b1_commitLogOffset F8_b1_recordSize F8_b1_tagsCode) hZ (own_w19 hw) (own_w2 hw) (by decide) (by decide)) q15a q15c (g := (mkF m 224 #[.val (Value.long x0), .second, .val (Value.int x1), .val (Value.long x2), .second, .val (Value.long x3), .second, .val (Value.int x4), .val (Value.int x5), .val (Value.int c0), .val (Value.int c1), .val (Value.int c2), .val (Value.long o2), .second, .val (Value.int z2), .val (Value.long t2), .second, .val (Value.ref b1), .val (Value.ref b5), .val (Value.int (((x5.toUInt32 >>> ((3 : Int32) &&& 31).toUInt32).toInt32) &&& (3 : Int32))), .val (Value.int (0 : Int32))] [(Value.ref b1), (Value.ref b5)])) rfl (by rw [hml]; rfl) (Steps.refl _) (argsL := [(Value.ref b1)]) (rest := []) (lenOf own_pd3 rfl) rfl (by show 2 * 0 + _ ≤ _; exact Nat.le_of_eq rfl) (hb hby at_224) (fun _ _ => ⟨rfl, e13, (by decide : (2 : Nat) + 0 ≤ _), (by decide : (6 : Nat) + 0 ≤ _)⟩)
            dsimp only [Pt.U, Pt.locs, Pt.cells, Pt.slots] at X15 l15 y15 z15 st15 hQ15
            subst l15 y15 z15
            obtain ⟨rfl, e15, Nq15⟩ := hQ15
            have N15 := Fr.app N13 Nq15
            refine own_tr st15 ?_
            show own_G p e below s _ _ _ (T15.setTop (mkF m 227 #[.val (Value.long x0), .second, .val (Value.int x1), .val (Value.long x2), .second, .val (Value.long x3), .second, .val (Value.int x4), .val (Value.int x5), .val (Value.int c0), .val (Value.int c1), .val (Value.int c2), .val (Value.long o2), .second, .val (Value.int z2), .val (Value.long t2), .second, .val (Value.ref b1), .val (Value.ref b5), .val (Value.int (((x5.toUInt32 >>> ((3 : Int32) &&& 31).toUInt32).toInt32) &&& (3 : Int32))), .val (Value.int (0 : Int32))] [(Value.int (own_eq o2 z2 t2 x0 x1 x2))]))
            refine own_iload X15 hx hby at_227 rfl ?_
            show own_G p e below s _ _ _ (T15.setTop (mkF m 229 #[.val (Value.long x0), .second, .val (Value.int x1), .val (Value.long x2), .second, .val (Value.long x3), .second, .val (Value.int x4), .val (Value.int x5), .val (Value.int c0), .val (Value.int c1), .val (Value.int c2), .val (Value.long o2), .second, .val (Value.int z2), .val (Value.long t2), .second, .val (Value.ref b1), .val (Value.ref b5), .val (Value.int (((x5.toUInt32 >>> ((3 : Int32) &&& 31).toUInt32).toInt32) &&& (3 : Int32))), .val (Value.int (0 : Int32))] [(Value.int (0 : Int32)), (Value.int (own_eq o2 z2 t2 x0 x1 x2))]))
            refine own_icmp_ne X15 hx hby at_229 (pc' := 236) (by decide) (by decide) (fun hb16 => by exfalso; exact hb16 (by simp [own_eq, hb12, own_nes hb12])) (fun hb16 => ?_)
            show own_G p e below s _ _ _ (T15.setTop (mkF m 232 #[.val (Value.long x0), .second, .val (Value.int x1), .val (Value.long x2), .second, .val (Value.long x3), .second, .val (Value.int x4), .val (Value.int x5), .val (Value.int c0), .val (Value.int c1), .val (Value.int c2), .val (Value.long o2), .second, .val (Value.int z2), .val (Value.long t2), .second, .val (Value.ref b1), .val (Value.ref b5), .val (Value.int (((x5.toUInt32 >>> ((3 : Int32) &&& 31).toUInt32).toInt32) &&& (3 : Int32))), .val (Value.int (0 : Int32))] []))
            refine own_iconst X15 hx hby at_232 ?_
            show own_G p e below s _ _ _ (T15.setTop (mkF m 233 #[.val (Value.long x0), .second, .val (Value.int x1), .val (Value.long x2), .second, .val (Value.long x3), .second, .val (Value.int x4), .val (Value.int x5), .val (Value.int c0), .val (Value.int c1), .val (Value.int c2), .val (Value.long o2), .second, .val (Value.int z2), .val (Value.long t2), .second, .val (Value.ref b1), .val (Value.ref b5), .val (Value.int (((x5.toUInt32 >>> ((3 : Int32) &&& 31).toUInt32).toInt32) &&& (3 : Int32))), .val (Value.int (0 : Int32))] [(Value.int (1 : Int32))]))
            refine own_goto X15 hx hby at_233 (pc' := 237) (by decide) (by decide) ?_
            show own_G p e below s _ _ _ (T15.setTop (mkF m 237 #[.val (Value.long x0), .second, .val (Value.int x1), .val (Value.long x2), .second, .val (Value.long x3), .second, .val (Value.int x4), .val (Value.int x5), .val (Value.int c0), .val (Value.int c1), .val (Value.int c2), .val (Value.long o2), .second, .val (Value.int z2), .val (Value.long t2), .second, .val (Value.ref b1), .val (Value.ref b5), .val (Value.int (((x5.toUInt32 >>> ((3 : Int32) &&& 31).toUInt32).toInt32) &&& (3 : Int32))), .val (Value.int (0 : Int32))] [(Value.int (1 : Int32))]))
            refine own_retN X15 hx hby hlk (t := .boolean) Bd.returns (by simp) at_237 (by decide) (by decide) ?_
            exact ⟨rfl, N15⟩
          · show own_G p e below s _ _ _ (T7.setTop (mkF m 188 #[.val (Value.long x0), .second, .val (Value.int x1), .val (Value.long x2), .second, .val (Value.long x3), .second, .val (Value.int x4), .val (Value.int x5), .val (Value.int c0), .val (Value.int c1), .val (Value.int c2), .val (Value.long o2), .second, .val (Value.int z2), .val (Value.long t2), .second, .val (Value.ref b1), .val (Value.ref b5), .val (Value.int (((x5.toUInt32 >>> ((3 : Int32) &&& 31).toUInt32).toInt32) &&& (3 : Int32))), .unset] []))
            refine own_iloadN X7 hx hby at_188 rfl ?_
            show own_G p e below s _ _ _ (T7.setTop (mkF m 189 #[.val (Value.long x0), .second, .val (Value.int x1), .val (Value.long x2), .second, .val (Value.long x3), .second, .val (Value.int x4), .val (Value.int x5), .val (Value.int c0), .val (Value.int c1), .val (Value.int c2), .val (Value.long o2), .second, .val (Value.int z2), .val (Value.long t2), .second, .val (Value.ref b1), .val (Value.ref b5), .val (Value.int (((x5.toUInt32 >>> ((3 : Int32) &&& 31).toUInt32).toInt32) &&& (3 : Int32))), .unset] [(Value.int x1)]))
            refine own_iload X7 hx hby at_189 rfl ?_
            show own_G p e below s _ _ _ (T7.setTop (mkF m 191 #[.val (Value.long x0), .second, .val (Value.int x1), .val (Value.long x2), .second, .val (Value.long x3), .second, .val (Value.int x4), .val (Value.int x5), .val (Value.int c0), .val (Value.int c1), .val (Value.int c2), .val (Value.long o2), .second, .val (Value.int z2), .val (Value.long t2), .second, .val (Value.ref b1), .val (Value.ref b5), .val (Value.int (((x5.toUInt32 >>> ((3 : Int32) &&& 31).toUInt32).toInt32) &&& (3 : Int32))), .unset] [(Value.int z2), (Value.int x1)]))
            refine own_icmp_ne X7 hx hby at_191 (pc' := 205) (by decide) (by decide) (fun hb17 => ?_) (fun hb17 => ?_)
            · show own_G p e below s _ _ _ (T7.setTop (mkF m 205 #[.val (Value.long x0), .second, .val (Value.int x1), .val (Value.long x2), .second, .val (Value.long x3), .second, .val (Value.int x4), .val (Value.int x5), .val (Value.int c0), .val (Value.int c1), .val (Value.int c2), .val (Value.long o2), .second, .val (Value.int z2), .val (Value.long t2), .second, .val (Value.ref b1), .val (Value.ref b5), .val (Value.int (((x5.toUInt32 >>> ((3 : Int32) &&& 31).toUInt32).toInt32) &&& (3 : Int32))), .unset] []))
              refine own_iconst X7 hx hby at_205 ?_
              show own_G p e below s _ _ _ (T7.setTop (mkF m 206 #[.val (Value.long x0), .second, .val (Value.int x1), .val (Value.long x2), .second, .val (Value.long x3), .second, .val (Value.int x4), .val (Value.int x5), .val (Value.int c0), .val (Value.int c1), .val (Value.int c2), .val (Value.long o2), .second, .val (Value.int z2), .val (Value.long t2), .second, .val (Value.ref b1), .val (Value.ref b5), .val (Value.int (((x5.toUInt32 >>> ((3 : Int32) &&& 31).toUInt32).toInt32) &&& (3 : Int32))), .unset] [(Value.int (0 : Int32))]))
              refine own_istore X7 hx hby at_206 (l' := #[.val (Value.long x0), .second, .val (Value.int x1), .val (Value.long x2), .second, .val (Value.long x3), .second, .val (Value.int x4), .val (Value.int x5), .val (Value.int c0), .val (Value.int c1), .val (Value.int c2), .val (Value.long o2), .second, .val (Value.int z2), .val (Value.long t2), .second, .val (Value.ref b1), .val (Value.ref b5), .val (Value.int (((x5.toUInt32 >>> ((3 : Int32) &&& 31).toUInt32).toInt32) &&& (3 : Int32))), .val (Value.int (0 : Int32))]) rfl ?_
              show own_G p e below s _ _ _ (T7.setTop (mkF m 208 #[.val (Value.long x0), .second, .val (Value.int x1), .val (Value.long x2), .second, .val (Value.long x3), .second, .val (Value.int x4), .val (Value.int x5), .val (Value.int c0), .val (Value.int c1), .val (Value.int c2), .val (Value.long o2), .second, .val (Value.int z2), .val (Value.long t2), .second, .val (Value.ref b1), .val (Value.ref b5), .val (Value.int (((x5.toUInt32 >>> ((3 : Int32) &&& 31).toUInt32).toInt32) &&& (3 : Int32))), .val (Value.int (0 : Int32))] []))
              refine own_aload X7 hx hby at_208 rfl rfl ?_
              show own_G p e below s _ _ _ (T7.setTop (mkF m 210 #[.val (Value.long x0), .second, .val (Value.int x1), .val (Value.long x2), .second, .val (Value.long x3), .second, .val (Value.int x4), .val (Value.int x5), .val (Value.int c0), .val (Value.int c1), .val (Value.int c2), .val (Value.long o2), .second, .val (Value.int z2), .val (Value.long t2), .second, .val (Value.ref b1), .val (Value.ref b5), .val (Value.int (((x5.toUInt32 >>> ((3 : Int32) &&& 31).toUInt32).toInt32) &&& (3 : Int32))), .val (Value.int (0 : Int32))] [(Value.ref b1)]))
              refine own_aload X7 hx hby at_210 rfl rfl ?_
              show own_G p e below s _ _ _ (T7.setTop (mkF m 212 #[.val (Value.long x0), .second, .val (Value.int x1), .val (Value.long x2), .second, .val (Value.long x3), .second, .val (Value.int x4), .val (Value.int x5), .val (Value.int c0), .val (Value.int c1), .val (Value.int c2), .val (Value.long o2), .second, .val (Value.int z2), .val (Value.long t2), .second, .val (Value.ref b1), .val (Value.ref b5), .val (Value.int (((x5.toUInt32 >>> ((3 : Int32) &&& 31).toUInt32).toInt32) &&& (3 : Int32))), .val (Value.int (0 : Int32))] [(Value.ref b5), (Value.ref b1)]))
              obtain ⟨cq18, kq18, q18a, q18b, q18c⟩ := isOf (T := T7) hZ rfl E8_b1
              obtain ⟨_, _, ⟨T18, L18, k18, n18⟩, -, X18, ⟨Lc18, hQ18, l18, y18, z18⟩, st18⟩ := X7.virtualBack hx (y := (⟨"com/example/iron_log/ironlog/consumequeue/QueueEntry", "equals", "(Ljava/lang/Object;)Z"⟩ : MethodName)) (z := (⟨"com/example/iron_log/ironlog/consumequeue/QueueEntry", "equals", "(Ljava/lang/Object;)Z"⟩ : MethodName)) hown (mvT hZ (own_w15 hw)) (mvT hZ (own_w16 hw)) (notFace_of_selects (args := #[]) (mvT hZ (own_w18 hw))) (mvT hZ (own_w18 hw)) (mvT hZ (own_w17 hw)) (by decide) (backOf (W := 0) (own_rmE l Z a0 hw [] b1 b5 x0 x1 x2 o2 z2 t2 T7.heap n0 O8  F8_b1_commitLogOffset F8_b1_recordSize F8_b1_tagsCode Eq7 Fq7_commitLogOffset Fq7_recordSize Fq7_tagsCode) hZ (own_w19 hw) (own_w2 hw) (by decide) (by decide)) q18a q18c (g := (mkF m 212 #[.val (Value.long x0), .second, .val (Value.int x1), .val (Value.long x2), .second, .val (Value.long x3), .second, .val (Value.int x4), .val (Value.int x5), .val (Value.int c0), .val (Value.int c1), .val (Value.int c2), .val (Value.long o2), .second, .val (Value.int z2), .val (Value.long t2), .second, .val (Value.ref b1), .val (Value.ref b5), .val (Value.int (((x5.toUInt32 >>> ((3 : Int32) &&& 31).toUInt32).toInt32) &&& (3 : Int32))), .val (Value.int (0 : Int32))] [(Value.ref b5), (Value.ref b1)])) rfl (by rw [hml]; rfl) (Steps.refl _) (argsL := [(Value.ref b5)]) (rest := []) (lenOf own_pd3 rfl) rfl (by show 2 * 0 + _ ≤ _; exact Nat.le_of_eq rfl) (hb hby at_212) (fun _ _ => ⟨rfl, rfl, (by decide : (2 : Nat) + 0 ≤ _), (by decide : (6 : Nat) + 0 ≤ _)⟩)
              dsimp only [Pt.U, Pt.locs, Pt.cells, Pt.slots] at X18 l18 y18 z18 st18 hQ18
              subst l18 y18 z18
              obtain ⟨rfl, e18, Nq18⟩ := hQ18
              have N18 := Fr.app N7 Nq18
              refine own_tr st18 ?_
              show own_G p e below s _ _ _ (T18.setTop (mkF m 215 #[.val (Value.long x0), .second, .val (Value.int x1), .val (Value.long x2), .second, .val (Value.long x3), .second, .val (Value.int x4), .val (Value.int x5), .val (Value.int c0), .val (Value.int c1), .val (Value.int c2), .val (Value.long o2), .second, .val (Value.int z2), .val (Value.long t2), .second, .val (Value.ref b1), .val (Value.ref b5), .val (Value.int (((x5.toUInt32 >>> ((3 : Int32) &&& 31).toUInt32).toInt32) &&& (3 : Int32))), .val (Value.int (0 : Int32))] [(Value.int (own_eq x0 x1 x2 o2 z2 t2))]))
              refine own_iload X18 hx hby at_215 rfl ?_
              show own_G p e below s _ _ _ (T18.setTop (mkF m 217 #[.val (Value.long x0), .second, .val (Value.int x1), .val (Value.long x2), .second, .val (Value.long x3), .second, .val (Value.int x4), .val (Value.int x5), .val (Value.int c0), .val (Value.int c1), .val (Value.int c2), .val (Value.long o2), .second, .val (Value.int z2), .val (Value.long t2), .second, .val (Value.ref b1), .val (Value.ref b5), .val (Value.int (((x5.toUInt32 >>> ((3 : Int32) &&& 31).toUInt32).toInt32) &&& (3 : Int32))), .val (Value.int (0 : Int32))] [(Value.int (0 : Int32)), (Value.int (own_eq x0 x1 x2 o2 z2 t2))]))
              refine own_icmp_ne X18 hx hby at_217 (pc' := 236) (by decide) (by decide) (fun hb19 => by exfalso; exact hb19 (by simp [own_eq, hb12, hb17, own_nes hb17])) (fun hb19 => ?_)
              show own_G p e below s _ _ _ (T18.setTop (mkF m 220 #[.val (Value.long x0), .second, .val (Value.int x1), .val (Value.long x2), .second, .val (Value.long x3), .second, .val (Value.int x4), .val (Value.int x5), .val (Value.int c0), .val (Value.int c1), .val (Value.int c2), .val (Value.long o2), .second, .val (Value.int z2), .val (Value.long t2), .second, .val (Value.ref b1), .val (Value.ref b5), .val (Value.int (((x5.toUInt32 >>> ((3 : Int32) &&& 31).toUInt32).toInt32) &&& (3 : Int32))), .val (Value.int (0 : Int32))] []))
              refine own_aload X18 hx hby at_220 rfl rfl ?_
              show own_G p e below s _ _ _ (T18.setTop (mkF m 222 #[.val (Value.long x0), .second, .val (Value.int x1), .val (Value.long x2), .second, .val (Value.long x3), .second, .val (Value.int x4), .val (Value.int x5), .val (Value.int c0), .val (Value.int c1), .val (Value.int c2), .val (Value.long o2), .second, .val (Value.int z2), .val (Value.long t2), .second, .val (Value.ref b1), .val (Value.ref b5), .val (Value.int (((x5.toUInt32 >>> ((3 : Int32) &&& 31).toUInt32).toInt32) &&& (3 : Int32))), .val (Value.int (0 : Int32))] [(Value.ref b5)]))
              refine own_aload X18 hx hby at_222 rfl rfl ?_
              show own_G p e below s _ _ _ (T18.setTop (mkF m 224 #[.val (Value.long x0), .second, .val (Value.int x1), .val (Value.long x2), .second, .val (Value.long x3), .second, .val (Value.int x4), .val (Value.int x5), .val (Value.int c0), .val (Value.int c1), .val (Value.int c2), .val (Value.long o2), .second, .val (Value.int z2), .val (Value.long t2), .second, .val (Value.ref b1), .val (Value.ref b5), .val (Value.int (((x5.toUInt32 >>> ((3 : Int32) &&& 31).toUInt32).toInt32) &&& (3 : Int32))), .val (Value.int (0 : Int32))] [(Value.ref b1), (Value.ref b5)]))
              obtain ⟨cq20, kq20, q20a, q20b, q20c⟩ := isOf (T := T18) hZ e18 Eq7
              obtain ⟨_, _, ⟨T20, L20, k20, n20⟩, -, X20, ⟨Lc20, hQ20, l20, y20, z20⟩, st20⟩ := X18.virtualBack hx (y := (⟨"com/example/iron_log/ironlog/consumequeue/QueueEntry", "equals", "(Ljava/lang/Object;)Z"⟩ : MethodName)) (z := (⟨"com/example/iron_log/ironlog/consumequeue/QueueEntry", "equals", "(Ljava/lang/Object;)Z"⟩ : MethodName)) hown (mvT hZ (own_w15 hw)) (mvT hZ (own_w16 hw)) (notFace_of_selects (args := #[]) (mvT hZ (own_w18 hw))) (mvT hZ (own_w18 hw)) (mvT hZ (own_w17 hw)) (by decide) (backOf (W := 0) (own_rmE l Z a0 hw [] b5 b1 o2 z2 t2 x0 x1 x2 T7.heap n0 O8  Fq7_commitLogOffset Fq7_recordSize Fq7_tagsCode E8_b1 F8_b1_commitLogOffset F8_b1_recordSize F8_b1_tagsCode) hZ (own_w19 hw) (own_w2 hw) (by decide) (by decide)) q20a q20c (g := (mkF m 224 #[.val (Value.long x0), .second, .val (Value.int x1), .val (Value.long x2), .second, .val (Value.long x3), .second, .val (Value.int x4), .val (Value.int x5), .val (Value.int c0), .val (Value.int c1), .val (Value.int c2), .val (Value.long o2), .second, .val (Value.int z2), .val (Value.long t2), .second, .val (Value.ref b1), .val (Value.ref b5), .val (Value.int (((x5.toUInt32 >>> ((3 : Int32) &&& 31).toUInt32).toInt32) &&& (3 : Int32))), .val (Value.int (0 : Int32))] [(Value.ref b1), (Value.ref b5)])) rfl (by rw [hml]; rfl) (Steps.refl _) (argsL := [(Value.ref b1)]) (rest := []) (lenOf own_pd3 rfl) rfl (by show 2 * 0 + _ ≤ _; exact Nat.le_of_eq rfl) (hb hby at_224) (fun _ _ => ⟨rfl, e18, (by decide : (2 : Nat) + 0 ≤ _), (by decide : (6 : Nat) + 0 ≤ _)⟩)
              dsimp only [Pt.U, Pt.locs, Pt.cells, Pt.slots] at X20 l20 y20 z20 st20 hQ20
              subst l20 y20 z20
              obtain ⟨rfl, e20, Nq20⟩ := hQ20
              have N20 := Fr.app N18 Nq20
              refine own_tr st20 ?_
              show own_G p e below s _ _ _ (T20.setTop (mkF m 227 #[.val (Value.long x0), .second, .val (Value.int x1), .val (Value.long x2), .second, .val (Value.long x3), .second, .val (Value.int x4), .val (Value.int x5), .val (Value.int c0), .val (Value.int c1), .val (Value.int c2), .val (Value.long o2), .second, .val (Value.int z2), .val (Value.long t2), .second, .val (Value.ref b1), .val (Value.ref b5), .val (Value.int (((x5.toUInt32 >>> ((3 : Int32) &&& 31).toUInt32).toInt32) &&& (3 : Int32))), .val (Value.int (0 : Int32))] [(Value.int (own_eq o2 z2 t2 x0 x1 x2))]))
              refine own_iload X20 hx hby at_227 rfl ?_
              show own_G p e below s _ _ _ (T20.setTop (mkF m 229 #[.val (Value.long x0), .second, .val (Value.int x1), .val (Value.long x2), .second, .val (Value.long x3), .second, .val (Value.int x4), .val (Value.int x5), .val (Value.int c0), .val (Value.int c1), .val (Value.int c2), .val (Value.long o2), .second, .val (Value.int z2), .val (Value.long t2), .second, .val (Value.ref b1), .val (Value.ref b5), .val (Value.int (((x5.toUInt32 >>> ((3 : Int32) &&& 31).toUInt32).toInt32) &&& (3 : Int32))), .val (Value.int (0 : Int32))] [(Value.int (0 : Int32)), (Value.int (own_eq o2 z2 t2 x0 x1 x2))]))
              refine own_icmp_ne X20 hx hby at_229 (pc' := 236) (by decide) (by decide) (fun hb21 => by exfalso; exact hb21 (by simp [own_eq, hb12, hb17, own_nes hb17])) (fun hb21 => ?_)
              show own_G p e below s _ _ _ (T20.setTop (mkF m 232 #[.val (Value.long x0), .second, .val (Value.int x1), .val (Value.long x2), .second, .val (Value.long x3), .second, .val (Value.int x4), .val (Value.int x5), .val (Value.int c0), .val (Value.int c1), .val (Value.int c2), .val (Value.long o2), .second, .val (Value.int z2), .val (Value.long t2), .second, .val (Value.ref b1), .val (Value.ref b5), .val (Value.int (((x5.toUInt32 >>> ((3 : Int32) &&& 31).toUInt32).toInt32) &&& (3 : Int32))), .val (Value.int (0 : Int32))] []))
              refine own_iconst X20 hx hby at_232 ?_
              show own_G p e below s _ _ _ (T20.setTop (mkF m 233 #[.val (Value.long x0), .second, .val (Value.int x1), .val (Value.long x2), .second, .val (Value.long x3), .second, .val (Value.int x4), .val (Value.int x5), .val (Value.int c0), .val (Value.int c1), .val (Value.int c2), .val (Value.long o2), .second, .val (Value.int z2), .val (Value.long t2), .second, .val (Value.ref b1), .val (Value.ref b5), .val (Value.int (((x5.toUInt32 >>> ((3 : Int32) &&& 31).toUInt32).toInt32) &&& (3 : Int32))), .val (Value.int (0 : Int32))] [(Value.int (1 : Int32))]))
              refine own_goto X20 hx hby at_233 (pc' := 237) (by decide) (by decide) ?_
              show own_G p e below s _ _ _ (T20.setTop (mkF m 237 #[.val (Value.long x0), .second, .val (Value.int x1), .val (Value.long x2), .second, .val (Value.long x3), .second, .val (Value.int x4), .val (Value.int x5), .val (Value.int c0), .val (Value.int c1), .val (Value.int c2), .val (Value.long o2), .second, .val (Value.int z2), .val (Value.long t2), .second, .val (Value.ref b1), .val (Value.ref b5), .val (Value.int (((x5.toUInt32 >>> ((3 : Int32) &&& 31).toUInt32).toInt32) &&& (3 : Int32))), .val (Value.int (0 : Int32))] [(Value.int (1 : Int32))]))
              refine own_retN X20 hx hby hlk (t := .boolean) Bd.returns (by simp) at_237 (by decide) (by decide) ?_
              exact ⟨rfl, N20⟩
            · show own_G p e below s _ _ _ (T7.setTop (mkF m 194 #[.val (Value.long x0), .second, .val (Value.int x1), .val (Value.long x2), .second, .val (Value.long x3), .second, .val (Value.int x4), .val (Value.int x5), .val (Value.int c0), .val (Value.int c1), .val (Value.int c2), .val (Value.long o2), .second, .val (Value.int z2), .val (Value.long t2), .second, .val (Value.ref b1), .val (Value.ref b5), .val (Value.int (((x5.toUInt32 >>> ((3 : Int32) &&& 31).toUInt32).toInt32) &&& (3 : Int32))), .unset] []))
              refine own_lloadN X7 hx hby at_194 rfl ?_
              show own_G p e below s _ _ _ (T7.setTop (mkF m 195 #[.val (Value.long x0), .second, .val (Value.int x1), .val (Value.long x2), .second, .val (Value.long x3), .second, .val (Value.int x4), .val (Value.int x5), .val (Value.int c0), .val (Value.int c1), .val (Value.int c2), .val (Value.long o2), .second, .val (Value.int z2), .val (Value.long t2), .second, .val (Value.ref b1), .val (Value.ref b5), .val (Value.int (((x5.toUInt32 >>> ((3 : Int32) &&& 31).toUInt32).toInt32) &&& (3 : Int32))), .unset] [(Value.long x2)]))
              refine own_lload X7 hx hby at_195 rfl ?_
              show own_G p e below s _ _ _ (T7.setTop (mkF m 197 #[.val (Value.long x0), .second, .val (Value.int x1), .val (Value.long x2), .second, .val (Value.long x3), .second, .val (Value.int x4), .val (Value.int x5), .val (Value.int c0), .val (Value.int c1), .val (Value.int c2), .val (Value.long o2), .second, .val (Value.int z2), .val (Value.long t2), .second, .val (Value.ref b1), .val (Value.ref b5), .val (Value.int (((x5.toUInt32 >>> ((3 : Int32) &&& 31).toUInt32).toInt32) &&& (3 : Int32))), .unset] [(Value.long t2), (Value.long x2)]))
              refine own_lcmp_ne X7 hx hby at_197 at_198 (pc' := 205) (by decide) (by decide) (fun hb22 => ?_) (fun hb22 => ?_)
              · show own_G p e below s _ _ _ (T7.setTop (mkF m 205 #[.val (Value.long x0), .second, .val (Value.int x1), .val (Value.long x2), .second, .val (Value.long x3), .second, .val (Value.int x4), .val (Value.int x5), .val (Value.int c0), .val (Value.int c1), .val (Value.int c2), .val (Value.long o2), .second, .val (Value.int z2), .val (Value.long t2), .second, .val (Value.ref b1), .val (Value.ref b5), .val (Value.int (((x5.toUInt32 >>> ((3 : Int32) &&& 31).toUInt32).toInt32) &&& (3 : Int32))), .unset] []))
                refine own_iconst X7 hx hby at_205 ?_
                show own_G p e below s _ _ _ (T7.setTop (mkF m 206 #[.val (Value.long x0), .second, .val (Value.int x1), .val (Value.long x2), .second, .val (Value.long x3), .second, .val (Value.int x4), .val (Value.int x5), .val (Value.int c0), .val (Value.int c1), .val (Value.int c2), .val (Value.long o2), .second, .val (Value.int z2), .val (Value.long t2), .second, .val (Value.ref b1), .val (Value.ref b5), .val (Value.int (((x5.toUInt32 >>> ((3 : Int32) &&& 31).toUInt32).toInt32) &&& (3 : Int32))), .unset] [(Value.int (0 : Int32))]))
                refine own_istore X7 hx hby at_206 (l' := #[.val (Value.long x0), .second, .val (Value.int x1), .val (Value.long x2), .second, .val (Value.long x3), .second, .val (Value.int x4), .val (Value.int x5), .val (Value.int c0), .val (Value.int c1), .val (Value.int c2), .val (Value.long o2), .second, .val (Value.int z2), .val (Value.long t2), .second, .val (Value.ref b1), .val (Value.ref b5), .val (Value.int (((x5.toUInt32 >>> ((3 : Int32) &&& 31).toUInt32).toInt32) &&& (3 : Int32))), .val (Value.int (0 : Int32))]) rfl ?_
                show own_G p e below s _ _ _ (T7.setTop (mkF m 208 #[.val (Value.long x0), .second, .val (Value.int x1), .val (Value.long x2), .second, .val (Value.long x3), .second, .val (Value.int x4), .val (Value.int x5), .val (Value.int c0), .val (Value.int c1), .val (Value.int c2), .val (Value.long o2), .second, .val (Value.int z2), .val (Value.long t2), .second, .val (Value.ref b1), .val (Value.ref b5), .val (Value.int (((x5.toUInt32 >>> ((3 : Int32) &&& 31).toUInt32).toInt32) &&& (3 : Int32))), .val (Value.int (0 : Int32))] []))
                refine own_aload X7 hx hby at_208 rfl rfl ?_
                show own_G p e below s _ _ _ (T7.setTop (mkF m 210 #[.val (Value.long x0), .second, .val (Value.int x1), .val (Value.long x2), .second, .val (Value.long x3), .second, .val (Value.int x4), .val (Value.int x5), .val (Value.int c0), .val (Value.int c1), .val (Value.int c2), .val (Value.long o2), .second, .val (Value.int z2), .val (Value.long t2), .second, .val (Value.ref b1), .val (Value.ref b5), .val (Value.int (((x5.toUInt32 >>> ((3 : Int32) &&& 31).toUInt32).toInt32) &&& (3 : Int32))), .val (Value.int (0 : Int32))] [(Value.ref b1)]))
                refine own_aload X7 hx hby at_210 rfl rfl ?_
                show own_G p e below s _ _ _ (T7.setTop (mkF m 212 #[.val (Value.long x0), .second, .val (Value.int x1), .val (Value.long x2), .second, .val (Value.long x3), .second, .val (Value.int x4), .val (Value.int x5), .val (Value.int c0), .val (Value.int c1), .val (Value.int c2), .val (Value.long o2), .second, .val (Value.int z2), .val (Value.long t2), .second, .val (Value.ref b1), .val (Value.ref b5), .val (Value.int (((x5.toUInt32 >>> ((3 : Int32) &&& 31).toUInt32).toInt32) &&& (3 : Int32))), .val (Value.int (0 : Int32))] [(Value.ref b5), (Value.ref b1)]))
                obtain ⟨cq23, kq23, q23a, q23b, q23c⟩ := isOf (T := T7) hZ rfl E8_b1
                obtain ⟨_, _, ⟨T23, L23, k23, n23⟩, -, X23, ⟨Lc23, hQ23, l23, y23, z23⟩, st23⟩ := X7.virtualBack hx (y := (⟨"com/example/iron_log/ironlog/consumequeue/QueueEntry", "equals", "(Ljava/lang/Object;)Z"⟩ : MethodName)) (z := (⟨"com/example/iron_log/ironlog/consumequeue/QueueEntry", "equals", "(Ljava/lang/Object;)Z"⟩ : MethodName)) hown (mvT hZ (own_w15 hw)) (mvT hZ (own_w16 hw)) (notFace_of_selects (args := #[]) (mvT hZ (own_w18 hw))) (mvT hZ (own_w18 hw)) (mvT hZ (own_w17 hw)) (by decide) (backOf (W := 0) (own_rmE l Z a0 hw [] b1 b5 x0 x1 x2 o2 z2 t2 T7.heap n0 O8  F8_b1_commitLogOffset F8_b1_recordSize F8_b1_tagsCode Eq7 Fq7_commitLogOffset Fq7_recordSize Fq7_tagsCode) hZ (own_w19 hw) (own_w2 hw) (by decide) (by decide)) q23a q23c (g := (mkF m 212 #[.val (Value.long x0), .second, .val (Value.int x1), .val (Value.long x2), .second, .val (Value.long x3), .second, .val (Value.int x4), .val (Value.int x5), .val (Value.int c0), .val (Value.int c1), .val (Value.int c2), .val (Value.long o2), .second, .val (Value.int z2), .val (Value.long t2), .second, .val (Value.ref b1), .val (Value.ref b5), .val (Value.int (((x5.toUInt32 >>> ((3 : Int32) &&& 31).toUInt32).toInt32) &&& (3 : Int32))), .val (Value.int (0 : Int32))] [(Value.ref b5), (Value.ref b1)])) rfl (by rw [hml]; rfl) (Steps.refl _) (argsL := [(Value.ref b5)]) (rest := []) (lenOf own_pd3 rfl) rfl (by show 2 * 0 + _ ≤ _; exact Nat.le_of_eq rfl) (hb hby at_212) (fun _ _ => ⟨rfl, rfl, (by decide : (2 : Nat) + 0 ≤ _), (by decide : (6 : Nat) + 0 ≤ _)⟩)
                dsimp only [Pt.U, Pt.locs, Pt.cells, Pt.slots] at X23 l23 y23 z23 st23 hQ23
                subst l23 y23 z23
                obtain ⟨rfl, e23, Nq23⟩ := hQ23
                have N23 := Fr.app N7 Nq23
                refine own_tr st23 ?_
                show own_G p e below s _ _ _ (T23.setTop (mkF m 215 #[.val (Value.long x0), .second, .val (Value.int x1), .val (Value.long x2), .second, .val (Value.long x3), .second, .val (Value.int x4), .val (Value.int x5), .val (Value.int c0), .val (Value.int c1), .val (Value.int c2), .val (Value.long o2), .second, .val (Value.int z2), .val (Value.long t2), .second, .val (Value.ref b1), .val (Value.ref b5), .val (Value.int (((x5.toUInt32 >>> ((3 : Int32) &&& 31).toUInt32).toInt32) &&& (3 : Int32))), .val (Value.int (0 : Int32))] [(Value.int (own_eq x0 x1 x2 o2 z2 t2))]))
                refine own_iload X23 hx hby at_215 rfl ?_
                show own_G p e below s _ _ _ (T23.setTop (mkF m 217 #[.val (Value.long x0), .second, .val (Value.int x1), .val (Value.long x2), .second, .val (Value.long x3), .second, .val (Value.int x4), .val (Value.int x5), .val (Value.int c0), .val (Value.int c1), .val (Value.int c2), .val (Value.long o2), .second, .val (Value.int z2), .val (Value.long t2), .second, .val (Value.ref b1), .val (Value.ref b5), .val (Value.int (((x5.toUInt32 >>> ((3 : Int32) &&& 31).toUInt32).toInt32) &&& (3 : Int32))), .val (Value.int (0 : Int32))] [(Value.int (0 : Int32)), (Value.int (own_eq x0 x1 x2 o2 z2 t2))]))
                refine own_icmp_ne X23 hx hby at_217 (pc' := 236) (by decide) (by decide) (fun hb24 => by exfalso; exact hb24 (by simp [own_eq, hb12, hb17, hb22, own_nes hb22])) (fun hb24 => ?_)
                show own_G p e below s _ _ _ (T23.setTop (mkF m 220 #[.val (Value.long x0), .second, .val (Value.int x1), .val (Value.long x2), .second, .val (Value.long x3), .second, .val (Value.int x4), .val (Value.int x5), .val (Value.int c0), .val (Value.int c1), .val (Value.int c2), .val (Value.long o2), .second, .val (Value.int z2), .val (Value.long t2), .second, .val (Value.ref b1), .val (Value.ref b5), .val (Value.int (((x5.toUInt32 >>> ((3 : Int32) &&& 31).toUInt32).toInt32) &&& (3 : Int32))), .val (Value.int (0 : Int32))] []))
                refine own_aload X23 hx hby at_220 rfl rfl ?_
                show own_G p e below s _ _ _ (T23.setTop (mkF m 222 #[.val (Value.long x0), .second, .val (Value.int x1), .val (Value.long x2), .second, .val (Value.long x3), .second, .val (Value.int x4), .val (Value.int x5), .val (Value.int c0), .val (Value.int c1), .val (Value.int c2), .val (Value.long o2), .second, .val (Value.int z2), .val (Value.long t2), .second, .val (Value.ref b1), .val (Value.ref b5), .val (Value.int (((x5.toUInt32 >>> ((3 : Int32) &&& 31).toUInt32).toInt32) &&& (3 : Int32))), .val (Value.int (0 : Int32))] [(Value.ref b5)]))
                refine own_aload X23 hx hby at_222 rfl rfl ?_
                show own_G p e below s _ _ _ (T23.setTop (mkF m 224 #[.val (Value.long x0), .second, .val (Value.int x1), .val (Value.long x2), .second, .val (Value.long x3), .second, .val (Value.int x4), .val (Value.int x5), .val (Value.int c0), .val (Value.int c1), .val (Value.int c2), .val (Value.long o2), .second, .val (Value.int z2), .val (Value.long t2), .second, .val (Value.ref b1), .val (Value.ref b5), .val (Value.int (((x5.toUInt32 >>> ((3 : Int32) &&& 31).toUInt32).toInt32) &&& (3 : Int32))), .val (Value.int (0 : Int32))] [(Value.ref b1), (Value.ref b5)]))
                obtain ⟨cq25, kq25, q25a, q25b, q25c⟩ := isOf (T := T23) hZ e23 Eq7
                obtain ⟨_, _, ⟨T25, L25, k25, n25⟩, -, X25, ⟨Lc25, hQ25, l25, y25, z25⟩, st25⟩ := X23.virtualBack hx (y := (⟨"com/example/iron_log/ironlog/consumequeue/QueueEntry", "equals", "(Ljava/lang/Object;)Z"⟩ : MethodName)) (z := (⟨"com/example/iron_log/ironlog/consumequeue/QueueEntry", "equals", "(Ljava/lang/Object;)Z"⟩ : MethodName)) hown (mvT hZ (own_w15 hw)) (mvT hZ (own_w16 hw)) (notFace_of_selects (args := #[]) (mvT hZ (own_w18 hw))) (mvT hZ (own_w18 hw)) (mvT hZ (own_w17 hw)) (by decide) (backOf (W := 0) (own_rmE l Z a0 hw [] b5 b1 o2 z2 t2 x0 x1 x2 T7.heap n0 O8  Fq7_commitLogOffset Fq7_recordSize Fq7_tagsCode E8_b1 F8_b1_commitLogOffset F8_b1_recordSize F8_b1_tagsCode) hZ (own_w19 hw) (own_w2 hw) (by decide) (by decide)) q25a q25c (g := (mkF m 224 #[.val (Value.long x0), .second, .val (Value.int x1), .val (Value.long x2), .second, .val (Value.long x3), .second, .val (Value.int x4), .val (Value.int x5), .val (Value.int c0), .val (Value.int c1), .val (Value.int c2), .val (Value.long o2), .second, .val (Value.int z2), .val (Value.long t2), .second, .val (Value.ref b1), .val (Value.ref b5), .val (Value.int (((x5.toUInt32 >>> ((3 : Int32) &&& 31).toUInt32).toInt32) &&& (3 : Int32))), .val (Value.int (0 : Int32))] [(Value.ref b1), (Value.ref b5)])) rfl (by rw [hml]; rfl) (Steps.refl _) (argsL := [(Value.ref b1)]) (rest := []) (lenOf own_pd3 rfl) rfl (by show 2 * 0 + _ ≤ _; exact Nat.le_of_eq rfl) (hb hby at_224) (fun _ _ => ⟨rfl, e23, (by decide : (2 : Nat) + 0 ≤ _), (by decide : (6 : Nat) + 0 ≤ _)⟩)
                dsimp only [Pt.U, Pt.locs, Pt.cells, Pt.slots] at X25 l25 y25 z25 st25 hQ25
                subst l25 y25 z25
                obtain ⟨rfl, e25, Nq25⟩ := hQ25
                have N25 := Fr.app N23 Nq25
                refine own_tr st25 ?_
                show own_G p e below s _ _ _ (T25.setTop (mkF m 227 #[.val (Value.long x0), .second, .val (Value.int x1), .val (Value.long x2), .second, .val (Value.long x3), .second, .val (Value.int x4), .val (Value.int x5), .val (Value.int c0), .val (Value.int c1), .val (Value.int c2), .val (Value.long o2), .second, .val (Value.int z2), .val (Value.long t2), .second, .val (Value.ref b1), .val (Value.ref b5), .val (Value.int (((x5.toUInt32 >>> ((3 : Int32) &&& 31).toUInt32).toInt32) &&& (3 : Int32))), .val (Value.int (0 : Int32))] [(Value.int (own_eq o2 z2 t2 x0 x1 x2))]))
                refine own_iload X25 hx hby at_227 rfl ?_
                show own_G p e below s _ _ _ (T25.setTop (mkF m 229 #[.val (Value.long x0), .second, .val (Value.int x1), .val (Value.long x2), .second, .val (Value.long x3), .second, .val (Value.int x4), .val (Value.int x5), .val (Value.int c0), .val (Value.int c1), .val (Value.int c2), .val (Value.long o2), .second, .val (Value.int z2), .val (Value.long t2), .second, .val (Value.ref b1), .val (Value.ref b5), .val (Value.int (((x5.toUInt32 >>> ((3 : Int32) &&& 31).toUInt32).toInt32) &&& (3 : Int32))), .val (Value.int (0 : Int32))] [(Value.int (0 : Int32)), (Value.int (own_eq o2 z2 t2 x0 x1 x2))]))
                refine own_icmp_ne X25 hx hby at_229 (pc' := 236) (by decide) (by decide) (fun hb26 => by exfalso; exact hb26 (by simp [own_eq, hb12, hb17, hb22, own_nes hb22])) (fun hb26 => ?_)
                show own_G p e below s _ _ _ (T25.setTop (mkF m 232 #[.val (Value.long x0), .second, .val (Value.int x1), .val (Value.long x2), .second, .val (Value.long x3), .second, .val (Value.int x4), .val (Value.int x5), .val (Value.int c0), .val (Value.int c1), .val (Value.int c2), .val (Value.long o2), .second, .val (Value.int z2), .val (Value.long t2), .second, .val (Value.ref b1), .val (Value.ref b5), .val (Value.int (((x5.toUInt32 >>> ((3 : Int32) &&& 31).toUInt32).toInt32) &&& (3 : Int32))), .val (Value.int (0 : Int32))] []))
                refine own_iconst X25 hx hby at_232 ?_
                show own_G p e below s _ _ _ (T25.setTop (mkF m 233 #[.val (Value.long x0), .second, .val (Value.int x1), .val (Value.long x2), .second, .val (Value.long x3), .second, .val (Value.int x4), .val (Value.int x5), .val (Value.int c0), .val (Value.int c1), .val (Value.int c2), .val (Value.long o2), .second, .val (Value.int z2), .val (Value.long t2), .second, .val (Value.ref b1), .val (Value.ref b5), .val (Value.int (((x5.toUInt32 >>> ((3 : Int32) &&& 31).toUInt32).toInt32) &&& (3 : Int32))), .val (Value.int (0 : Int32))] [(Value.int (1 : Int32))]))
                refine own_goto X25 hx hby at_233 (pc' := 237) (by decide) (by decide) ?_
                show own_G p e below s _ _ _ (T25.setTop (mkF m 237 #[.val (Value.long x0), .second, .val (Value.int x1), .val (Value.long x2), .second, .val (Value.long x3), .second, .val (Value.int x4), .val (Value.int x5), .val (Value.int c0), .val (Value.int c1), .val (Value.int c2), .val (Value.long o2), .second, .val (Value.int z2), .val (Value.long t2), .second, .val (Value.ref b1), .val (Value.ref b5), .val (Value.int (((x5.toUInt32 >>> ((3 : Int32) &&& 31).toUInt32).toInt32) &&& (3 : Int32))), .val (Value.int (0 : Int32))] [(Value.int (1 : Int32))]))
                refine own_retN X25 hx hby hlk (t := .boolean) Bd.returns (by simp) at_237 (by decide) (by decide) ?_
                exact ⟨rfl, N25⟩
              · show own_G p e below s _ _ _ (T7.setTop (mkF m 201 #[.val (Value.long x0), .second, .val (Value.int x1), .val (Value.long x2), .second, .val (Value.long x3), .second, .val (Value.int x4), .val (Value.int x5), .val (Value.int c0), .val (Value.int c1), .val (Value.int c2), .val (Value.long o2), .second, .val (Value.int z2), .val (Value.long t2), .second, .val (Value.ref b1), .val (Value.ref b5), .val (Value.int (((x5.toUInt32 >>> ((3 : Int32) &&& 31).toUInt32).toInt32) &&& (3 : Int32))), .unset] []))
                refine own_iconst X7 hx hby at_201 ?_
                show own_G p e below s _ _ _ (T7.setTop (mkF m 202 #[.val (Value.long x0), .second, .val (Value.int x1), .val (Value.long x2), .second, .val (Value.long x3), .second, .val (Value.int x4), .val (Value.int x5), .val (Value.int c0), .val (Value.int c1), .val (Value.int c2), .val (Value.long o2), .second, .val (Value.int z2), .val (Value.long t2), .second, .val (Value.ref b1), .val (Value.ref b5), .val (Value.int (((x5.toUInt32 >>> ((3 : Int32) &&& 31).toUInt32).toInt32) &&& (3 : Int32))), .unset] [(Value.int (1 : Int32))]))
                refine own_goto X7 hx hby at_202 (pc' := 206) (by decide) (by decide) ?_
                show own_G p e below s _ _ _ (T7.setTop (mkF m 206 #[.val (Value.long x0), .second, .val (Value.int x1), .val (Value.long x2), .second, .val (Value.long x3), .second, .val (Value.int x4), .val (Value.int x5), .val (Value.int c0), .val (Value.int c1), .val (Value.int c2), .val (Value.long o2), .second, .val (Value.int z2), .val (Value.long t2), .second, .val (Value.ref b1), .val (Value.ref b5), .val (Value.int (((x5.toUInt32 >>> ((3 : Int32) &&& 31).toUInt32).toInt32) &&& (3 : Int32))), .unset] [(Value.int (1 : Int32))]))
                refine own_istore X7 hx hby at_206 (l' := #[.val (Value.long x0), .second, .val (Value.int x1), .val (Value.long x2), .second, .val (Value.long x3), .second, .val (Value.int x4), .val (Value.int x5), .val (Value.int c0), .val (Value.int c1), .val (Value.int c2), .val (Value.long o2), .second, .val (Value.int z2), .val (Value.long t2), .second, .val (Value.ref b1), .val (Value.ref b5), .val (Value.int (((x5.toUInt32 >>> ((3 : Int32) &&& 31).toUInt32).toInt32) &&& (3 : Int32))), .val (Value.int (1 : Int32))]) rfl ?_
                show own_G p e below s _ _ _ (T7.setTop (mkF m 208 #[.val (Value.long x0), .second, .val (Value.int x1), .val (Value.long x2), .second, .val (Value.long x3), .second, .val (Value.int x4), .val (Value.int x5), .val (Value.int c0), .val (Value.int c1), .val (Value.int c2), .val (Value.long o2), .second, .val (Value.int z2), .val (Value.long t2), .second, .val (Value.ref b1), .val (Value.ref b5), .val (Value.int (((x5.toUInt32 >>> ((3 : Int32) &&& 31).toUInt32).toInt32) &&& (3 : Int32))), .val (Value.int (1 : Int32))] []))
                refine own_aload X7 hx hby at_208 rfl rfl ?_
                show own_G p e below s _ _ _ (T7.setTop (mkF m 210 #[.val (Value.long x0), .second, .val (Value.int x1), .val (Value.long x2), .second, .val (Value.long x3), .second, .val (Value.int x4), .val (Value.int x5), .val (Value.int c0), .val (Value.int c1), .val (Value.int c2), .val (Value.long o2), .second, .val (Value.int z2), .val (Value.long t2), .second, .val (Value.ref b1), .val (Value.ref b5), .val (Value.int (((x5.toUInt32 >>> ((3 : Int32) &&& 31).toUInt32).toInt32) &&& (3 : Int32))), .val (Value.int (1 : Int32))] [(Value.ref b1)]))
                refine own_aload X7 hx hby at_210 rfl rfl ?_
                show own_G p e below s _ _ _ (T7.setTop (mkF m 212 #[.val (Value.long x0), .second, .val (Value.int x1), .val (Value.long x2), .second, .val (Value.long x3), .second, .val (Value.int x4), .val (Value.int x5), .val (Value.int c0), .val (Value.int c1), .val (Value.int c2), .val (Value.long o2), .second, .val (Value.int z2), .val (Value.long t2), .second, .val (Value.ref b1), .val (Value.ref b5), .val (Value.int (((x5.toUInt32 >>> ((3 : Int32) &&& 31).toUInt32).toInt32) &&& (3 : Int32))), .val (Value.int (1 : Int32))] [(Value.ref b5), (Value.ref b1)]))
                obtain ⟨cq27, kq27, q27a, q27b, q27c⟩ := isOf (T := T7) hZ rfl E8_b1
                obtain ⟨_, _, ⟨T27, L27, k27, n27⟩, -, X27, ⟨Lc27, hQ27, l27, y27, z27⟩, st27⟩ := X7.virtualBack hx (y := (⟨"com/example/iron_log/ironlog/consumequeue/QueueEntry", "equals", "(Ljava/lang/Object;)Z"⟩ : MethodName)) (z := (⟨"com/example/iron_log/ironlog/consumequeue/QueueEntry", "equals", "(Ljava/lang/Object;)Z"⟩ : MethodName)) hown (mvT hZ (own_w15 hw)) (mvT hZ (own_w16 hw)) (notFace_of_selects (args := #[]) (mvT hZ (own_w18 hw))) (mvT hZ (own_w18 hw)) (mvT hZ (own_w17 hw)) (by decide) (backOf (W := 0) (own_rmE l Z a0 hw [] b1 b5 x0 x1 x2 o2 z2 t2 T7.heap n0 O8  F8_b1_commitLogOffset F8_b1_recordSize F8_b1_tagsCode Eq7 Fq7_commitLogOffset Fq7_recordSize Fq7_tagsCode) hZ (own_w19 hw) (own_w2 hw) (by decide) (by decide)) q27a q27c (g := (mkF m 212 #[.val (Value.long x0), .second, .val (Value.int x1), .val (Value.long x2), .second, .val (Value.long x3), .second, .val (Value.int x4), .val (Value.int x5), .val (Value.int c0), .val (Value.int c1), .val (Value.int c2), .val (Value.long o2), .second, .val (Value.int z2), .val (Value.long t2), .second, .val (Value.ref b1), .val (Value.ref b5), .val (Value.int (((x5.toUInt32 >>> ((3 : Int32) &&& 31).toUInt32).toInt32) &&& (3 : Int32))), .val (Value.int (1 : Int32))] [(Value.ref b5), (Value.ref b1)])) rfl (by rw [hml]; rfl) (Steps.refl _) (argsL := [(Value.ref b5)]) (rest := []) (lenOf own_pd3 rfl) rfl (by show 2 * 0 + _ ≤ _; exact Nat.le_of_eq rfl) (hb hby at_212) (fun _ _ => ⟨rfl, rfl, (by decide : (2 : Nat) + 0 ≤ _), (by decide : (6 : Nat) + 0 ≤ _)⟩)
                dsimp only [Pt.U, Pt.locs, Pt.cells, Pt.slots] at X27 l27 y27 z27 st27 hQ27
                subst l27 y27 z27
                obtain ⟨rfl, e27, Nq27⟩ := hQ27
                have N27 := Fr.app N7 Nq27
                refine own_tr st27 ?_
                show own_G p e below s _ _ _ (T27.setTop (mkF m 215 #[.val (Value.long x0), .second, .val (Value.int x1), .val (Value.long x2), .second, .val (Value.long x3), .second, .val (Value.int x4), .val (Value.int x5), .val (Value.int c0), .val (Value.int c1), .val (Value.int c2), .val (Value.long o2), .second, .val (Value.int z2), .val (Value.long t2), .second, .val (Value.ref b1), .val (Value.ref b5), .val (Value.int (((x5.toUInt32 >>> ((3 : Int32) &&& 31).toUInt32).toInt32) &&& (3 : Int32))), .val (Value.int (1 : Int32))] [(Value.int (own_eq x0 x1 x2 o2 z2 t2))]))
                refine own_iload X27 hx hby at_215 rfl ?_
                show own_G p e below s _ _ _ (T27.setTop (mkF m 217 #[.val (Value.long x0), .second, .val (Value.int x1), .val (Value.long x2), .second, .val (Value.long x3), .second, .val (Value.int x4), .val (Value.int x5), .val (Value.int c0), .val (Value.int c1), .val (Value.int c2), .val (Value.long o2), .second, .val (Value.int z2), .val (Value.long t2), .second, .val (Value.ref b1), .val (Value.ref b5), .val (Value.int (((x5.toUInt32 >>> ((3 : Int32) &&& 31).toUInt32).toInt32) &&& (3 : Int32))), .val (Value.int (1 : Int32))] [(Value.int (1 : Int32)), (Value.int (own_eq x0 x1 x2 o2 z2 t2))]))
                refine own_icmp_ne X27 hx hby at_217 (pc' := 236) (by decide) (by decide) (fun hb28 => by exfalso; exact hb28 (by simp [own_eq, hb12, hb17, hb22])) (fun hb28 => ?_)
                show own_G p e below s _ _ _ (T27.setTop (mkF m 220 #[.val (Value.long x0), .second, .val (Value.int x1), .val (Value.long x2), .second, .val (Value.long x3), .second, .val (Value.int x4), .val (Value.int x5), .val (Value.int c0), .val (Value.int c1), .val (Value.int c2), .val (Value.long o2), .second, .val (Value.int z2), .val (Value.long t2), .second, .val (Value.ref b1), .val (Value.ref b5), .val (Value.int (((x5.toUInt32 >>> ((3 : Int32) &&& 31).toUInt32).toInt32) &&& (3 : Int32))), .val (Value.int (1 : Int32))] []))
                refine own_aload X27 hx hby at_220 rfl rfl ?_
                show own_G p e below s _ _ _ (T27.setTop (mkF m 222 #[.val (Value.long x0), .second, .val (Value.int x1), .val (Value.long x2), .second, .val (Value.long x3), .second, .val (Value.int x4), .val (Value.int x5), .val (Value.int c0), .val (Value.int c1), .val (Value.int c2), .val (Value.long o2), .second, .val (Value.int z2), .val (Value.long t2), .second, .val (Value.ref b1), .val (Value.ref b5), .val (Value.int (((x5.toUInt32 >>> ((3 : Int32) &&& 31).toUInt32).toInt32) &&& (3 : Int32))), .val (Value.int (1 : Int32))] [(Value.ref b5)]))
                refine own_aload X27 hx hby at_222 rfl rfl ?_
                show own_G p e below s _ _ _ (T27.setTop (mkF m 224 #[.val (Value.long x0), .second, .val (Value.int x1), .val (Value.long x2), .second, .val (Value.long x3), .second, .val (Value.int x4), .val (Value.int x5), .val (Value.int c0), .val (Value.int c1), .val (Value.int c2), .val (Value.long o2), .second, .val (Value.int z2), .val (Value.long t2), .second, .val (Value.ref b1), .val (Value.ref b5), .val (Value.int (((x5.toUInt32 >>> ((3 : Int32) &&& 31).toUInt32).toInt32) &&& (3 : Int32))), .val (Value.int (1 : Int32))] [(Value.ref b1), (Value.ref b5)]))
                obtain ⟨cq29, kq29, q29a, q29b, q29c⟩ := isOf (T := T27) hZ e27 Eq7
                obtain ⟨_, _, ⟨T29, L29, k29, n29⟩, -, X29, ⟨Lc29, hQ29, l29, y29, z29⟩, st29⟩ := X27.virtualBack hx (y := (⟨"com/example/iron_log/ironlog/consumequeue/QueueEntry", "equals", "(Ljava/lang/Object;)Z"⟩ : MethodName)) (z := (⟨"com/example/iron_log/ironlog/consumequeue/QueueEntry", "equals", "(Ljava/lang/Object;)Z"⟩ : MethodName)) hown (mvT hZ (own_w15 hw)) (mvT hZ (own_w16 hw)) (notFace_of_selects (args := #[]) (mvT hZ (own_w18 hw))) (mvT hZ (own_w18 hw)) (mvT hZ (own_w17 hw)) (by decide) (backOf (W := 0) (own_rmE l Z a0 hw [] b5 b1 o2 z2 t2 x0 x1 x2 T7.heap n0 O8  Fq7_commitLogOffset Fq7_recordSize Fq7_tagsCode E8_b1 F8_b1_commitLogOffset F8_b1_recordSize F8_b1_tagsCode) hZ (own_w19 hw) (own_w2 hw) (by decide) (by decide)) q29a q29c (g := (mkF m 224 #[.val (Value.long x0), .second, .val (Value.int x1), .val (Value.long x2), .second, .val (Value.long x3), .second, .val (Value.int x4), .val (Value.int x5), .val (Value.int c0), .val (Value.int c1), .val (Value.int c2), .val (Value.long o2), .second, .val (Value.int z2), .val (Value.long t2), .second, .val (Value.ref b1), .val (Value.ref b5), .val (Value.int (((x5.toUInt32 >>> ((3 : Int32) &&& 31).toUInt32).toInt32) &&& (3 : Int32))), .val (Value.int (1 : Int32))] [(Value.ref b1), (Value.ref b5)])) rfl (by rw [hml]; rfl) (Steps.refl _) (argsL := [(Value.ref b1)]) (rest := []) (lenOf own_pd3 rfl) rfl (by show 2 * 0 + _ ≤ _; exact Nat.le_of_eq rfl) (hb hby at_224) (fun _ _ => ⟨rfl, e27, (by decide : (2 : Nat) + 0 ≤ _), (by decide : (6 : Nat) + 0 ≤ _)⟩)
                dsimp only [Pt.U, Pt.locs, Pt.cells, Pt.slots] at X29 l29 y29 z29 st29 hQ29
                subst l29 y29 z29
                obtain ⟨rfl, e29, Nq29⟩ := hQ29
                have N29 := Fr.app N27 Nq29
                refine own_tr st29 ?_
                show own_G p e below s _ _ _ (T29.setTop (mkF m 227 #[.val (Value.long x0), .second, .val (Value.int x1), .val (Value.long x2), .second, .val (Value.long x3), .second, .val (Value.int x4), .val (Value.int x5), .val (Value.int c0), .val (Value.int c1), .val (Value.int c2), .val (Value.long o2), .second, .val (Value.int z2), .val (Value.long t2), .second, .val (Value.ref b1), .val (Value.ref b5), .val (Value.int (((x5.toUInt32 >>> ((3 : Int32) &&& 31).toUInt32).toInt32) &&& (3 : Int32))), .val (Value.int (1 : Int32))] [(Value.int (own_eq o2 z2 t2 x0 x1 x2))]))
                refine own_iload X29 hx hby at_227 rfl ?_
                show own_G p e below s _ _ _ (T29.setTop (mkF m 229 #[.val (Value.long x0), .second, .val (Value.int x1), .val (Value.long x2), .second, .val (Value.long x3), .second, .val (Value.int x4), .val (Value.int x5), .val (Value.int c0), .val (Value.int c1), .val (Value.int c2), .val (Value.long o2), .second, .val (Value.int z2), .val (Value.long t2), .second, .val (Value.ref b1), .val (Value.ref b5), .val (Value.int (((x5.toUInt32 >>> ((3 : Int32) &&& 31).toUInt32).toInt32) &&& (3 : Int32))), .val (Value.int (1 : Int32))] [(Value.int (1 : Int32)), (Value.int (own_eq o2 z2 t2 x0 x1 x2))]))
                refine own_icmp_ne X29 hx hby at_229 (pc' := 236) (by decide) (by decide) (fun hb30 => by exfalso; exact hb30 (by simp [own_eq, hb12, hb17, hb22])) (fun hb30 => ?_)
                show own_G p e below s _ _ _ (T29.setTop (mkF m 232 #[.val (Value.long x0), .second, .val (Value.int x1), .val (Value.long x2), .second, .val (Value.long x3), .second, .val (Value.int x4), .val (Value.int x5), .val (Value.int c0), .val (Value.int c1), .val (Value.int c2), .val (Value.long o2), .second, .val (Value.int z2), .val (Value.long t2), .second, .val (Value.ref b1), .val (Value.ref b5), .val (Value.int (((x5.toUInt32 >>> ((3 : Int32) &&& 31).toUInt32).toInt32) &&& (3 : Int32))), .val (Value.int (1 : Int32))] []))
                refine own_iconst X29 hx hby at_232 ?_
                show own_G p e below s _ _ _ (T29.setTop (mkF m 233 #[.val (Value.long x0), .second, .val (Value.int x1), .val (Value.long x2), .second, .val (Value.long x3), .second, .val (Value.int x4), .val (Value.int x5), .val (Value.int c0), .val (Value.int c1), .val (Value.int c2), .val (Value.long o2), .second, .val (Value.int z2), .val (Value.long t2), .second, .val (Value.ref b1), .val (Value.ref b5), .val (Value.int (((x5.toUInt32 >>> ((3 : Int32) &&& 31).toUInt32).toInt32) &&& (3 : Int32))), .val (Value.int (1 : Int32))] [(Value.int (1 : Int32))]))
                refine own_goto X29 hx hby at_233 (pc' := 237) (by decide) (by decide) ?_
                show own_G p e below s _ _ _ (T29.setTop (mkF m 237 #[.val (Value.long x0), .second, .val (Value.int x1), .val (Value.long x2), .second, .val (Value.long x3), .second, .val (Value.int x4), .val (Value.int x5), .val (Value.int c0), .val (Value.int c1), .val (Value.int c2), .val (Value.long o2), .second, .val (Value.int z2), .val (Value.long t2), .second, .val (Value.ref b1), .val (Value.ref b5), .val (Value.int (((x5.toUInt32 >>> ((3 : Int32) &&& 31).toUInt32).toInt32) &&& (3 : Int32))), .val (Value.int (1 : Int32))] [(Value.int (1 : Int32))]))
                refine own_retN X29 hx hby hlk (t := .boolean) Bd.returns (by simp) at_237 (by decide) (by decide) ?_
                exact ⟨rfl, N29⟩
        · show own_G p e below s _ _ _ (T7.setTop (mkF m 173 #[.val (Value.long x0), .second, .val (Value.int x1), .val (Value.long x2), .second, .val (Value.long x3), .second, .val (Value.int x4), .val (Value.int x5), .val (Value.int c0), .val (Value.int c1), .val (Value.int c2), .val (Value.long o2), .second, .val (Value.int z2), .val (Value.long t2), .second, .val (Value.ref b1), .val (Value.ref b5), .val (Value.int (((x5.toUInt32 >>> ((3 : Int32) &&& 31).toUInt32).toInt32) &&& (3 : Int32))), .unset] []))
          refine own_aload X7 hx hby at_173 rfl rfl ?_
          show own_G p e below s _ _ _ (T7.setTop (mkF m 175 #[.val (Value.long x0), .second, .val (Value.int x1), .val (Value.long x2), .second, .val (Value.long x3), .second, .val (Value.int x4), .val (Value.int x5), .val (Value.int c0), .val (Value.int c1), .val (Value.int c2), .val (Value.long o2), .second, .val (Value.int z2), .val (Value.long t2), .second, .val (Value.ref b1), .val (Value.ref b5), .val (Value.int (((x5.toUInt32 >>> ((3 : Int32) &&& 31).toUInt32).toInt32) &&& (3 : Int32))), .unset] [(Value.ref b1)]))
          refine own_aload X7 hx hby at_175 rfl rfl ?_
          show own_G p e below s _ _ _ (T7.setTop (mkF m 177 #[.val (Value.long x0), .second, .val (Value.int x1), .val (Value.long x2), .second, .val (Value.long x3), .second, .val (Value.int x4), .val (Value.int x5), .val (Value.int c0), .val (Value.int c1), .val (Value.int c2), .val (Value.long o2), .second, .val (Value.int z2), .val (Value.long t2), .second, .val (Value.ref b1), .val (Value.ref b5), .val (Value.int (((x5.toUInt32 >>> ((3 : Int32) &&& 31).toUInt32).toInt32) &&& (3 : Int32))), .unset] [(Value.ref b1), (Value.ref b1)]))
          obtain ⟨cq31, kq31, q31a, q31b, q31c⟩ := isOf (T := T7) hZ rfl E8_b1
          obtain ⟨_, _, ⟨T31, L31, k31, n31⟩, -, X31, ⟨Lc31, hQ31, l31, y31, z31⟩, st31⟩ := X7.virtualBack hx (y := (⟨"com/example/iron_log/ironlog/consumequeue/QueueEntry", "equals", "(Ljava/lang/Object;)Z"⟩ : MethodName)) (z := (⟨"com/example/iron_log/ironlog/consumequeue/QueueEntry", "equals", "(Ljava/lang/Object;)Z"⟩ : MethodName)) hown (mvT hZ (own_w15 hw)) (mvT hZ (own_w16 hw)) (notFace_of_selects (args := #[]) (mvT hZ (own_w18 hw))) (mvT hZ (own_w18 hw)) (mvT hZ (own_w17 hw)) (by decide) (backOf (W := 0) (own_rmE l Z a0 hw [] b1 b1 x0 x1 x2 x0 x1 x2 T7.heap n0 O8  F8_b1_commitLogOffset F8_b1_recordSize F8_b1_tagsCode E8_b1 F8_b1_commitLogOffset F8_b1_recordSize F8_b1_tagsCode) hZ (own_w19 hw) (own_w2 hw) (by decide) (by decide)) q31a q31c (g := (mkF m 177 #[.val (Value.long x0), .second, .val (Value.int x1), .val (Value.long x2), .second, .val (Value.long x3), .second, .val (Value.int x4), .val (Value.int x5), .val (Value.int c0), .val (Value.int c1), .val (Value.int c2), .val (Value.long o2), .second, .val (Value.int z2), .val (Value.long t2), .second, .val (Value.ref b1), .val (Value.ref b5), .val (Value.int (((x5.toUInt32 >>> ((3 : Int32) &&& 31).toUInt32).toInt32) &&& (3 : Int32))), .unset] [(Value.ref b1), (Value.ref b1)])) rfl (by rw [hml]; rfl) (Steps.refl _) (argsL := [(Value.ref b1)]) (rest := []) (lenOf own_pd3 rfl) rfl (by show 2 * 0 + _ ≤ _; exact Nat.le_of_eq rfl) (hb hby at_177) (fun _ _ => ⟨rfl, rfl, (by decide : (2 : Nat) + 0 ≤ _), (by decide : (6 : Nat) + 0 ≤ _)⟩)
          dsimp only [Pt.U, Pt.locs, Pt.cells, Pt.slots] at X31 l31 y31 z31 st31 hQ31
          subst l31 y31 z31
          obtain ⟨rfl, e31, Nq31⟩ := hQ31
          have N31 := Fr.app N7 Nq31
          refine own_tr st31 ?_
          show own_G p e below s _ _ _ (T31.setTop (mkF m 180 #[.val (Value.long x0), .second, .val (Value.int x1), .val (Value.long x2), .second, .val (Value.long x3), .second, .val (Value.int x4), .val (Value.int x5), .val (Value.int c0), .val (Value.int c1), .val (Value.int c2), .val (Value.long o2), .second, .val (Value.int z2), .val (Value.long t2), .second, .val (Value.ref b1), .val (Value.ref b5), .val (Value.int (((x5.toUInt32 >>> ((3 : Int32) &&& 31).toUInt32).toInt32) &&& (3 : Int32))), .unset] [(Value.int (own_eq x0 x1 x2 x0 x1 x2))]))
          rw [show ((own_eq x0 x1 x2 x0 x1 x2) : Int32) = (1 : Int32) from own_eq_self _ _ _]
          refine own_retN X31 hx hby hlk (t := .boolean) Bd.returns (by simp) at_180 (by decide) (by decide) ?_
          exact ⟨rfl, N31⟩
      · show own_G p e below s _ _ _ (T7.setTop (mkF m 149 #[.val (Value.long x0), .second, .val (Value.int x1), .val (Value.long x2), .second, .val (Value.long x3), .second, .val (Value.int x4), .val (Value.int x5), .val (Value.int c0), .val (Value.int c1), .val (Value.int c2), .val (Value.long o2), .second, .val (Value.int z2), .val (Value.long t2), .second, .val (Value.ref b1), .val (Value.ref b5), .val (Value.int (((x5.toUInt32 >>> ((3 : Int32) &&& 31).toUInt32).toInt32) &&& (3 : Int32))), .unset] []))
        refine own_aload X7 hx hby at_149 rfl rfl ?_
        show own_G p e below s _ _ _ (T7.setTop (mkF m 151 #[.val (Value.long x0), .second, .val (Value.int x1), .val (Value.long x2), .second, .val (Value.long x3), .second, .val (Value.int x4), .val (Value.int x5), .val (Value.int c0), .val (Value.int c1), .val (Value.int c2), .val (Value.long o2), .second, .val (Value.int z2), .val (Value.long t2), .second, .val (Value.ref b1), .val (Value.ref b5), .val (Value.int (((x5.toUInt32 >>> ((3 : Int32) &&& 31).toUInt32).toInt32) &&& (3 : Int32))), .unset] [(Value.ref b1)]))
        refine own_lloadN X7 hx hby at_151 rfl ?_
        show own_G p e below s _ _ _ (T7.setTop (mkF m 152 #[.val (Value.long x0), .second, .val (Value.int x1), .val (Value.long x2), .second, .val (Value.long x3), .second, .val (Value.int x4), .val (Value.int x5), .val (Value.int c0), .val (Value.int c1), .val (Value.int c2), .val (Value.long o2), .second, .val (Value.int z2), .val (Value.long t2), .second, .val (Value.ref b1), .val (Value.ref b5), .val (Value.int (((x5.toUInt32 >>> ((3 : Int32) &&& 31).toUInt32).toInt32) &&& (3 : Int32))), .unset] [(Value.long x0), (Value.ref b1)]))
        obtain ⟨_, _, ⟨T32, L32, k32, n32⟩, -, X32, ⟨Lc32, hQ32, l32, y32, z32⟩, st32⟩ := Jvm.LawKit.callS X7 hx (y := (⟨"java/lang/Long", "valueOf", "(J)Ljava/lang/Long;"⟩ : MethodName)) hown (mvT hZ (own_w22 hw)) (mvT hZ (own_w23 hw)) (mvT hZ (own_w24 hw)) (mvT hZ (own_w25 hw)) (by decide) (backOf (W := 1) (own_rm4 l Z a0 hw [] x0 arr f T7.heap n0 O8  hC) hZ (own_w25 hw) (own_w24 hw) (by decide) (by decide)) (g := (mkF m 152 #[.val (Value.long x0), .second, .val (Value.int x1), .val (Value.long x2), .second, .val (Value.long x3), .second, .val (Value.int x4), .val (Value.int x5), .val (Value.int c0), .val (Value.int c1), .val (Value.int c2), .val (Value.long o2), .second, .val (Value.int z2), .val (Value.long t2), .second, .val (Value.ref b1), .val (Value.ref b5), .val (Value.int (((x5.toUInt32 >>> ((3 : Int32) &&& 31).toUInt32).toInt32) &&& (3 : Int32))), .unset] [(Value.long x0), (Value.ref b1)])) rfl (by rw [hml]; rfl) (argsL := [(Value.long x0)]) (rest := [(Value.ref b1)]) (lenOf own_pd4 rfl) rfl (by show 2 * 0 + _ ≤ _; exact Nat.le_of_eq rfl) (hb hby at_152) (fun _ _ => ⟨rfl, rfl, (by decide : (2 : Nat) + 1 ≤ _), (by decide : (6 : Nat) + 1 ≤ _)⟩)
        dsimp only [Pt.U, Pt.locs, Pt.cells, Pt.slots] at X32 l32 y32 z32 st32 hQ32
        subst l32 y32 z32
        obtain ⟨r32, rfl, Nq32, Kq32, Eq32⟩ := hQ32
        have N32 := Fr.app N7 Nq32
        have F33_b1_commitLogOffset := Fld.keep F8_b1_commitLogOffset Kq32 nin0
        have F33_b1_recordSize := Fld.keep F8_b1_recordSize Kq32 nin0
        have F33_b1_tagsCode := Fld.keep F8_b1_tagsCode Kq32 nin0
        have F33_b5_commitLogOffset := Fld.keep Fq7_commitLogOffset Kq32 nin0
        have F33_b5_recordSize := Fld.keep Fq7_recordSize Kq32 nin0
        have F33_b5_tagsCode := Fld.keep Fq7_tagsCode Kq32 nin0
        have E33_b1 := Exa.keep E8_b1 Kq32
        have E33_b5 := Exa.keep Eq7 Kq32
        have O33 := Old.keep O8 Kq32 all0
        refine own_st st32 ?_
        show own_G p e below s _ _ _ (T32.setTop (mkF m 155 #[.val (Value.long x0), .second, .val (Value.int x1), .val (Value.long x2), .second, .val (Value.long x3), .second, .val (Value.int x4), .val (Value.int x5), .val (Value.int c0), .val (Value.int c1), .val (Value.int c2), .val (Value.long o2), .second, .val (Value.int z2), .val (Value.long t2), .second, .val (Value.ref b1), .val (Value.ref b5), .val (Value.int (((x5.toUInt32 >>> ((3 : Int32) &&& 31).toUInt32).toInt32) &&& (3 : Int32))), .unset] [(Value.ref r32), (Value.ref b1)]))
        obtain ⟨cq34, kq34, q34a, q34b, q34c⟩ := isOf (T := T32) hZ rfl E33_b1
        obtain ⟨_, _, ⟨T34, L34, k34, n34⟩, -, X34, ⟨Lc34, hQ34, l34, y34, z34⟩, st34⟩ := X32.virtualBack hx (y := (⟨"com/example/iron_log/ironlog/consumequeue/QueueEntry", "equals", "(Ljava/lang/Object;)Z"⟩ : MethodName)) (z := (⟨"com/example/iron_log/ironlog/consumequeue/QueueEntry", "equals", "(Ljava/lang/Object;)Z"⟩ : MethodName)) hown (mvT hZ (own_w15 hw)) (mvT hZ (own_w16 hw)) (notFace_of_selects (args := #[]) (mvT hZ (own_w18 hw))) (mvT hZ (own_w18 hw)) (mvT hZ (own_w17 hw)) (by decide) (backOf (W := 0) (own_rmL l Z a0 hw [] b1 r32  T32.heap n0 O33  Eq32) hZ (own_w19 hw) (own_w2 hw) (by decide) (by decide)) q34a q34c (g := (mkF m 155 #[.val (Value.long x0), .second, .val (Value.int x1), .val (Value.long x2), .second, .val (Value.long x3), .second, .val (Value.int x4), .val (Value.int x5), .val (Value.int c0), .val (Value.int c1), .val (Value.int c2), .val (Value.long o2), .second, .val (Value.int z2), .val (Value.long t2), .second, .val (Value.ref b1), .val (Value.ref b5), .val (Value.int (((x5.toUInt32 >>> ((3 : Int32) &&& 31).toUInt32).toInt32) &&& (3 : Int32))), .unset] [(Value.ref r32), (Value.ref b1)])) rfl (by rw [hml]; rfl) (Steps.refl _) (argsL := [(Value.ref r32)]) (rest := []) (lenOf own_pd3 rfl) rfl (by show 2 * 0 + _ ≤ _; exact Nat.le_of_eq rfl) (hb hby at_155) (fun _ _ => ⟨rfl, rfl, (by decide : (3 : Nat) + 0 ≤ _), (by decide : (7 : Nat) + 0 ≤ _)⟩)
        dsimp only [Pt.U, Pt.locs, Pt.cells, Pt.slots] at X34 l34 y34 z34 st34 hQ34
        subst l34 y34 z34
        obtain ⟨rfl, e34, Nq34⟩ := hQ34
        have N34 := Fr.app N32 Nq34
        refine own_tr st34 ?_
        show own_G p e below s _ _ _ (T34.setTop (mkF m 158 #[.val (Value.long x0), .second, .val (Value.int x1), .val (Value.long x2), .second, .val (Value.long x3), .second, .val (Value.int x4), .val (Value.int x5), .val (Value.int c0), .val (Value.int c1), .val (Value.int c2), .val (Value.long o2), .second, .val (Value.int z2), .val (Value.long t2), .second, .val (Value.ref b1), .val (Value.ref b5), .val (Value.int (((x5.toUInt32 >>> ((3 : Int32) &&& 31).toUInt32).toInt32) &&& (3 : Int32))), .unset] [(Value.int (0 : Int32))]))
        refine own_if_ne X34 hx hby at_158 (pc' := 165) (by decide) (by decide) (fun hb35 => by exfalso; revert hb35; decide) (fun hb35 => ?_)
        show own_G p e below s _ _ _ (T34.setTop (mkF m 161 #[.val (Value.long x0), .second, .val (Value.int x1), .val (Value.long x2), .second, .val (Value.long x3), .second, .val (Value.int x4), .val (Value.int x5), .val (Value.int c0), .val (Value.int c1), .val (Value.int c2), .val (Value.long o2), .second, .val (Value.int z2), .val (Value.long t2), .second, .val (Value.ref b1), .val (Value.ref b5), .val (Value.int (((x5.toUInt32 >>> ((3 : Int32) &&& 31).toUInt32).toInt32) &&& (3 : Int32))), .unset] []))
        refine own_iconst X34 hx hby at_161 ?_
        show own_G p e below s _ _ _ (T34.setTop (mkF m 162 #[.val (Value.long x0), .second, .val (Value.int x1), .val (Value.long x2), .second, .val (Value.long x3), .second, .val (Value.int x4), .val (Value.int x5), .val (Value.int c0), .val (Value.int c1), .val (Value.int c2), .val (Value.long o2), .second, .val (Value.int z2), .val (Value.long t2), .second, .val (Value.ref b1), .val (Value.ref b5), .val (Value.int (((x5.toUInt32 >>> ((3 : Int32) &&& 31).toUInt32).toInt32) &&& (3 : Int32))), .unset] [(Value.int (1 : Int32))]))
        refine own_goto X34 hx hby at_162 (pc' := 166) (by decide) (by decide) ?_
        show own_G p e below s _ _ _ (T34.setTop (mkF m 166 #[.val (Value.long x0), .second, .val (Value.int x1), .val (Value.long x2), .second, .val (Value.long x3), .second, .val (Value.int x4), .val (Value.int x5), .val (Value.int c0), .val (Value.int c1), .val (Value.int c2), .val (Value.long o2), .second, .val (Value.int z2), .val (Value.long t2), .second, .val (Value.ref b1), .val (Value.ref b5), .val (Value.int (((x5.toUInt32 >>> ((3 : Int32) &&& 31).toUInt32).toInt32) &&& (3 : Int32))), .unset] [(Value.int (1 : Int32))]))
        refine own_retN X34 hx hby hlk (t := .boolean) Bd.returns (by simp) at_166 (by decide) (by decide) ?_
        exact ⟨rfl, N34⟩
    · show own_G p e below s _ _ _ (T7.setTop (mkF m 128 #[.val (Value.long x0), .second, .val (Value.int x1), .val (Value.long x2), .second, .val (Value.long x3), .second, .val (Value.int x4), .val (Value.int x5), .val (Value.int c0), .val (Value.int c1), .val (Value.int c2), .val (Value.long o2), .second, .val (Value.int z2), .val (Value.long t2), .second, .val (Value.ref b1), .val (Value.ref b5), .val (Value.int (((x5.toUInt32 >>> ((3 : Int32) &&& 31).toUInt32).toInt32) &&& (3 : Int32))), .unset] []))
      refine own_aload X7 hx hby at_128 rfl rfl ?_
      show own_G p e below s _ _ _ (T7.setTop (mkF m 130 #[.val (Value.long x0), .second, .val (Value.int x1), .val (Value.long x2), .second, .val (Value.long x3), .second, .val (Value.int x4), .val (Value.int x5), .val (Value.int c0), .val (Value.int c1), .val (Value.int c2), .val (Value.long o2), .second, .val (Value.int z2), .val (Value.long t2), .second, .val (Value.ref b1), .val (Value.ref b5), .val (Value.int (((x5.toUInt32 >>> ((3 : Int32) &&& 31).toUInt32).toInt32) &&& (3 : Int32))), .unset] [(Value.ref b1)]))
      refine own_aconst_null X7 hx hby at_130 ?_
      show own_G p e below s _ _ _ (T7.setTop (mkF m 131 #[.val (Value.long x0), .second, .val (Value.int x1), .val (Value.long x2), .second, .val (Value.long x3), .second, .val (Value.int x4), .val (Value.int x5), .val (Value.int c0), .val (Value.int c1), .val (Value.int c2), .val (Value.long o2), .second, .val (Value.int z2), .val (Value.long t2), .second, .val (Value.ref b1), .val (Value.ref b5), .val (Value.int (((x5.toUInt32 >>> ((3 : Int32) &&& 31).toUInt32).toInt32) &&& (3 : Int32))), .unset] [Value.null, (Value.ref b1)]))
      obtain ⟨cq36, kq36, q36a, q36b, q36c⟩ := isOf (T := T7) hZ rfl E8_b1
      obtain ⟨_, _, ⟨T36, L36, k36, n36⟩, -, X36, ⟨Lc36, hQ36, l36, y36, z36⟩, st36⟩ := X7.virtualBack hx (y := (⟨"com/example/iron_log/ironlog/consumequeue/QueueEntry", "equals", "(Ljava/lang/Object;)Z"⟩ : MethodName)) (z := (⟨"com/example/iron_log/ironlog/consumequeue/QueueEntry", "equals", "(Ljava/lang/Object;)Z"⟩ : MethodName)) hown (mvT hZ (own_w15 hw)) (mvT hZ (own_w16 hw)) (notFace_of_selects (args := #[]) (mvT hZ (own_w18 hw))) (mvT hZ (own_w18 hw)) (mvT hZ (own_w17 hw)) (by decide) (backOf (W := 0) (own_rmN l Z a0 hw [] b1  T7.heap n0 O8  ) hZ (own_w19 hw) (own_w2 hw) (by decide) (by decide)) q36a q36c (g := (mkF m 131 #[.val (Value.long x0), .second, .val (Value.int x1), .val (Value.long x2), .second, .val (Value.long x3), .second, .val (Value.int x4), .val (Value.int x5), .val (Value.int c0), .val (Value.int c1), .val (Value.int c2), .val (Value.long o2), .second, .val (Value.int z2), .val (Value.long t2), .second, .val (Value.ref b1), .val (Value.ref b5), .val (Value.int (((x5.toUInt32 >>> ((3 : Int32) &&& 31).toUInt32).toInt32) &&& (3 : Int32))), .unset] [Value.null, (Value.ref b1)])) rfl (by rw [hml]; rfl) (Steps.refl _) (argsL := [Value.null]) (rest := []) (lenOf own_pd3 rfl) rfl (by show 2 * 0 + _ ≤ _; exact Nat.le_of_eq rfl) (hb hby at_131) (fun _ _ => ⟨rfl, rfl, (by decide : (2 : Nat) + 0 ≤ _), (by decide : (6 : Nat) + 0 ≤ _)⟩)
      dsimp only [Pt.U, Pt.locs, Pt.cells, Pt.slots] at X36 l36 y36 z36 st36 hQ36
      subst l36 y36 z36
      obtain ⟨rfl, e36, Nq36⟩ := hQ36
      have N36 := Fr.app N7 Nq36
      refine own_tr st36 ?_
      show own_G p e below s _ _ _ (T36.setTop (mkF m 134 #[.val (Value.long x0), .second, .val (Value.int x1), .val (Value.long x2), .second, .val (Value.long x3), .second, .val (Value.int x4), .val (Value.int x5), .val (Value.int c0), .val (Value.int c1), .val (Value.int c2), .val (Value.long o2), .second, .val (Value.int z2), .val (Value.long t2), .second, .val (Value.ref b1), .val (Value.ref b5), .val (Value.int (((x5.toUInt32 >>> ((3 : Int32) &&& 31).toUInt32).toInt32) &&& (3 : Int32))), .unset] [(Value.int (0 : Int32))]))
      refine own_if_ne X36 hx hby at_134 (pc' := 141) (by decide) (by decide) (fun hb37 => by exfalso; revert hb37; decide) (fun hb37 => ?_)
      show own_G p e below s _ _ _ (T36.setTop (mkF m 137 #[.val (Value.long x0), .second, .val (Value.int x1), .val (Value.long x2), .second, .val (Value.long x3), .second, .val (Value.int x4), .val (Value.int x5), .val (Value.int c0), .val (Value.int c1), .val (Value.int c2), .val (Value.long o2), .second, .val (Value.int z2), .val (Value.long t2), .second, .val (Value.ref b1), .val (Value.ref b5), .val (Value.int (((x5.toUInt32 >>> ((3 : Int32) &&& 31).toUInt32).toInt32) &&& (3 : Int32))), .unset] []))
      refine own_iconst X36 hx hby at_137 ?_
      show own_G p e below s _ _ _ (T36.setTop (mkF m 138 #[.val (Value.long x0), .second, .val (Value.int x1), .val (Value.long x2), .second, .val (Value.long x3), .second, .val (Value.int x4), .val (Value.int x5), .val (Value.int c0), .val (Value.int c1), .val (Value.int c2), .val (Value.long o2), .second, .val (Value.int z2), .val (Value.long t2), .second, .val (Value.ref b1), .val (Value.ref b5), .val (Value.int (((x5.toUInt32 >>> ((3 : Int32) &&& 31).toUInt32).toInt32) &&& (3 : Int32))), .unset] [(Value.int (1 : Int32))]))
      refine own_goto X36 hx hby at_138 (pc' := 142) (by decide) (by decide) ?_
      show own_G p e below s _ _ _ (T36.setTop (mkF m 142 #[.val (Value.long x0), .second, .val (Value.int x1), .val (Value.long x2), .second, .val (Value.long x3), .second, .val (Value.int x4), .val (Value.int x5), .val (Value.int c0), .val (Value.int c1), .val (Value.int c2), .val (Value.long o2), .second, .val (Value.int z2), .val (Value.long t2), .second, .val (Value.ref b1), .val (Value.ref b5), .val (Value.int (((x5.toUInt32 >>> ((3 : Int32) &&& 31).toUInt32).toInt32) &&& (3 : Int32))), .unset] [(Value.int (1 : Int32))]))
      refine own_retN X36 hx hby hlk (t := .boolean) Bd.returns (by simp) at_142 (by decide) (by decide) ?_
      exact ⟨rfl, N36⟩
  show own_G p e below s _ _ _ (s₁.setTop (mkF m 0 #[.val (Value.long x0), .second, .val (Value.int x1), .val (Value.long x2), .second, .val (Value.long x3), .second, .val (Value.int x4), .val (Value.int x5), .unset, .unset, .unset, .unset, .unset, .unset, .unset, .unset, .unset, .unset, .unset, .unset] []))
  refine own_iload X0 hx hby at_0 rfl ?_
  show own_G p e below s _ _ _ (s₁.setTop (mkF m 2 #[.val (Value.long x0), .second, .val (Value.int x1), .val (Value.long x2), .second, .val (Value.long x3), .second, .val (Value.int x4), .val (Value.int x5), .unset, .unset, .unset, .unset, .unset, .unset, .unset, .unset, .unset, .unset, .unset, .unset] [(Value.int x5)]))
  refine own_iconst X0 hx hby at_2 ?_
  show own_G p e below s _ _ _ (s₁.setTop (mkF m 3 #[.val (Value.long x0), .second, .val (Value.int x1), .val (Value.long x2), .second, .val (Value.long x3), .second, .val (Value.int x4), .val (Value.int x5), .unset, .unset, .unset, .unset, .unset, .unset, .unset, .unset, .unset, .unset, .unset, .unset] [(Value.int (1 : Int32)), (Value.int x5)]))
  refine own_iand X0 hx hby at_3 ?_
  show own_G p e below s _ _ _ (s₁.setTop (mkF m 4 #[.val (Value.long x0), .second, .val (Value.int x1), .val (Value.long x2), .second, .val (Value.long x3), .second, .val (Value.int x4), .val (Value.int x5), .unset, .unset, .unset, .unset, .unset, .unset, .unset, .unset, .unset, .unset, .unset, .unset] [(Value.int (x5 &&& (1 : Int32)))]))
  refine own_if_eq X0 hx hby at_4 (pc' := 11) (by decide) (by decide) (fun hb38 => ?_) (fun hb38 => ?_)
  · show own_G p e below s _ _ _ (s₁.setTop (mkF m 11 #[.val (Value.long x0), .second, .val (Value.int x1), .val (Value.long x2), .second, .val (Value.long x3), .second, .val (Value.int x4), .val (Value.int x5), .unset, .unset, .unset, .unset, .unset, .unset, .unset, .unset, .unset, .unset, .unset, .unset] []))
    refine own_iconst X0 hx hby at_11 ?_
    show own_G p e below s _ _ _ (s₁.setTop (mkF m 12 #[.val (Value.long x0), .second, .val (Value.int x1), .val (Value.long x2), .second, .val (Value.long x3), .second, .val (Value.int x4), .val (Value.int x5), .unset, .unset, .unset, .unset, .unset, .unset, .unset, .unset, .unset, .unset, .unset, .unset] [(Value.int (0 : Int32))]))
    refine own_istore X0 hx hby at_12 (l' := #[.val (Value.long x0), .second, .val (Value.int x1), .val (Value.long x2), .second, .val (Value.long x3), .second, .val (Value.int x4), .val (Value.int x5), .val (Value.int (0 : Int32)), .unset, .unset, .unset, .unset, .unset, .unset, .unset, .unset, .unset, .unset, .unset]) rfl ?_
    show own_G p e below s _ _ _ (s₁.setTop (mkF m 14 #[.val (Value.long x0), .second, .val (Value.int x1), .val (Value.long x2), .second, .val (Value.long x3), .second, .val (Value.int x4), .val (Value.int x5), .val (Value.int (0 : Int32)), .unset, .unset, .unset, .unset, .unset, .unset, .unset, .unset, .unset, .unset, .unset] []))
    refine own_iload X0 hx hby at_14 rfl ?_
    show own_G p e below s _ _ _ (s₁.setTop (mkF m 16 #[.val (Value.long x0), .second, .val (Value.int x1), .val (Value.long x2), .second, .val (Value.long x3), .second, .val (Value.int x4), .val (Value.int x5), .val (Value.int (0 : Int32)), .unset, .unset, .unset, .unset, .unset, .unset, .unset, .unset, .unset, .unset, .unset] [(Value.int x5)]))
    refine own_iconst X0 hx hby at_16 ?_
    show own_G p e below s _ _ _ (s₁.setTop (mkF m 17 #[.val (Value.long x0), .second, .val (Value.int x1), .val (Value.long x2), .second, .val (Value.long x3), .second, .val (Value.int x4), .val (Value.int x5), .val (Value.int (0 : Int32)), .unset, .unset, .unset, .unset, .unset, .unset, .unset, .unset, .unset, .unset, .unset] [(Value.int (2 : Int32)), (Value.int x5)]))
    refine own_iand X0 hx hby at_17 ?_
    show own_G p e below s _ _ _ (s₁.setTop (mkF m 18 #[.val (Value.long x0), .second, .val (Value.int x1), .val (Value.long x2), .second, .val (Value.long x3), .second, .val (Value.int x4), .val (Value.int x5), .val (Value.int (0 : Int32)), .unset, .unset, .unset, .unset, .unset, .unset, .unset, .unset, .unset, .unset, .unset] [(Value.int (x5 &&& (2 : Int32)))]))
    refine own_if_eq X0 hx hby at_18 (pc' := 25) (by decide) (by decide) (fun hb39 => ?_) (fun hb39 => ?_)
    · show own_G p e below s _ _ _ (s₁.setTop (mkF m 25 #[.val (Value.long x0), .second, .val (Value.int x1), .val (Value.long x2), .second, .val (Value.long x3), .second, .val (Value.int x4), .val (Value.int x5), .val (Value.int (0 : Int32)), .unset, .unset, .unset, .unset, .unset, .unset, .unset, .unset, .unset, .unset, .unset] []))
      refine own_iconst X0 hx hby at_25 ?_
      show own_G p e below s _ _ _ (s₁.setTop (mkF m 26 #[.val (Value.long x0), .second, .val (Value.int x1), .val (Value.long x2), .second, .val (Value.long x3), .second, .val (Value.int x4), .val (Value.int x5), .val (Value.int (0 : Int32)), .unset, .unset, .unset, .unset, .unset, .unset, .unset, .unset, .unset, .unset, .unset] [(Value.int (0 : Int32))]))
      refine own_istore X0 hx hby at_26 (l' := #[.val (Value.long x0), .second, .val (Value.int x1), .val (Value.long x2), .second, .val (Value.long x3), .second, .val (Value.int x4), .val (Value.int x5), .val (Value.int (0 : Int32)), .val (Value.int (0 : Int32)), .unset, .unset, .unset, .unset, .unset, .unset, .unset, .unset, .unset, .unset]) rfl ?_
      show own_G p e below s _ _ _ (s₁.setTop (mkF m 28 #[.val (Value.long x0), .second, .val (Value.int x1), .val (Value.long x2), .second, .val (Value.long x3), .second, .val (Value.int x4), .val (Value.int x5), .val (Value.int (0 : Int32)), .val (Value.int (0 : Int32)), .unset, .unset, .unset, .unset, .unset, .unset, .unset, .unset, .unset, .unset] []))
      refine own_iload X0 hx hby at_28 rfl ?_
      show own_G p e below s _ _ _ (s₁.setTop (mkF m 30 #[.val (Value.long x0), .second, .val (Value.int x1), .val (Value.long x2), .second, .val (Value.long x3), .second, .val (Value.int x4), .val (Value.int x5), .val (Value.int (0 : Int32)), .val (Value.int (0 : Int32)), .unset, .unset, .unset, .unset, .unset, .unset, .unset, .unset, .unset, .unset] [(Value.int x5)]))
      refine own_iconst X0 hx hby at_30 ?_
      show own_G p e below s _ _ _ (s₁.setTop (mkF m 31 #[.val (Value.long x0), .second, .val (Value.int x1), .val (Value.long x2), .second, .val (Value.long x3), .second, .val (Value.int x4), .val (Value.int x5), .val (Value.int (0 : Int32)), .val (Value.int (0 : Int32)), .unset, .unset, .unset, .unset, .unset, .unset, .unset, .unset, .unset, .unset] [(Value.int (4 : Int32)), (Value.int x5)]))
      refine own_iand X0 hx hby at_31 ?_
      show own_G p e below s _ _ _ (s₁.setTop (mkF m 32 #[.val (Value.long x0), .second, .val (Value.int x1), .val (Value.long x2), .second, .val (Value.long x3), .second, .val (Value.int x4), .val (Value.int x5), .val (Value.int (0 : Int32)), .val (Value.int (0 : Int32)), .unset, .unset, .unset, .unset, .unset, .unset, .unset, .unset, .unset, .unset] [(Value.int (x5 &&& (4 : Int32)))]))
      refine own_if_eq X0 hx hby at_32 (pc' := 39) (by decide) (by decide) (fun hb40 => ?_) (fun hb40 => ?_)
      · show own_G p e below s _ _ _ (s₁.setTop (mkF m 39 #[.val (Value.long x0), .second, .val (Value.int x1), .val (Value.long x2), .second, .val (Value.long x3), .second, .val (Value.int x4), .val (Value.int x5), .val (Value.int (0 : Int32)), .val (Value.int (0 : Int32)), .unset, .unset, .unset, .unset, .unset, .unset, .unset, .unset, .unset, .unset] []))
        refine own_iconst X0 hx hby at_39 ?_
        show own_G p e below s _ _ _ (s₁.setTop (mkF m 40 #[.val (Value.long x0), .second, .val (Value.int x1), .val (Value.long x2), .second, .val (Value.long x3), .second, .val (Value.int x4), .val (Value.int x5), .val (Value.int (0 : Int32)), .val (Value.int (0 : Int32)), .unset, .unset, .unset, .unset, .unset, .unset, .unset, .unset, .unset, .unset] [(Value.int (0 : Int32))]))
        refine own_istore X0 hx hby at_40 (l' := #[.val (Value.long x0), .second, .val (Value.int x1), .val (Value.long x2), .second, .val (Value.long x3), .second, .val (Value.int x4), .val (Value.int x5), .val (Value.int (0 : Int32)), .val (Value.int (0 : Int32)), .val (Value.int (0 : Int32)), .unset, .unset, .unset, .unset, .unset, .unset, .unset, .unset, .unset]) rfl ?_
        show own_G p e below s _ _ _ (s₁.setTop (mkF m 42 #[.val (Value.long x0), .second, .val (Value.int x1), .val (Value.long x2), .second, .val (Value.long x3), .second, .val (Value.int x4), .val (Value.int x5), .val (Value.int (0 : Int32)), .val (Value.int (0 : Int32)), .val (Value.int (0 : Int32)), .unset, .unset, .unset, .unset, .unset, .unset, .unset, .unset, .unset] []))
        refine own_iload X0 hx hby at_42 rfl ?_
        show own_G p e below s _ _ _ (s₁.setTop (mkF m 44 #[.val (Value.long x0), .second, .val (Value.int x1), .val (Value.long x2), .second, .val (Value.long x3), .second, .val (Value.int x4), .val (Value.int x5), .val (Value.int (0 : Int32)), .val (Value.int (0 : Int32)), .val (Value.int (0 : Int32)), .unset, .unset, .unset, .unset, .unset, .unset, .unset, .unset, .unset] [(Value.int (0 : Int32))]))
        refine own_if_eq X0 hx hby at_44 (pc' := 54) (by decide) (by decide) (fun hb41 => ?_) (fun hb41 => by exfalso; revert hb41; decide)
        show own_G p e below s _ _ _ (s₁.setTop (mkF m 54 #[.val (Value.long x0), .second, .val (Value.int x1), .val (Value.long x2), .second, .val (Value.long x3), .second, .val (Value.int x4), .val (Value.int x5), .val (Value.int (0 : Int32)), .val (Value.int (0 : Int32)), .val (Value.int (0 : Int32)), .unset, .unset, .unset, .unset, .unset, .unset, .unset, .unset, .unset] []))
        refine own_lloadN X0 hx hby at_54 rfl ?_
        show own_G p e below s _ _ _ (s₁.setTop (mkF m 55 #[.val (Value.long x0), .second, .val (Value.int x1), .val (Value.long x2), .second, .val (Value.long x3), .second, .val (Value.int x4), .val (Value.int x5), .val (Value.int (0 : Int32)), .val (Value.int (0 : Int32)), .val (Value.int (0 : Int32)), .unset, .unset, .unset, .unset, .unset, .unset, .unset, .unset, .unset] [(Value.long x0)]))
        refine own_lstore X0 hx hby at_55 (l' := #[.val (Value.long x0), .second, .val (Value.int x1), .val (Value.long x2), .second, .val (Value.long x3), .second, .val (Value.int x4), .val (Value.int x5), .val (Value.int (0 : Int32)), .val (Value.int (0 : Int32)), .val (Value.int (0 : Int32)), .val (Value.long x0), .second, .unset, .unset, .unset, .unset, .unset, .unset, .unset]) rfl ?_
        show own_G p e below s _ _ _ (s₁.setTop (mkF m 57 #[.val (Value.long x0), .second, .val (Value.int x1), .val (Value.long x2), .second, .val (Value.long x3), .second, .val (Value.int x4), .val (Value.int x5), .val (Value.int (0 : Int32)), .val (Value.int (0 : Int32)), .val (Value.int (0 : Int32)), .val (Value.long x0), .second, .unset, .unset, .unset, .unset, .unset, .unset, .unset] []))
        refine own_iload X0 hx hby at_57 rfl ?_
        show own_G p e below s _ _ _ (s₁.setTop (mkF m 59 #[.val (Value.long x0), .second, .val (Value.int x1), .val (Value.long x2), .second, .val (Value.long x3), .second, .val (Value.int x4), .val (Value.int x5), .val (Value.int (0 : Int32)), .val (Value.int (0 : Int32)), .val (Value.int (0 : Int32)), .val (Value.long x0), .second, .unset, .unset, .unset, .unset, .unset, .unset, .unset] [(Value.int (0 : Int32))]))
        refine own_if_eq X0 hx hby at_59 (pc' := 69) (by decide) (by decide) (fun hb42 => ?_) (fun hb42 => by exfalso; revert hb42; decide)
        show own_G p e below s _ _ _ (s₁.setTop (mkF m 69 #[.val (Value.long x0), .second, .val (Value.int x1), .val (Value.long x2), .second, .val (Value.long x3), .second, .val (Value.int x4), .val (Value.int x5), .val (Value.int (0 : Int32)), .val (Value.int (0 : Int32)), .val (Value.int (0 : Int32)), .val (Value.long x0), .second, .unset, .unset, .unset, .unset, .unset, .unset, .unset] []))
        refine own_iloadN X0 hx hby at_69 rfl ?_
        show own_G p e below s _ _ _ (s₁.setTop (mkF m 70 #[.val (Value.long x0), .second, .val (Value.int x1), .val (Value.long x2), .second, .val (Value.long x3), .second, .val (Value.int x4), .val (Value.int x5), .val (Value.int (0 : Int32)), .val (Value.int (0 : Int32)), .val (Value.int (0 : Int32)), .val (Value.long x0), .second, .unset, .unset, .unset, .unset, .unset, .unset, .unset] [(Value.int x1)]))
        refine own_istore X0 hx hby at_70 (l' := #[.val (Value.long x0), .second, .val (Value.int x1), .val (Value.long x2), .second, .val (Value.long x3), .second, .val (Value.int x4), .val (Value.int x5), .val (Value.int (0 : Int32)), .val (Value.int (0 : Int32)), .val (Value.int (0 : Int32)), .val (Value.long x0), .second, .val (Value.int x1), .unset, .unset, .unset, .unset, .unset, .unset]) rfl ?_
        show own_G p e below s _ _ _ (s₁.setTop (mkF m 72 #[.val (Value.long x0), .second, .val (Value.int x1), .val (Value.long x2), .second, .val (Value.long x3), .second, .val (Value.int x4), .val (Value.int x5), .val (Value.int (0 : Int32)), .val (Value.int (0 : Int32)), .val (Value.int (0 : Int32)), .val (Value.long x0), .second, .val (Value.int x1), .unset, .unset, .unset, .unset, .unset, .unset] []))
        refine own_iload X0 hx hby at_72 rfl ?_
        show own_G p e below s _ _ _ (s₁.setTop (mkF m 74 #[.val (Value.long x0), .second, .val (Value.int x1), .val (Value.long x2), .second, .val (Value.long x3), .second, .val (Value.int x4), .val (Value.int x5), .val (Value.int (0 : Int32)), .val (Value.int (0 : Int32)), .val (Value.int (0 : Int32)), .val (Value.long x0), .second, .val (Value.int x1), .unset, .unset, .unset, .unset, .unset, .unset] [(Value.int (0 : Int32))]))
        refine own_if_eq X0 hx hby at_74 (pc' := 84) (by decide) (by decide) (fun hb43 => ?_) (fun hb43 => by exfalso; revert hb43; decide)
        show own_G p e below s _ _ _ (s₁.setTop (mkF m 84 #[.val (Value.long x0), .second, .val (Value.int x1), .val (Value.long x2), .second, .val (Value.long x3), .second, .val (Value.int x4), .val (Value.int x5), .val (Value.int (0 : Int32)), .val (Value.int (0 : Int32)), .val (Value.int (0 : Int32)), .val (Value.long x0), .second, .val (Value.int x1), .unset, .unset, .unset, .unset, .unset, .unset] []))
        refine own_lloadN X0 hx hby at_84 rfl ?_
        show own_G p e below s _ _ _ (s₁.setTop (mkF m 85 #[.val (Value.long x0), .second, .val (Value.int x1), .val (Value.long x2), .second, .val (Value.long x3), .second, .val (Value.int x4), .val (Value.int x5), .val (Value.int (0 : Int32)), .val (Value.int (0 : Int32)), .val (Value.int (0 : Int32)), .val (Value.long x0), .second, .val (Value.int x1), .unset, .unset, .unset, .unset, .unset, .unset] [(Value.long x2)]))
        refine own_lstore X0 hx hby at_85 (l' := #[.val (Value.long x0), .second, .val (Value.int x1), .val (Value.long x2), .second, .val (Value.long x3), .second, .val (Value.int x4), .val (Value.int x5), .val (Value.int (0 : Int32)), .val (Value.int (0 : Int32)), .val (Value.int (0 : Int32)), .val (Value.long x0), .second, .val (Value.int x1), .val (Value.long x2), .second, .unset, .unset, .unset, .unset]) rfl ?_
        show own_G p e below s _ _ _ (s₁.setTop (mkF m 87 #[.val (Value.long x0), .second, .val (Value.int x1), .val (Value.long x2), .second, .val (Value.long x3), .second, .val (Value.int x4), .val (Value.int x5), .val (Value.int (0 : Int32)), .val (Value.int (0 : Int32)), .val (Value.int (0 : Int32)), .val (Value.long x0), .second, .val (Value.int x1), .val (Value.long x2), .second, .unset, .unset, .unset, .unset] []))
        exact Jn _ _ _ _ _ _
      · show own_G p e below s _ _ _ (s₁.setTop (mkF m 35 #[.val (Value.long x0), .second, .val (Value.int x1), .val (Value.long x2), .second, .val (Value.long x3), .second, .val (Value.int x4), .val (Value.int x5), .val (Value.int (0 : Int32)), .val (Value.int (0 : Int32)), .unset, .unset, .unset, .unset, .unset, .unset, .unset, .unset, .unset, .unset] []))
        refine own_iconst X0 hx hby at_35 ?_
        show own_G p e below s _ _ _ (s₁.setTop (mkF m 36 #[.val (Value.long x0), .second, .val (Value.int x1), .val (Value.long x2), .second, .val (Value.long x3), .second, .val (Value.int x4), .val (Value.int x5), .val (Value.int (0 : Int32)), .val (Value.int (0 : Int32)), .unset, .unset, .unset, .unset, .unset, .unset, .unset, .unset, .unset, .unset] [(Value.int (1 : Int32))]))
        refine own_goto X0 hx hby at_36 (pc' := 40) (by decide) (by decide) ?_
        show own_G p e below s _ _ _ (s₁.setTop (mkF m 40 #[.val (Value.long x0), .second, .val (Value.int x1), .val (Value.long x2), .second, .val (Value.long x3), .second, .val (Value.int x4), .val (Value.int x5), .val (Value.int (0 : Int32)), .val (Value.int (0 : Int32)), .unset, .unset, .unset, .unset, .unset, .unset, .unset, .unset, .unset, .unset] [(Value.int (1 : Int32))]))
        refine own_istore X0 hx hby at_40 (l' := #[.val (Value.long x0), .second, .val (Value.int x1), .val (Value.long x2), .second, .val (Value.long x3), .second, .val (Value.int x4), .val (Value.int x5), .val (Value.int (0 : Int32)), .val (Value.int (0 : Int32)), .val (Value.int (1 : Int32)), .unset, .unset, .unset, .unset, .unset, .unset, .unset, .unset, .unset]) rfl ?_
        show own_G p e below s _ _ _ (s₁.setTop (mkF m 42 #[.val (Value.long x0), .second, .val (Value.int x1), .val (Value.long x2), .second, .val (Value.long x3), .second, .val (Value.int x4), .val (Value.int x5), .val (Value.int (0 : Int32)), .val (Value.int (0 : Int32)), .val (Value.int (1 : Int32)), .unset, .unset, .unset, .unset, .unset, .unset, .unset, .unset, .unset] []))
        refine own_iload X0 hx hby at_42 rfl ?_
        show own_G p e below s _ _ _ (s₁.setTop (mkF m 44 #[.val (Value.long x0), .second, .val (Value.int x1), .val (Value.long x2), .second, .val (Value.long x3), .second, .val (Value.int x4), .val (Value.int x5), .val (Value.int (0 : Int32)), .val (Value.int (0 : Int32)), .val (Value.int (1 : Int32)), .unset, .unset, .unset, .unset, .unset, .unset, .unset, .unset, .unset] [(Value.int (0 : Int32))]))
        refine own_if_eq X0 hx hby at_44 (pc' := 54) (by decide) (by decide) (fun hb44 => ?_) (fun hb44 => by exfalso; revert hb44; decide)
        show own_G p e below s _ _ _ (s₁.setTop (mkF m 54 #[.val (Value.long x0), .second, .val (Value.int x1), .val (Value.long x2), .second, .val (Value.long x3), .second, .val (Value.int x4), .val (Value.int x5), .val (Value.int (0 : Int32)), .val (Value.int (0 : Int32)), .val (Value.int (1 : Int32)), .unset, .unset, .unset, .unset, .unset, .unset, .unset, .unset, .unset] []))
        refine own_lloadN X0 hx hby at_54 rfl ?_
        show own_G p e below s _ _ _ (s₁.setTop (mkF m 55 #[.val (Value.long x0), .second, .val (Value.int x1), .val (Value.long x2), .second, .val (Value.long x3), .second, .val (Value.int x4), .val (Value.int x5), .val (Value.int (0 : Int32)), .val (Value.int (0 : Int32)), .val (Value.int (1 : Int32)), .unset, .unset, .unset, .unset, .unset, .unset, .unset, .unset, .unset] [(Value.long x0)]))
        refine own_lstore X0 hx hby at_55 (l' := #[.val (Value.long x0), .second, .val (Value.int x1), .val (Value.long x2), .second, .val (Value.long x3), .second, .val (Value.int x4), .val (Value.int x5), .val (Value.int (0 : Int32)), .val (Value.int (0 : Int32)), .val (Value.int (1 : Int32)), .val (Value.long x0), .second, .unset, .unset, .unset, .unset, .unset, .unset, .unset]) rfl ?_
        show own_G p e below s _ _ _ (s₁.setTop (mkF m 57 #[.val (Value.long x0), .second, .val (Value.int x1), .val (Value.long x2), .second, .val (Value.long x3), .second, .val (Value.int x4), .val (Value.int x5), .val (Value.int (0 : Int32)), .val (Value.int (0 : Int32)), .val (Value.int (1 : Int32)), .val (Value.long x0), .second, .unset, .unset, .unset, .unset, .unset, .unset, .unset] []))
        refine own_iload X0 hx hby at_57 rfl ?_
        show own_G p e below s _ _ _ (s₁.setTop (mkF m 59 #[.val (Value.long x0), .second, .val (Value.int x1), .val (Value.long x2), .second, .val (Value.long x3), .second, .val (Value.int x4), .val (Value.int x5), .val (Value.int (0 : Int32)), .val (Value.int (0 : Int32)), .val (Value.int (1 : Int32)), .val (Value.long x0), .second, .unset, .unset, .unset, .unset, .unset, .unset, .unset] [(Value.int (0 : Int32))]))
        refine own_if_eq X0 hx hby at_59 (pc' := 69) (by decide) (by decide) (fun hb45 => ?_) (fun hb45 => by exfalso; revert hb45; decide)
        show own_G p e below s _ _ _ (s₁.setTop (mkF m 69 #[.val (Value.long x0), .second, .val (Value.int x1), .val (Value.long x2), .second, .val (Value.long x3), .second, .val (Value.int x4), .val (Value.int x5), .val (Value.int (0 : Int32)), .val (Value.int (0 : Int32)), .val (Value.int (1 : Int32)), .val (Value.long x0), .second, .unset, .unset, .unset, .unset, .unset, .unset, .unset] []))
        refine own_iloadN X0 hx hby at_69 rfl ?_
        show own_G p e below s _ _ _ (s₁.setTop (mkF m 70 #[.val (Value.long x0), .second, .val (Value.int x1), .val (Value.long x2), .second, .val (Value.long x3), .second, .val (Value.int x4), .val (Value.int x5), .val (Value.int (0 : Int32)), .val (Value.int (0 : Int32)), .val (Value.int (1 : Int32)), .val (Value.long x0), .second, .unset, .unset, .unset, .unset, .unset, .unset, .unset] [(Value.int x1)]))
        refine own_istore X0 hx hby at_70 (l' := #[.val (Value.long x0), .second, .val (Value.int x1), .val (Value.long x2), .second, .val (Value.long x3), .second, .val (Value.int x4), .val (Value.int x5), .val (Value.int (0 : Int32)), .val (Value.int (0 : Int32)), .val (Value.int (1 : Int32)), .val (Value.long x0), .second, .val (Value.int x1), .unset, .unset, .unset, .unset, .unset, .unset]) rfl ?_
        show own_G p e below s _ _ _ (s₁.setTop (mkF m 72 #[.val (Value.long x0), .second, .val (Value.int x1), .val (Value.long x2), .second, .val (Value.long x3), .second, .val (Value.int x4), .val (Value.int x5), .val (Value.int (0 : Int32)), .val (Value.int (0 : Int32)), .val (Value.int (1 : Int32)), .val (Value.long x0), .second, .val (Value.int x1), .unset, .unset, .unset, .unset, .unset, .unset] []))
        refine own_iload X0 hx hby at_72 rfl ?_
        show own_G p e below s _ _ _ (s₁.setTop (mkF m 74 #[.val (Value.long x0), .second, .val (Value.int x1), .val (Value.long x2), .second, .val (Value.long x3), .second, .val (Value.int x4), .val (Value.int x5), .val (Value.int (0 : Int32)), .val (Value.int (0 : Int32)), .val (Value.int (1 : Int32)), .val (Value.long x0), .second, .val (Value.int x1), .unset, .unset, .unset, .unset, .unset, .unset] [(Value.int (1 : Int32))]))
        refine own_if_eq X0 hx hby at_74 (pc' := 84) (by decide) (by decide) (fun hb46 => by exfalso; revert hb46; decide) (fun hb46 => ?_)
        show own_G p e below s _ _ _ (s₁.setTop (mkF m 77 #[.val (Value.long x0), .second, .val (Value.int x1), .val (Value.long x2), .second, .val (Value.long x3), .second, .val (Value.int x4), .val (Value.int x5), .val (Value.int (0 : Int32)), .val (Value.int (0 : Int32)), .val (Value.int (1 : Int32)), .val (Value.long x0), .second, .val (Value.int x1), .unset, .unset, .unset, .unset, .unset, .unset] []))
        refine own_lloadN X0 hx hby at_77 rfl ?_
        show own_G p e below s _ _ _ (s₁.setTop (mkF m 78 #[.val (Value.long x0), .second, .val (Value.int x1), .val (Value.long x2), .second, .val (Value.long x3), .second, .val (Value.int x4), .val (Value.int x5), .val (Value.int (0 : Int32)), .val (Value.int (0 : Int32)), .val (Value.int (1 : Int32)), .val (Value.long x0), .second, .val (Value.int x1), .unset, .unset, .unset, .unset, .unset, .unset] [(Value.long x2)]))
        refine own_lload X0 hx hby at_78 rfl ?_
        show own_G p e below s _ _ _ (s₁.setTop (mkF m 80 #[.val (Value.long x0), .second, .val (Value.int x1), .val (Value.long x2), .second, .val (Value.long x3), .second, .val (Value.int x4), .val (Value.int x5), .val (Value.int (0 : Int32)), .val (Value.int (0 : Int32)), .val (Value.int (1 : Int32)), .val (Value.long x0), .second, .val (Value.int x1), .unset, .unset, .unset, .unset, .unset, .unset] [(Value.long x3), (Value.long x2)]))
        refine own_lxor X0 hx hby at_80 ?_
        show own_G p e below s _ _ _ (s₁.setTop (mkF m 81 #[.val (Value.long x0), .second, .val (Value.int x1), .val (Value.long x2), .second, .val (Value.long x3), .second, .val (Value.int x4), .val (Value.int x5), .val (Value.int (0 : Int32)), .val (Value.int (0 : Int32)), .val (Value.int (1 : Int32)), .val (Value.long x0), .second, .val (Value.int x1), .unset, .unset, .unset, .unset, .unset, .unset] [(Value.long (x2 ^^^ x3))]))
        refine own_goto X0 hx hby at_81 (pc' := 85) (by decide) (by decide) ?_
        show own_G p e below s _ _ _ (s₁.setTop (mkF m 85 #[.val (Value.long x0), .second, .val (Value.int x1), .val (Value.long x2), .second, .val (Value.long x3), .second, .val (Value.int x4), .val (Value.int x5), .val (Value.int (0 : Int32)), .val (Value.int (0 : Int32)), .val (Value.int (1 : Int32)), .val (Value.long x0), .second, .val (Value.int x1), .unset, .unset, .unset, .unset, .unset, .unset] [(Value.long (x2 ^^^ x3))]))
        refine own_lstore X0 hx hby at_85 (l' := #[.val (Value.long x0), .second, .val (Value.int x1), .val (Value.long x2), .second, .val (Value.long x3), .second, .val (Value.int x4), .val (Value.int x5), .val (Value.int (0 : Int32)), .val (Value.int (0 : Int32)), .val (Value.int (1 : Int32)), .val (Value.long x0), .second, .val (Value.int x1), .val (Value.long (x2 ^^^ x3)), .second, .unset, .unset, .unset, .unset]) rfl ?_
        show own_G p e below s _ _ _ (s₁.setTop (mkF m 87 #[.val (Value.long x0), .second, .val (Value.int x1), .val (Value.long x2), .second, .val (Value.long x3), .second, .val (Value.int x4), .val (Value.int x5), .val (Value.int (0 : Int32)), .val (Value.int (0 : Int32)), .val (Value.int (1 : Int32)), .val (Value.long x0), .second, .val (Value.int x1), .val (Value.long (x2 ^^^ x3)), .second, .unset, .unset, .unset, .unset] []))
        exact Jn _ _ _ _ _ _
    · show own_G p e below s _ _ _ (s₁.setTop (mkF m 21 #[.val (Value.long x0), .second, .val (Value.int x1), .val (Value.long x2), .second, .val (Value.long x3), .second, .val (Value.int x4), .val (Value.int x5), .val (Value.int (0 : Int32)), .unset, .unset, .unset, .unset, .unset, .unset, .unset, .unset, .unset, .unset, .unset] []))
      refine own_iconst X0 hx hby at_21 ?_
      show own_G p e below s _ _ _ (s₁.setTop (mkF m 22 #[.val (Value.long x0), .second, .val (Value.int x1), .val (Value.long x2), .second, .val (Value.long x3), .second, .val (Value.int x4), .val (Value.int x5), .val (Value.int (0 : Int32)), .unset, .unset, .unset, .unset, .unset, .unset, .unset, .unset, .unset, .unset, .unset] [(Value.int (1 : Int32))]))
      refine own_goto X0 hx hby at_22 (pc' := 26) (by decide) (by decide) ?_
      show own_G p e below s _ _ _ (s₁.setTop (mkF m 26 #[.val (Value.long x0), .second, .val (Value.int x1), .val (Value.long x2), .second, .val (Value.long x3), .second, .val (Value.int x4), .val (Value.int x5), .val (Value.int (0 : Int32)), .unset, .unset, .unset, .unset, .unset, .unset, .unset, .unset, .unset, .unset, .unset] [(Value.int (1 : Int32))]))
      refine own_istore X0 hx hby at_26 (l' := #[.val (Value.long x0), .second, .val (Value.int x1), .val (Value.long x2), .second, .val (Value.long x3), .second, .val (Value.int x4), .val (Value.int x5), .val (Value.int (0 : Int32)), .val (Value.int (1 : Int32)), .unset, .unset, .unset, .unset, .unset, .unset, .unset, .unset, .unset, .unset]) rfl ?_
      show own_G p e below s _ _ _ (s₁.setTop (mkF m 28 #[.val (Value.long x0), .second, .val (Value.int x1), .val (Value.long x2), .second, .val (Value.long x3), .second, .val (Value.int x4), .val (Value.int x5), .val (Value.int (0 : Int32)), .val (Value.int (1 : Int32)), .unset, .unset, .unset, .unset, .unset, .unset, .unset, .unset, .unset, .unset] []))
      refine own_iload X0 hx hby at_28 rfl ?_
      show own_G p e below s _ _ _ (s₁.setTop (mkF m 30 #[.val (Value.long x0), .second, .val (Value.int x1), .val (Value.long x2), .second, .val (Value.long x3), .second, .val (Value.int x4), .val (Value.int x5), .val (Value.int (0 : Int32)), .val (Value.int (1 : Int32)), .unset, .unset, .unset, .unset, .unset, .unset, .unset, .unset, .unset, .unset] [(Value.int x5)]))
      refine own_iconst X0 hx hby at_30 ?_
      show own_G p e below s _ _ _ (s₁.setTop (mkF m 31 #[.val (Value.long x0), .second, .val (Value.int x1), .val (Value.long x2), .second, .val (Value.long x3), .second, .val (Value.int x4), .val (Value.int x5), .val (Value.int (0 : Int32)), .val (Value.int (1 : Int32)), .unset, .unset, .unset, .unset, .unset, .unset, .unset, .unset, .unset, .unset] [(Value.int (4 : Int32)), (Value.int x5)]))
      refine own_iand X0 hx hby at_31 ?_
      show own_G p e below s _ _ _ (s₁.setTop (mkF m 32 #[.val (Value.long x0), .second, .val (Value.int x1), .val (Value.long x2), .second, .val (Value.long x3), .second, .val (Value.int x4), .val (Value.int x5), .val (Value.int (0 : Int32)), .val (Value.int (1 : Int32)), .unset, .unset, .unset, .unset, .unset, .unset, .unset, .unset, .unset, .unset] [(Value.int (x5 &&& (4 : Int32)))]))
      refine own_if_eq X0 hx hby at_32 (pc' := 39) (by decide) (by decide) (fun hb47 => ?_) (fun hb47 => ?_)
      · show own_G p e below s _ _ _ (s₁.setTop (mkF m 39 #[.val (Value.long x0), .second, .val (Value.int x1), .val (Value.long x2), .second, .val (Value.long x3), .second, .val (Value.int x4), .val (Value.int x5), .val (Value.int (0 : Int32)), .val (Value.int (1 : Int32)), .unset, .unset, .unset, .unset, .unset, .unset, .unset, .unset, .unset, .unset] []))
        refine own_iconst X0 hx hby at_39 ?_
        show own_G p e below s _ _ _ (s₁.setTop (mkF m 40 #[.val (Value.long x0), .second, .val (Value.int x1), .val (Value.long x2), .second, .val (Value.long x3), .second, .val (Value.int x4), .val (Value.int x5), .val (Value.int (0 : Int32)), .val (Value.int (1 : Int32)), .unset, .unset, .unset, .unset, .unset, .unset, .unset, .unset, .unset, .unset] [(Value.int (0 : Int32))]))
        refine own_istore X0 hx hby at_40 (l' := #[.val (Value.long x0), .second, .val (Value.int x1), .val (Value.long x2), .second, .val (Value.long x3), .second, .val (Value.int x4), .val (Value.int x5), .val (Value.int (0 : Int32)), .val (Value.int (1 : Int32)), .val (Value.int (0 : Int32)), .unset, .unset, .unset, .unset, .unset, .unset, .unset, .unset, .unset]) rfl ?_
        show own_G p e below s _ _ _ (s₁.setTop (mkF m 42 #[.val (Value.long x0), .second, .val (Value.int x1), .val (Value.long x2), .second, .val (Value.long x3), .second, .val (Value.int x4), .val (Value.int x5), .val (Value.int (0 : Int32)), .val (Value.int (1 : Int32)), .val (Value.int (0 : Int32)), .unset, .unset, .unset, .unset, .unset, .unset, .unset, .unset, .unset] []))
        refine own_iload X0 hx hby at_42 rfl ?_
        show own_G p e below s _ _ _ (s₁.setTop (mkF m 44 #[.val (Value.long x0), .second, .val (Value.int x1), .val (Value.long x2), .second, .val (Value.long x3), .second, .val (Value.int x4), .val (Value.int x5), .val (Value.int (0 : Int32)), .val (Value.int (1 : Int32)), .val (Value.int (0 : Int32)), .unset, .unset, .unset, .unset, .unset, .unset, .unset, .unset, .unset] [(Value.int (0 : Int32))]))
        refine own_if_eq X0 hx hby at_44 (pc' := 54) (by decide) (by decide) (fun hb48 => ?_) (fun hb48 => by exfalso; revert hb48; decide)
        show own_G p e below s _ _ _ (s₁.setTop (mkF m 54 #[.val (Value.long x0), .second, .val (Value.int x1), .val (Value.long x2), .second, .val (Value.long x3), .second, .val (Value.int x4), .val (Value.int x5), .val (Value.int (0 : Int32)), .val (Value.int (1 : Int32)), .val (Value.int (0 : Int32)), .unset, .unset, .unset, .unset, .unset, .unset, .unset, .unset, .unset] []))
        refine own_lloadN X0 hx hby at_54 rfl ?_
        show own_G p e below s _ _ _ (s₁.setTop (mkF m 55 #[.val (Value.long x0), .second, .val (Value.int x1), .val (Value.long x2), .second, .val (Value.long x3), .second, .val (Value.int x4), .val (Value.int x5), .val (Value.int (0 : Int32)), .val (Value.int (1 : Int32)), .val (Value.int (0 : Int32)), .unset, .unset, .unset, .unset, .unset, .unset, .unset, .unset, .unset] [(Value.long x0)]))
        refine own_lstore X0 hx hby at_55 (l' := #[.val (Value.long x0), .second, .val (Value.int x1), .val (Value.long x2), .second, .val (Value.long x3), .second, .val (Value.int x4), .val (Value.int x5), .val (Value.int (0 : Int32)), .val (Value.int (1 : Int32)), .val (Value.int (0 : Int32)), .val (Value.long x0), .second, .unset, .unset, .unset, .unset, .unset, .unset, .unset]) rfl ?_
        show own_G p e below s _ _ _ (s₁.setTop (mkF m 57 #[.val (Value.long x0), .second, .val (Value.int x1), .val (Value.long x2), .second, .val (Value.long x3), .second, .val (Value.int x4), .val (Value.int x5), .val (Value.int (0 : Int32)), .val (Value.int (1 : Int32)), .val (Value.int (0 : Int32)), .val (Value.long x0), .second, .unset, .unset, .unset, .unset, .unset, .unset, .unset] []))
        refine own_iload X0 hx hby at_57 rfl ?_
        show own_G p e below s _ _ _ (s₁.setTop (mkF m 59 #[.val (Value.long x0), .second, .val (Value.int x1), .val (Value.long x2), .second, .val (Value.long x3), .second, .val (Value.int x4), .val (Value.int x5), .val (Value.int (0 : Int32)), .val (Value.int (1 : Int32)), .val (Value.int (0 : Int32)), .val (Value.long x0), .second, .unset, .unset, .unset, .unset, .unset, .unset, .unset] [(Value.int (1 : Int32))]))
        refine own_if_eq X0 hx hby at_59 (pc' := 69) (by decide) (by decide) (fun hb49 => by exfalso; revert hb49; decide) (fun hb49 => ?_)
        show own_G p e below s _ _ _ (s₁.setTop (mkF m 62 #[.val (Value.long x0), .second, .val (Value.int x1), .val (Value.long x2), .second, .val (Value.long x3), .second, .val (Value.int x4), .val (Value.int x5), .val (Value.int (0 : Int32)), .val (Value.int (1 : Int32)), .val (Value.int (0 : Int32)), .val (Value.long x0), .second, .unset, .unset, .unset, .unset, .unset, .unset, .unset] []))
        refine own_iloadN X0 hx hby at_62 rfl ?_
        show own_G p e below s _ _ _ (s₁.setTop (mkF m 63 #[.val (Value.long x0), .second, .val (Value.int x1), .val (Value.long x2), .second, .val (Value.long x3), .second, .val (Value.int x4), .val (Value.int x5), .val (Value.int (0 : Int32)), .val (Value.int (1 : Int32)), .val (Value.int (0 : Int32)), .val (Value.long x0), .second, .unset, .unset, .unset, .unset, .unset, .unset, .unset] [(Value.int x1)]))
        refine own_iload X0 hx hby at_63 rfl ?_
        show own_G p e below s _ _ _ (s₁.setTop (mkF m 65 #[.val (Value.long x0), .second, .val (Value.int x1), .val (Value.long x2), .second, .val (Value.long x3), .second, .val (Value.int x4), .val (Value.int x5), .val (Value.int (0 : Int32)), .val (Value.int (1 : Int32)), .val (Value.int (0 : Int32)), .val (Value.long x0), .second, .unset, .unset, .unset, .unset, .unset, .unset, .unset] [(Value.int x4), (Value.int x1)]))
        refine own_iadd X0 hx hby at_65 ?_
        show own_G p e below s _ _ _ (s₁.setTop (mkF m 66 #[.val (Value.long x0), .second, .val (Value.int x1), .val (Value.long x2), .second, .val (Value.long x3), .second, .val (Value.int x4), .val (Value.int x5), .val (Value.int (0 : Int32)), .val (Value.int (1 : Int32)), .val (Value.int (0 : Int32)), .val (Value.long x0), .second, .unset, .unset, .unset, .unset, .unset, .unset, .unset] [(Value.int (x1 + x4))]))
        refine own_goto X0 hx hby at_66 (pc' := 70) (by decide) (by decide) ?_
        show own_G p e below s _ _ _ (s₁.setTop (mkF m 70 #[.val (Value.long x0), .second, .val (Value.int x1), .val (Value.long x2), .second, .val (Value.long x3), .second, .val (Value.int x4), .val (Value.int x5), .val (Value.int (0 : Int32)), .val (Value.int (1 : Int32)), .val (Value.int (0 : Int32)), .val (Value.long x0), .second, .unset, .unset, .unset, .unset, .unset, .unset, .unset] [(Value.int (x1 + x4))]))
        refine own_istore X0 hx hby at_70 (l' := #[.val (Value.long x0), .second, .val (Value.int x1), .val (Value.long x2), .second, .val (Value.long x3), .second, .val (Value.int x4), .val (Value.int x5), .val (Value.int (0 : Int32)), .val (Value.int (1 : Int32)), .val (Value.int (0 : Int32)), .val (Value.long x0), .second, .val (Value.int (x1 + x4)), .unset, .unset, .unset, .unset, .unset, .unset]) rfl ?_
        show own_G p e below s _ _ _ (s₁.setTop (mkF m 72 #[.val (Value.long x0), .second, .val (Value.int x1), .val (Value.long x2), .second, .val (Value.long x3), .second, .val (Value.int x4), .val (Value.int x5), .val (Value.int (0 : Int32)), .val (Value.int (1 : Int32)), .val (Value.int (0 : Int32)), .val (Value.long x0), .second, .val (Value.int (x1 + x4)), .unset, .unset, .unset, .unset, .unset, .unset] []))
        refine own_iload X0 hx hby at_72 rfl ?_
        show own_G p e below s _ _ _ (s₁.setTop (mkF m 74 #[.val (Value.long x0), .second, .val (Value.int x1), .val (Value.long x2), .second, .val (Value.long x3), .second, .val (Value.int x4), .val (Value.int x5), .val (Value.int (0 : Int32)), .val (Value.int (1 : Int32)), .val (Value.int (0 : Int32)), .val (Value.long x0), .second, .val (Value.int (x1 + x4)), .unset, .unset, .unset, .unset, .unset, .unset] [(Value.int (0 : Int32))]))
        refine own_if_eq X0 hx hby at_74 (pc' := 84) (by decide) (by decide) (fun hb50 => ?_) (fun hb50 => by exfalso; revert hb50; decide)
        show own_G p e below s _ _ _ (s₁.setTop (mkF m 84 #[.val (Value.long x0), .second, .val (Value.int x1), .val (Value.long x2), .second, .val (Value.long x3), .second, .val (Value.int x4), .val (Value.int x5), .val (Value.int (0 : Int32)), .val (Value.int (1 : Int32)), .val (Value.int (0 : Int32)), .val (Value.long x0), .second, .val (Value.int (x1 + x4)), .unset, .unset, .unset, .unset, .unset, .unset] []))
        refine own_lloadN X0 hx hby at_84 rfl ?_
        show own_G p e below s _ _ _ (s₁.setTop (mkF m 85 #[.val (Value.long x0), .second, .val (Value.int x1), .val (Value.long x2), .second, .val (Value.long x3), .second, .val (Value.int x4), .val (Value.int x5), .val (Value.int (0 : Int32)), .val (Value.int (1 : Int32)), .val (Value.int (0 : Int32)), .val (Value.long x0), .second, .val (Value.int (x1 + x4)), .unset, .unset, .unset, .unset, .unset, .unset] [(Value.long x2)]))
        refine own_lstore X0 hx hby at_85 (l' := #[.val (Value.long x0), .second, .val (Value.int x1), .val (Value.long x2), .second, .val (Value.long x3), .second, .val (Value.int x4), .val (Value.int x5), .val (Value.int (0 : Int32)), .val (Value.int (1 : Int32)), .val (Value.int (0 : Int32)), .val (Value.long x0), .second, .val (Value.int (x1 + x4)), .val (Value.long x2), .second, .unset, .unset, .unset, .unset]) rfl ?_
        show own_G p e below s _ _ _ (s₁.setTop (mkF m 87 #[.val (Value.long x0), .second, .val (Value.int x1), .val (Value.long x2), .second, .val (Value.long x3), .second, .val (Value.int x4), .val (Value.int x5), .val (Value.int (0 : Int32)), .val (Value.int (1 : Int32)), .val (Value.int (0 : Int32)), .val (Value.long x0), .second, .val (Value.int (x1 + x4)), .val (Value.long x2), .second, .unset, .unset, .unset, .unset] []))
        exact Jn _ _ _ _ _ _
      · show own_G p e below s _ _ _ (s₁.setTop (mkF m 35 #[.val (Value.long x0), .second, .val (Value.int x1), .val (Value.long x2), .second, .val (Value.long x3), .second, .val (Value.int x4), .val (Value.int x5), .val (Value.int (0 : Int32)), .val (Value.int (1 : Int32)), .unset, .unset, .unset, .unset, .unset, .unset, .unset, .unset, .unset, .unset] []))
        refine own_iconst X0 hx hby at_35 ?_
        show own_G p e below s _ _ _ (s₁.setTop (mkF m 36 #[.val (Value.long x0), .second, .val (Value.int x1), .val (Value.long x2), .second, .val (Value.long x3), .second, .val (Value.int x4), .val (Value.int x5), .val (Value.int (0 : Int32)), .val (Value.int (1 : Int32)), .unset, .unset, .unset, .unset, .unset, .unset, .unset, .unset, .unset, .unset] [(Value.int (1 : Int32))]))
        refine own_goto X0 hx hby at_36 (pc' := 40) (by decide) (by decide) ?_
        show own_G p e below s _ _ _ (s₁.setTop (mkF m 40 #[.val (Value.long x0), .second, .val (Value.int x1), .val (Value.long x2), .second, .val (Value.long x3), .second, .val (Value.int x4), .val (Value.int x5), .val (Value.int (0 : Int32)), .val (Value.int (1 : Int32)), .unset, .unset, .unset, .unset, .unset, .unset, .unset, .unset, .unset, .unset] [(Value.int (1 : Int32))]))
        refine own_istore X0 hx hby at_40 (l' := #[.val (Value.long x0), .second, .val (Value.int x1), .val (Value.long x2), .second, .val (Value.long x3), .second, .val (Value.int x4), .val (Value.int x5), .val (Value.int (0 : Int32)), .val (Value.int (1 : Int32)), .val (Value.int (1 : Int32)), .unset, .unset, .unset, .unset, .unset, .unset, .unset, .unset, .unset]) rfl ?_
        show own_G p e below s _ _ _ (s₁.setTop (mkF m 42 #[.val (Value.long x0), .second, .val (Value.int x1), .val (Value.long x2), .second, .val (Value.long x3), .second, .val (Value.int x4), .val (Value.int x5), .val (Value.int (0 : Int32)), .val (Value.int (1 : Int32)), .val (Value.int (1 : Int32)), .unset, .unset, .unset, .unset, .unset, .unset, .unset, .unset, .unset] []))
        refine own_iload X0 hx hby at_42 rfl ?_
        show own_G p e below s _ _ _ (s₁.setTop (mkF m 44 #[.val (Value.long x0), .second, .val (Value.int x1), .val (Value.long x2), .second, .val (Value.long x3), .second, .val (Value.int x4), .val (Value.int x5), .val (Value.int (0 : Int32)), .val (Value.int (1 : Int32)), .val (Value.int (1 : Int32)), .unset, .unset, .unset, .unset, .unset, .unset, .unset, .unset, .unset] [(Value.int (0 : Int32))]))
        refine own_if_eq X0 hx hby at_44 (pc' := 54) (by decide) (by decide) (fun hb51 => ?_) (fun hb51 => by exfalso; revert hb51; decide)
        show own_G p e below s _ _ _ (s₁.setTop (mkF m 54 #[.val (Value.long x0), .second, .val (Value.int x1), .val (Value.long x2), .second, .val (Value.long x3), .second, .val (Value.int x4), .val (Value.int x5), .val (Value.int (0 : Int32)), .val (Value.int (1 : Int32)), .val (Value.int (1 : Int32)), .unset, .unset, .unset, .unset, .unset, .unset, .unset, .unset, .unset] []))
        refine own_lloadN X0 hx hby at_54 rfl ?_
        show own_G p e below s _ _ _ (s₁.setTop (mkF m 55 #[.val (Value.long x0), .second, .val (Value.int x1), .val (Value.long x2), .second, .val (Value.long x3), .second, .val (Value.int x4), .val (Value.int x5), .val (Value.int (0 : Int32)), .val (Value.int (1 : Int32)), .val (Value.int (1 : Int32)), .unset, .unset, .unset, .unset, .unset, .unset, .unset, .unset, .unset] [(Value.long x0)]))
        refine own_lstore X0 hx hby at_55 (l' := #[.val (Value.long x0), .second, .val (Value.int x1), .val (Value.long x2), .second, .val (Value.long x3), .second, .val (Value.int x4), .val (Value.int x5), .val (Value.int (0 : Int32)), .val (Value.int (1 : Int32)), .val (Value.int (1 : Int32)), .val (Value.long x0), .second, .unset, .unset, .unset, .unset, .unset, .unset, .unset]) rfl ?_
        show own_G p e below s _ _ _ (s₁.setTop (mkF m 57 #[.val (Value.long x0), .second, .val (Value.int x1), .val (Value.long x2), .second, .val (Value.long x3), .second, .val (Value.int x4), .val (Value.int x5), .val (Value.int (0 : Int32)), .val (Value.int (1 : Int32)), .val (Value.int (1 : Int32)), .val (Value.long x0), .second, .unset, .unset, .unset, .unset, .unset, .unset, .unset] []))
        refine own_iload X0 hx hby at_57 rfl ?_
        show own_G p e below s _ _ _ (s₁.setTop (mkF m 59 #[.val (Value.long x0), .second, .val (Value.int x1), .val (Value.long x2), .second, .val (Value.long x3), .second, .val (Value.int x4), .val (Value.int x5), .val (Value.int (0 : Int32)), .val (Value.int (1 : Int32)), .val (Value.int (1 : Int32)), .val (Value.long x0), .second, .unset, .unset, .unset, .unset, .unset, .unset, .unset] [(Value.int (1 : Int32))]))
        refine own_if_eq X0 hx hby at_59 (pc' := 69) (by decide) (by decide) (fun hb52 => by exfalso; revert hb52; decide) (fun hb52 => ?_)
        show own_G p e below s _ _ _ (s₁.setTop (mkF m 62 #[.val (Value.long x0), .second, .val (Value.int x1), .val (Value.long x2), .second, .val (Value.long x3), .second, .val (Value.int x4), .val (Value.int x5), .val (Value.int (0 : Int32)), .val (Value.int (1 : Int32)), .val (Value.int (1 : Int32)), .val (Value.long x0), .second, .unset, .unset, .unset, .unset, .unset, .unset, .unset] []))
        refine own_iloadN X0 hx hby at_62 rfl ?_
        show own_G p e below s _ _ _ (s₁.setTop (mkF m 63 #[.val (Value.long x0), .second, .val (Value.int x1), .val (Value.long x2), .second, .val (Value.long x3), .second, .val (Value.int x4), .val (Value.int x5), .val (Value.int (0 : Int32)), .val (Value.int (1 : Int32)), .val (Value.int (1 : Int32)), .val (Value.long x0), .second, .unset, .unset, .unset, .unset, .unset, .unset, .unset] [(Value.int x1)]))
        refine own_iload X0 hx hby at_63 rfl ?_
        show own_G p e below s _ _ _ (s₁.setTop (mkF m 65 #[.val (Value.long x0), .second, .val (Value.int x1), .val (Value.long x2), .second, .val (Value.long x3), .second, .val (Value.int x4), .val (Value.int x5), .val (Value.int (0 : Int32)), .val (Value.int (1 : Int32)), .val (Value.int (1 : Int32)), .val (Value.long x0), .second, .unset, .unset, .unset, .unset, .unset, .unset, .unset] [(Value.int x4), (Value.int x1)]))
        refine own_iadd X0 hx hby at_65 ?_
        show own_G p e below s _ _ _ (s₁.setTop (mkF m 66 #[.val (Value.long x0), .second, .val (Value.int x1), .val (Value.long x2), .second, .val (Value.long x3), .second, .val (Value.int x4), .val (Value.int x5), .val (Value.int (0 : Int32)), .val (Value.int (1 : Int32)), .val (Value.int (1 : Int32)), .val (Value.long x0), .second, .unset, .unset, .unset, .unset, .unset, .unset, .unset] [(Value.int (x1 + x4))]))
        refine own_goto X0 hx hby at_66 (pc' := 70) (by decide) (by decide) ?_
        show own_G p e below s _ _ _ (s₁.setTop (mkF m 70 #[.val (Value.long x0), .second, .val (Value.int x1), .val (Value.long x2), .second, .val (Value.long x3), .second, .val (Value.int x4), .val (Value.int x5), .val (Value.int (0 : Int32)), .val (Value.int (1 : Int32)), .val (Value.int (1 : Int32)), .val (Value.long x0), .second, .unset, .unset, .unset, .unset, .unset, .unset, .unset] [(Value.int (x1 + x4))]))
        refine own_istore X0 hx hby at_70 (l' := #[.val (Value.long x0), .second, .val (Value.int x1), .val (Value.long x2), .second, .val (Value.long x3), .second, .val (Value.int x4), .val (Value.int x5), .val (Value.int (0 : Int32)), .val (Value.int (1 : Int32)), .val (Value.int (1 : Int32)), .val (Value.long x0), .second, .val (Value.int (x1 + x4)), .unset, .unset, .unset, .unset, .unset, .unset]) rfl ?_
        show own_G p e below s _ _ _ (s₁.setTop (mkF m 72 #[.val (Value.long x0), .second, .val (Value.int x1), .val (Value.long x2), .second, .val (Value.long x3), .second, .val (Value.int x4), .val (Value.int x5), .val (Value.int (0 : Int32)), .val (Value.int (1 : Int32)), .val (Value.int (1 : Int32)), .val (Value.long x0), .second, .val (Value.int (x1 + x4)), .unset, .unset, .unset, .unset, .unset, .unset] []))
        refine own_iload X0 hx hby at_72 rfl ?_
        show own_G p e below s _ _ _ (s₁.setTop (mkF m 74 #[.val (Value.long x0), .second, .val (Value.int x1), .val (Value.long x2), .second, .val (Value.long x3), .second, .val (Value.int x4), .val (Value.int x5), .val (Value.int (0 : Int32)), .val (Value.int (1 : Int32)), .val (Value.int (1 : Int32)), .val (Value.long x0), .second, .val (Value.int (x1 + x4)), .unset, .unset, .unset, .unset, .unset, .unset] [(Value.int (1 : Int32))]))
        refine own_if_eq X0 hx hby at_74 (pc' := 84) (by decide) (by decide) (fun hb53 => by exfalso; revert hb53; decide) (fun hb53 => ?_)
        show own_G p e below s _ _ _ (s₁.setTop (mkF m 77 #[.val (Value.long x0), .second, .val (Value.int x1), .val (Value.long x2), .second, .val (Value.long x3), .second, .val (Value.int x4), .val (Value.int x5), .val (Value.int (0 : Int32)), .val (Value.int (1 : Int32)), .val (Value.int (1 : Int32)), .val (Value.long x0), .second, .val (Value.int (x1 + x4)), .unset, .unset, .unset, .unset, .unset, .unset] []))
        refine own_lloadN X0 hx hby at_77 rfl ?_
        show own_G p e below s _ _ _ (s₁.setTop (mkF m 78 #[.val (Value.long x0), .second, .val (Value.int x1), .val (Value.long x2), .second, .val (Value.long x3), .second, .val (Value.int x4), .val (Value.int x5), .val (Value.int (0 : Int32)), .val (Value.int (1 : Int32)), .val (Value.int (1 : Int32)), .val (Value.long x0), .second, .val (Value.int (x1 + x4)), .unset, .unset, .unset, .unset, .unset, .unset] [(Value.long x2)]))
        refine own_lload X0 hx hby at_78 rfl ?_
        show own_G p e below s _ _ _ (s₁.setTop (mkF m 80 #[.val (Value.long x0), .second, .val (Value.int x1), .val (Value.long x2), .second, .val (Value.long x3), .second, .val (Value.int x4), .val (Value.int x5), .val (Value.int (0 : Int32)), .val (Value.int (1 : Int32)), .val (Value.int (1 : Int32)), .val (Value.long x0), .second, .val (Value.int (x1 + x4)), .unset, .unset, .unset, .unset, .unset, .unset] [(Value.long x3), (Value.long x2)]))
        refine own_lxor X0 hx hby at_80 ?_
        show own_G p e below s _ _ _ (s₁.setTop (mkF m 81 #[.val (Value.long x0), .second, .val (Value.int x1), .val (Value.long x2), .second, .val (Value.long x3), .second, .val (Value.int x4), .val (Value.int x5), .val (Value.int (0 : Int32)), .val (Value.int (1 : Int32)), .val (Value.int (1 : Int32)), .val (Value.long x0), .second, .val (Value.int (x1 + x4)), .unset, .unset, .unset, .unset, .unset, .unset] [(Value.long (x2 ^^^ x3))]))
        refine own_goto X0 hx hby at_81 (pc' := 85) (by decide) (by decide) ?_
        show own_G p e below s _ _ _ (s₁.setTop (mkF m 85 #[.val (Value.long x0), .second, .val (Value.int x1), .val (Value.long x2), .second, .val (Value.long x3), .second, .val (Value.int x4), .val (Value.int x5), .val (Value.int (0 : Int32)), .val (Value.int (1 : Int32)), .val (Value.int (1 : Int32)), .val (Value.long x0), .second, .val (Value.int (x1 + x4)), .unset, .unset, .unset, .unset, .unset, .unset] [(Value.long (x2 ^^^ x3))]))
        refine own_lstore X0 hx hby at_85 (l' := #[.val (Value.long x0), .second, .val (Value.int x1), .val (Value.long x2), .second, .val (Value.long x3), .second, .val (Value.int x4), .val (Value.int x5), .val (Value.int (0 : Int32)), .val (Value.int (1 : Int32)), .val (Value.int (1 : Int32)), .val (Value.long x0), .second, .val (Value.int (x1 + x4)), .val (Value.long (x2 ^^^ x3)), .second, .unset, .unset, .unset, .unset]) rfl ?_
        show own_G p e below s _ _ _ (s₁.setTop (mkF m 87 #[.val (Value.long x0), .second, .val (Value.int x1), .val (Value.long x2), .second, .val (Value.long x3), .second, .val (Value.int x4), .val (Value.int x5), .val (Value.int (0 : Int32)), .val (Value.int (1 : Int32)), .val (Value.int (1 : Int32)), .val (Value.long x0), .second, .val (Value.int (x1 + x4)), .val (Value.long (x2 ^^^ x3)), .second, .unset, .unset, .unset, .unset] []))
        exact Jn _ _ _ _ _ _
  · show own_G p e below s _ _ _ (s₁.setTop (mkF m 7 #[.val (Value.long x0), .second, .val (Value.int x1), .val (Value.long x2), .second, .val (Value.long x3), .second, .val (Value.int x4), .val (Value.int x5), .unset, .unset, .unset, .unset, .unset, .unset, .unset, .unset, .unset, .unset, .unset, .unset] []))
    refine own_iconst X0 hx hby at_7 ?_
    show own_G p e below s _ _ _ (s₁.setTop (mkF m 8 #[.val (Value.long x0), .second, .val (Value.int x1), .val (Value.long x2), .second, .val (Value.long x3), .second, .val (Value.int x4), .val (Value.int x5), .unset, .unset, .unset, .unset, .unset, .unset, .unset, .unset, .unset, .unset, .unset, .unset] [(Value.int (1 : Int32))]))
    refine own_goto X0 hx hby at_8 (pc' := 12) (by decide) (by decide) ?_
    show own_G p e below s _ _ _ (s₁.setTop (mkF m 12 #[.val (Value.long x0), .second, .val (Value.int x1), .val (Value.long x2), .second, .val (Value.long x3), .second, .val (Value.int x4), .val (Value.int x5), .unset, .unset, .unset, .unset, .unset, .unset, .unset, .unset, .unset, .unset, .unset, .unset] [(Value.int (1 : Int32))]))
    refine own_istore X0 hx hby at_12 (l' := #[.val (Value.long x0), .second, .val (Value.int x1), .val (Value.long x2), .second, .val (Value.long x3), .second, .val (Value.int x4), .val (Value.int x5), .val (Value.int (1 : Int32)), .unset, .unset, .unset, .unset, .unset, .unset, .unset, .unset, .unset, .unset, .unset]) rfl ?_
    show own_G p e below s _ _ _ (s₁.setTop (mkF m 14 #[.val (Value.long x0), .second, .val (Value.int x1), .val (Value.long x2), .second, .val (Value.long x3), .second, .val (Value.int x4), .val (Value.int x5), .val (Value.int (1 : Int32)), .unset, .unset, .unset, .unset, .unset, .unset, .unset, .unset, .unset, .unset, .unset] []))
    refine own_iload X0 hx hby at_14 rfl ?_
    show own_G p e below s _ _ _ (s₁.setTop (mkF m 16 #[.val (Value.long x0), .second, .val (Value.int x1), .val (Value.long x2), .second, .val (Value.long x3), .second, .val (Value.int x4), .val (Value.int x5), .val (Value.int (1 : Int32)), .unset, .unset, .unset, .unset, .unset, .unset, .unset, .unset, .unset, .unset, .unset] [(Value.int x5)]))
    refine own_iconst X0 hx hby at_16 ?_
    show own_G p e below s _ _ _ (s₁.setTop (mkF m 17 #[.val (Value.long x0), .second, .val (Value.int x1), .val (Value.long x2), .second, .val (Value.long x3), .second, .val (Value.int x4), .val (Value.int x5), .val (Value.int (1 : Int32)), .unset, .unset, .unset, .unset, .unset, .unset, .unset, .unset, .unset, .unset, .unset] [(Value.int (2 : Int32)), (Value.int x5)]))
    refine own_iand X0 hx hby at_17 ?_
    show own_G p e below s _ _ _ (s₁.setTop (mkF m 18 #[.val (Value.long x0), .second, .val (Value.int x1), .val (Value.long x2), .second, .val (Value.long x3), .second, .val (Value.int x4), .val (Value.int x5), .val (Value.int (1 : Int32)), .unset, .unset, .unset, .unset, .unset, .unset, .unset, .unset, .unset, .unset, .unset] [(Value.int (x5 &&& (2 : Int32)))]))
    refine own_if_eq X0 hx hby at_18 (pc' := 25) (by decide) (by decide) (fun hb54 => ?_) (fun hb54 => ?_)
    · show own_G p e below s _ _ _ (s₁.setTop (mkF m 25 #[.val (Value.long x0), .second, .val (Value.int x1), .val (Value.long x2), .second, .val (Value.long x3), .second, .val (Value.int x4), .val (Value.int x5), .val (Value.int (1 : Int32)), .unset, .unset, .unset, .unset, .unset, .unset, .unset, .unset, .unset, .unset, .unset] []))
      refine own_iconst X0 hx hby at_25 ?_
      show own_G p e below s _ _ _ (s₁.setTop (mkF m 26 #[.val (Value.long x0), .second, .val (Value.int x1), .val (Value.long x2), .second, .val (Value.long x3), .second, .val (Value.int x4), .val (Value.int x5), .val (Value.int (1 : Int32)), .unset, .unset, .unset, .unset, .unset, .unset, .unset, .unset, .unset, .unset, .unset] [(Value.int (0 : Int32))]))
      refine own_istore X0 hx hby at_26 (l' := #[.val (Value.long x0), .second, .val (Value.int x1), .val (Value.long x2), .second, .val (Value.long x3), .second, .val (Value.int x4), .val (Value.int x5), .val (Value.int (1 : Int32)), .val (Value.int (0 : Int32)), .unset, .unset, .unset, .unset, .unset, .unset, .unset, .unset, .unset, .unset]) rfl ?_
      show own_G p e below s _ _ _ (s₁.setTop (mkF m 28 #[.val (Value.long x0), .second, .val (Value.int x1), .val (Value.long x2), .second, .val (Value.long x3), .second, .val (Value.int x4), .val (Value.int x5), .val (Value.int (1 : Int32)), .val (Value.int (0 : Int32)), .unset, .unset, .unset, .unset, .unset, .unset, .unset, .unset, .unset, .unset] []))
      refine own_iload X0 hx hby at_28 rfl ?_
      show own_G p e below s _ _ _ (s₁.setTop (mkF m 30 #[.val (Value.long x0), .second, .val (Value.int x1), .val (Value.long x2), .second, .val (Value.long x3), .second, .val (Value.int x4), .val (Value.int x5), .val (Value.int (1 : Int32)), .val (Value.int (0 : Int32)), .unset, .unset, .unset, .unset, .unset, .unset, .unset, .unset, .unset, .unset] [(Value.int x5)]))
      refine own_iconst X0 hx hby at_30 ?_
      show own_G p e below s _ _ _ (s₁.setTop (mkF m 31 #[.val (Value.long x0), .second, .val (Value.int x1), .val (Value.long x2), .second, .val (Value.long x3), .second, .val (Value.int x4), .val (Value.int x5), .val (Value.int (1 : Int32)), .val (Value.int (0 : Int32)), .unset, .unset, .unset, .unset, .unset, .unset, .unset, .unset, .unset, .unset] [(Value.int (4 : Int32)), (Value.int x5)]))
      refine own_iand X0 hx hby at_31 ?_
      show own_G p e below s _ _ _ (s₁.setTop (mkF m 32 #[.val (Value.long x0), .second, .val (Value.int x1), .val (Value.long x2), .second, .val (Value.long x3), .second, .val (Value.int x4), .val (Value.int x5), .val (Value.int (1 : Int32)), .val (Value.int (0 : Int32)), .unset, .unset, .unset, .unset, .unset, .unset, .unset, .unset, .unset, .unset] [(Value.int (x5 &&& (4 : Int32)))]))
      refine own_if_eq X0 hx hby at_32 (pc' := 39) (by decide) (by decide) (fun hb55 => ?_) (fun hb55 => ?_)
      · show own_G p e below s _ _ _ (s₁.setTop (mkF m 39 #[.val (Value.long x0), .second, .val (Value.int x1), .val (Value.long x2), .second, .val (Value.long x3), .second, .val (Value.int x4), .val (Value.int x5), .val (Value.int (1 : Int32)), .val (Value.int (0 : Int32)), .unset, .unset, .unset, .unset, .unset, .unset, .unset, .unset, .unset, .unset] []))
        refine own_iconst X0 hx hby at_39 ?_
        show own_G p e below s _ _ _ (s₁.setTop (mkF m 40 #[.val (Value.long x0), .second, .val (Value.int x1), .val (Value.long x2), .second, .val (Value.long x3), .second, .val (Value.int x4), .val (Value.int x5), .val (Value.int (1 : Int32)), .val (Value.int (0 : Int32)), .unset, .unset, .unset, .unset, .unset, .unset, .unset, .unset, .unset, .unset] [(Value.int (0 : Int32))]))
        refine own_istore X0 hx hby at_40 (l' := #[.val (Value.long x0), .second, .val (Value.int x1), .val (Value.long x2), .second, .val (Value.long x3), .second, .val (Value.int x4), .val (Value.int x5), .val (Value.int (1 : Int32)), .val (Value.int (0 : Int32)), .val (Value.int (0 : Int32)), .unset, .unset, .unset, .unset, .unset, .unset, .unset, .unset, .unset]) rfl ?_
        show own_G p e below s _ _ _ (s₁.setTop (mkF m 42 #[.val (Value.long x0), .second, .val (Value.int x1), .val (Value.long x2), .second, .val (Value.long x3), .second, .val (Value.int x4), .val (Value.int x5), .val (Value.int (1 : Int32)), .val (Value.int (0 : Int32)), .val (Value.int (0 : Int32)), .unset, .unset, .unset, .unset, .unset, .unset, .unset, .unset, .unset] []))
        refine own_iload X0 hx hby at_42 rfl ?_
        show own_G p e below s _ _ _ (s₁.setTop (mkF m 44 #[.val (Value.long x0), .second, .val (Value.int x1), .val (Value.long x2), .second, .val (Value.long x3), .second, .val (Value.int x4), .val (Value.int x5), .val (Value.int (1 : Int32)), .val (Value.int (0 : Int32)), .val (Value.int (0 : Int32)), .unset, .unset, .unset, .unset, .unset, .unset, .unset, .unset, .unset] [(Value.int (1 : Int32))]))
        refine own_if_eq X0 hx hby at_44 (pc' := 54) (by decide) (by decide) (fun hb56 => by exfalso; revert hb56; decide) (fun hb56 => ?_)
        show own_G p e below s _ _ _ (s₁.setTop (mkF m 47 #[.val (Value.long x0), .second, .val (Value.int x1), .val (Value.long x2), .second, .val (Value.long x3), .second, .val (Value.int x4), .val (Value.int x5), .val (Value.int (1 : Int32)), .val (Value.int (0 : Int32)), .val (Value.int (0 : Int32)), .unset, .unset, .unset, .unset, .unset, .unset, .unset, .unset, .unset] []))
        refine own_lloadN X0 hx hby at_47 rfl ?_
        show own_G p e below s _ _ _ (s₁.setTop (mkF m 48 #[.val (Value.long x0), .second, .val (Value.int x1), .val (Value.long x2), .second, .val (Value.long x3), .second, .val (Value.int x4), .val (Value.int x5), .val (Value.int (1 : Int32)), .val (Value.int (0 : Int32)), .val (Value.int (0 : Int32)), .unset, .unset, .unset, .unset, .unset, .unset, .unset, .unset, .unset] [(Value.long x0)]))
        refine own_lload X0 hx hby at_48 rfl ?_
        show own_G p e below s _ _ _ (s₁.setTop (mkF m 50 #[.val (Value.long x0), .second, .val (Value.int x1), .val (Value.long x2), .second, .val (Value.long x3), .second, .val (Value.int x4), .val (Value.int x5), .val (Value.int (1 : Int32)), .val (Value.int (0 : Int32)), .val (Value.int (0 : Int32)), .unset, .unset, .unset, .unset, .unset, .unset, .unset, .unset, .unset] [(Value.long x3), (Value.long x0)]))
        refine own_ladd X0 hx hby at_50 ?_
        show own_G p e below s _ _ _ (s₁.setTop (mkF m 51 #[.val (Value.long x0), .second, .val (Value.int x1), .val (Value.long x2), .second, .val (Value.long x3), .second, .val (Value.int x4), .val (Value.int x5), .val (Value.int (1 : Int32)), .val (Value.int (0 : Int32)), .val (Value.int (0 : Int32)), .unset, .unset, .unset, .unset, .unset, .unset, .unset, .unset, .unset] [(Value.long (x0 + x3))]))
        refine own_goto X0 hx hby at_51 (pc' := 55) (by decide) (by decide) ?_
        show own_G p e below s _ _ _ (s₁.setTop (mkF m 55 #[.val (Value.long x0), .second, .val (Value.int x1), .val (Value.long x2), .second, .val (Value.long x3), .second, .val (Value.int x4), .val (Value.int x5), .val (Value.int (1 : Int32)), .val (Value.int (0 : Int32)), .val (Value.int (0 : Int32)), .unset, .unset, .unset, .unset, .unset, .unset, .unset, .unset, .unset] [(Value.long (x0 + x3))]))
        refine own_lstore X0 hx hby at_55 (l' := #[.val (Value.long x0), .second, .val (Value.int x1), .val (Value.long x2), .second, .val (Value.long x3), .second, .val (Value.int x4), .val (Value.int x5), .val (Value.int (1 : Int32)), .val (Value.int (0 : Int32)), .val (Value.int (0 : Int32)), .val (Value.long (x0 + x3)), .second, .unset, .unset, .unset, .unset, .unset, .unset, .unset]) rfl ?_
        show own_G p e below s _ _ _ (s₁.setTop (mkF m 57 #[.val (Value.long x0), .second, .val (Value.int x1), .val (Value.long x2), .second, .val (Value.long x3), .second, .val (Value.int x4), .val (Value.int x5), .val (Value.int (1 : Int32)), .val (Value.int (0 : Int32)), .val (Value.int (0 : Int32)), .val (Value.long (x0 + x3)), .second, .unset, .unset, .unset, .unset, .unset, .unset, .unset] []))
        refine own_iload X0 hx hby at_57 rfl ?_
        show own_G p e below s _ _ _ (s₁.setTop (mkF m 59 #[.val (Value.long x0), .second, .val (Value.int x1), .val (Value.long x2), .second, .val (Value.long x3), .second, .val (Value.int x4), .val (Value.int x5), .val (Value.int (1 : Int32)), .val (Value.int (0 : Int32)), .val (Value.int (0 : Int32)), .val (Value.long (x0 + x3)), .second, .unset, .unset, .unset, .unset, .unset, .unset, .unset] [(Value.int (0 : Int32))]))
        refine own_if_eq X0 hx hby at_59 (pc' := 69) (by decide) (by decide) (fun hb57 => ?_) (fun hb57 => by exfalso; revert hb57; decide)
        show own_G p e below s _ _ _ (s₁.setTop (mkF m 69 #[.val (Value.long x0), .second, .val (Value.int x1), .val (Value.long x2), .second, .val (Value.long x3), .second, .val (Value.int x4), .val (Value.int x5), .val (Value.int (1 : Int32)), .val (Value.int (0 : Int32)), .val (Value.int (0 : Int32)), .val (Value.long (x0 + x3)), .second, .unset, .unset, .unset, .unset, .unset, .unset, .unset] []))
        refine own_iloadN X0 hx hby at_69 rfl ?_
        show own_G p e below s _ _ _ (s₁.setTop (mkF m 70 #[.val (Value.long x0), .second, .val (Value.int x1), .val (Value.long x2), .second, .val (Value.long x3), .second, .val (Value.int x4), .val (Value.int x5), .val (Value.int (1 : Int32)), .val (Value.int (0 : Int32)), .val (Value.int (0 : Int32)), .val (Value.long (x0 + x3)), .second, .unset, .unset, .unset, .unset, .unset, .unset, .unset] [(Value.int x1)]))
        refine own_istore X0 hx hby at_70 (l' := #[.val (Value.long x0), .second, .val (Value.int x1), .val (Value.long x2), .second, .val (Value.long x3), .second, .val (Value.int x4), .val (Value.int x5), .val (Value.int (1 : Int32)), .val (Value.int (0 : Int32)), .val (Value.int (0 : Int32)), .val (Value.long (x0 + x3)), .second, .val (Value.int x1), .unset, .unset, .unset, .unset, .unset, .unset]) rfl ?_
        show own_G p e below s _ _ _ (s₁.setTop (mkF m 72 #[.val (Value.long x0), .second, .val (Value.int x1), .val (Value.long x2), .second, .val (Value.long x3), .second, .val (Value.int x4), .val (Value.int x5), .val (Value.int (1 : Int32)), .val (Value.int (0 : Int32)), .val (Value.int (0 : Int32)), .val (Value.long (x0 + x3)), .second, .val (Value.int x1), .unset, .unset, .unset, .unset, .unset, .unset] []))
        refine own_iload X0 hx hby at_72 rfl ?_
        show own_G p e below s _ _ _ (s₁.setTop (mkF m 74 #[.val (Value.long x0), .second, .val (Value.int x1), .val (Value.long x2), .second, .val (Value.long x3), .second, .val (Value.int x4), .val (Value.int x5), .val (Value.int (1 : Int32)), .val (Value.int (0 : Int32)), .val (Value.int (0 : Int32)), .val (Value.long (x0 + x3)), .second, .val (Value.int x1), .unset, .unset, .unset, .unset, .unset, .unset] [(Value.int (0 : Int32))]))
        refine own_if_eq X0 hx hby at_74 (pc' := 84) (by decide) (by decide) (fun hb58 => ?_) (fun hb58 => by exfalso; revert hb58; decide)
        show own_G p e below s _ _ _ (s₁.setTop (mkF m 84 #[.val (Value.long x0), .second, .val (Value.int x1), .val (Value.long x2), .second, .val (Value.long x3), .second, .val (Value.int x4), .val (Value.int x5), .val (Value.int (1 : Int32)), .val (Value.int (0 : Int32)), .val (Value.int (0 : Int32)), .val (Value.long (x0 + x3)), .second, .val (Value.int x1), .unset, .unset, .unset, .unset, .unset, .unset] []))
        refine own_lloadN X0 hx hby at_84 rfl ?_
        show own_G p e below s _ _ _ (s₁.setTop (mkF m 85 #[.val (Value.long x0), .second, .val (Value.int x1), .val (Value.long x2), .second, .val (Value.long x3), .second, .val (Value.int x4), .val (Value.int x5), .val (Value.int (1 : Int32)), .val (Value.int (0 : Int32)), .val (Value.int (0 : Int32)), .val (Value.long (x0 + x3)), .second, .val (Value.int x1), .unset, .unset, .unset, .unset, .unset, .unset] [(Value.long x2)]))
        refine own_lstore X0 hx hby at_85 (l' := #[.val (Value.long x0), .second, .val (Value.int x1), .val (Value.long x2), .second, .val (Value.long x3), .second, .val (Value.int x4), .val (Value.int x5), .val (Value.int (1 : Int32)), .val (Value.int (0 : Int32)), .val (Value.int (0 : Int32)), .val (Value.long (x0 + x3)), .second, .val (Value.int x1), .val (Value.long x2), .second, .unset, .unset, .unset, .unset]) rfl ?_
        show own_G p e below s _ _ _ (s₁.setTop (mkF m 87 #[.val (Value.long x0), .second, .val (Value.int x1), .val (Value.long x2), .second, .val (Value.long x3), .second, .val (Value.int x4), .val (Value.int x5), .val (Value.int (1 : Int32)), .val (Value.int (0 : Int32)), .val (Value.int (0 : Int32)), .val (Value.long (x0 + x3)), .second, .val (Value.int x1), .val (Value.long x2), .second, .unset, .unset, .unset, .unset] []))
        exact Jn _ _ _ _ _ _
      · show own_G p e below s _ _ _ (s₁.setTop (mkF m 35 #[.val (Value.long x0), .second, .val (Value.int x1), .val (Value.long x2), .second, .val (Value.long x3), .second, .val (Value.int x4), .val (Value.int x5), .val (Value.int (1 : Int32)), .val (Value.int (0 : Int32)), .unset, .unset, .unset, .unset, .unset, .unset, .unset, .unset, .unset, .unset] []))
        refine own_iconst X0 hx hby at_35 ?_
        show own_G p e below s _ _ _ (s₁.setTop (mkF m 36 #[.val (Value.long x0), .second, .val (Value.int x1), .val (Value.long x2), .second, .val (Value.long x3), .second, .val (Value.int x4), .val (Value.int x5), .val (Value.int (1 : Int32)), .val (Value.int (0 : Int32)), .unset, .unset, .unset, .unset, .unset, .unset, .unset, .unset, .unset, .unset] [(Value.int (1 : Int32))]))
        refine own_goto X0 hx hby at_36 (pc' := 40) (by decide) (by decide) ?_
        show own_G p e below s _ _ _ (s₁.setTop (mkF m 40 #[.val (Value.long x0), .second, .val (Value.int x1), .val (Value.long x2), .second, .val (Value.long x3), .second, .val (Value.int x4), .val (Value.int x5), .val (Value.int (1 : Int32)), .val (Value.int (0 : Int32)), .unset, .unset, .unset, .unset, .unset, .unset, .unset, .unset, .unset, .unset] [(Value.int (1 : Int32))]))
        refine own_istore X0 hx hby at_40 (l' := #[.val (Value.long x0), .second, .val (Value.int x1), .val (Value.long x2), .second, .val (Value.long x3), .second, .val (Value.int x4), .val (Value.int x5), .val (Value.int (1 : Int32)), .val (Value.int (0 : Int32)), .val (Value.int (1 : Int32)), .unset, .unset, .unset, .unset, .unset, .unset, .unset, .unset, .unset]) rfl ?_
        show own_G p e below s _ _ _ (s₁.setTop (mkF m 42 #[.val (Value.long x0), .second, .val (Value.int x1), .val (Value.long x2), .second, .val (Value.long x3), .second, .val (Value.int x4), .val (Value.int x5), .val (Value.int (1 : Int32)), .val (Value.int (0 : Int32)), .val (Value.int (1 : Int32)), .unset, .unset, .unset, .unset, .unset, .unset, .unset, .unset, .unset] []))
        refine own_iload X0 hx hby at_42 rfl ?_
        show own_G p e below s _ _ _ (s₁.setTop (mkF m 44 #[.val (Value.long x0), .second, .val (Value.int x1), .val (Value.long x2), .second, .val (Value.long x3), .second, .val (Value.int x4), .val (Value.int x5), .val (Value.int (1 : Int32)), .val (Value.int (0 : Int32)), .val (Value.int (1 : Int32)), .unset, .unset, .unset, .unset, .unset, .unset, .unset, .unset, .unset] [(Value.int (1 : Int32))]))
        refine own_if_eq X0 hx hby at_44 (pc' := 54) (by decide) (by decide) (fun hb59 => by exfalso; revert hb59; decide) (fun hb59 => ?_)
        show own_G p e below s _ _ _ (s₁.setTop (mkF m 47 #[.val (Value.long x0), .second, .val (Value.int x1), .val (Value.long x2), .second, .val (Value.long x3), .second, .val (Value.int x4), .val (Value.int x5), .val (Value.int (1 : Int32)), .val (Value.int (0 : Int32)), .val (Value.int (1 : Int32)), .unset, .unset, .unset, .unset, .unset, .unset, .unset, .unset, .unset] []))
        refine own_lloadN X0 hx hby at_47 rfl ?_
        show own_G p e below s _ _ _ (s₁.setTop (mkF m 48 #[.val (Value.long x0), .second, .val (Value.int x1), .val (Value.long x2), .second, .val (Value.long x3), .second, .val (Value.int x4), .val (Value.int x5), .val (Value.int (1 : Int32)), .val (Value.int (0 : Int32)), .val (Value.int (1 : Int32)), .unset, .unset, .unset, .unset, .unset, .unset, .unset, .unset, .unset] [(Value.long x0)]))
        refine own_lload X0 hx hby at_48 rfl ?_
        show own_G p e below s _ _ _ (s₁.setTop (mkF m 50 #[.val (Value.long x0), .second, .val (Value.int x1), .val (Value.long x2), .second, .val (Value.long x3), .second, .val (Value.int x4), .val (Value.int x5), .val (Value.int (1 : Int32)), .val (Value.int (0 : Int32)), .val (Value.int (1 : Int32)), .unset, .unset, .unset, .unset, .unset, .unset, .unset, .unset, .unset] [(Value.long x3), (Value.long x0)]))
        refine own_ladd X0 hx hby at_50 ?_
        show own_G p e below s _ _ _ (s₁.setTop (mkF m 51 #[.val (Value.long x0), .second, .val (Value.int x1), .val (Value.long x2), .second, .val (Value.long x3), .second, .val (Value.int x4), .val (Value.int x5), .val (Value.int (1 : Int32)), .val (Value.int (0 : Int32)), .val (Value.int (1 : Int32)), .unset, .unset, .unset, .unset, .unset, .unset, .unset, .unset, .unset] [(Value.long (x0 + x3))]))
        refine own_goto X0 hx hby at_51 (pc' := 55) (by decide) (by decide) ?_
        show own_G p e below s _ _ _ (s₁.setTop (mkF m 55 #[.val (Value.long x0), .second, .val (Value.int x1), .val (Value.long x2), .second, .val (Value.long x3), .second, .val (Value.int x4), .val (Value.int x5), .val (Value.int (1 : Int32)), .val (Value.int (0 : Int32)), .val (Value.int (1 : Int32)), .unset, .unset, .unset, .unset, .unset, .unset, .unset, .unset, .unset] [(Value.long (x0 + x3))]))
        refine own_lstore X0 hx hby at_55 (l' := #[.val (Value.long x0), .second, .val (Value.int x1), .val (Value.long x2), .second, .val (Value.long x3), .second, .val (Value.int x4), .val (Value.int x5), .val (Value.int (1 : Int32)), .val (Value.int (0 : Int32)), .val (Value.int (1 : Int32)), .val (Value.long (x0 + x3)), .second, .unset, .unset, .unset, .unset, .unset, .unset, .unset]) rfl ?_
        show own_G p e below s _ _ _ (s₁.setTop (mkF m 57 #[.val (Value.long x0), .second, .val (Value.int x1), .val (Value.long x2), .second, .val (Value.long x3), .second, .val (Value.int x4), .val (Value.int x5), .val (Value.int (1 : Int32)), .val (Value.int (0 : Int32)), .val (Value.int (1 : Int32)), .val (Value.long (x0 + x3)), .second, .unset, .unset, .unset, .unset, .unset, .unset, .unset] []))
        refine own_iload X0 hx hby at_57 rfl ?_
        show own_G p e below s _ _ _ (s₁.setTop (mkF m 59 #[.val (Value.long x0), .second, .val (Value.int x1), .val (Value.long x2), .second, .val (Value.long x3), .second, .val (Value.int x4), .val (Value.int x5), .val (Value.int (1 : Int32)), .val (Value.int (0 : Int32)), .val (Value.int (1 : Int32)), .val (Value.long (x0 + x3)), .second, .unset, .unset, .unset, .unset, .unset, .unset, .unset] [(Value.int (0 : Int32))]))
        refine own_if_eq X0 hx hby at_59 (pc' := 69) (by decide) (by decide) (fun hb60 => ?_) (fun hb60 => by exfalso; revert hb60; decide)
        show own_G p e below s _ _ _ (s₁.setTop (mkF m 69 #[.val (Value.long x0), .second, .val (Value.int x1), .val (Value.long x2), .second, .val (Value.long x3), .second, .val (Value.int x4), .val (Value.int x5), .val (Value.int (1 : Int32)), .val (Value.int (0 : Int32)), .val (Value.int (1 : Int32)), .val (Value.long (x0 + x3)), .second, .unset, .unset, .unset, .unset, .unset, .unset, .unset] []))
        refine own_iloadN X0 hx hby at_69 rfl ?_
        show own_G p e below s _ _ _ (s₁.setTop (mkF m 70 #[.val (Value.long x0), .second, .val (Value.int x1), .val (Value.long x2), .second, .val (Value.long x3), .second, .val (Value.int x4), .val (Value.int x5), .val (Value.int (1 : Int32)), .val (Value.int (0 : Int32)), .val (Value.int (1 : Int32)), .val (Value.long (x0 + x3)), .second, .unset, .unset, .unset, .unset, .unset, .unset, .unset] [(Value.int x1)]))
        refine own_istore X0 hx hby at_70 (l' := #[.val (Value.long x0), .second, .val (Value.int x1), .val (Value.long x2), .second, .val (Value.long x3), .second, .val (Value.int x4), .val (Value.int x5), .val (Value.int (1 : Int32)), .val (Value.int (0 : Int32)), .val (Value.int (1 : Int32)), .val (Value.long (x0 + x3)), .second, .val (Value.int x1), .unset, .unset, .unset, .unset, .unset, .unset]) rfl ?_
        show own_G p e below s _ _ _ (s₁.setTop (mkF m 72 #[.val (Value.long x0), .second, .val (Value.int x1), .val (Value.long x2), .second, .val (Value.long x3), .second, .val (Value.int x4), .val (Value.int x5), .val (Value.int (1 : Int32)), .val (Value.int (0 : Int32)), .val (Value.int (1 : Int32)), .val (Value.long (x0 + x3)), .second, .val (Value.int x1), .unset, .unset, .unset, .unset, .unset, .unset] []))
        refine own_iload X0 hx hby at_72 rfl ?_
        show own_G p e below s _ _ _ (s₁.setTop (mkF m 74 #[.val (Value.long x0), .second, .val (Value.int x1), .val (Value.long x2), .second, .val (Value.long x3), .second, .val (Value.int x4), .val (Value.int x5), .val (Value.int (1 : Int32)), .val (Value.int (0 : Int32)), .val (Value.int (1 : Int32)), .val (Value.long (x0 + x3)), .second, .val (Value.int x1), .unset, .unset, .unset, .unset, .unset, .unset] [(Value.int (1 : Int32))]))
        refine own_if_eq X0 hx hby at_74 (pc' := 84) (by decide) (by decide) (fun hb61 => by exfalso; revert hb61; decide) (fun hb61 => ?_)
        show own_G p e below s _ _ _ (s₁.setTop (mkF m 77 #[.val (Value.long x0), .second, .val (Value.int x1), .val (Value.long x2), .second, .val (Value.long x3), .second, .val (Value.int x4), .val (Value.int x5), .val (Value.int (1 : Int32)), .val (Value.int (0 : Int32)), .val (Value.int (1 : Int32)), .val (Value.long (x0 + x3)), .second, .val (Value.int x1), .unset, .unset, .unset, .unset, .unset, .unset] []))
        refine own_lloadN X0 hx hby at_77 rfl ?_
        show own_G p e below s _ _ _ (s₁.setTop (mkF m 78 #[.val (Value.long x0), .second, .val (Value.int x1), .val (Value.long x2), .second, .val (Value.long x3), .second, .val (Value.int x4), .val (Value.int x5), .val (Value.int (1 : Int32)), .val (Value.int (0 : Int32)), .val (Value.int (1 : Int32)), .val (Value.long (x0 + x3)), .second, .val (Value.int x1), .unset, .unset, .unset, .unset, .unset, .unset] [(Value.long x2)]))
        refine own_lload X0 hx hby at_78 rfl ?_
        show own_G p e below s _ _ _ (s₁.setTop (mkF m 80 #[.val (Value.long x0), .second, .val (Value.int x1), .val (Value.long x2), .second, .val (Value.long x3), .second, .val (Value.int x4), .val (Value.int x5), .val (Value.int (1 : Int32)), .val (Value.int (0 : Int32)), .val (Value.int (1 : Int32)), .val (Value.long (x0 + x3)), .second, .val (Value.int x1), .unset, .unset, .unset, .unset, .unset, .unset] [(Value.long x3), (Value.long x2)]))
        refine own_lxor X0 hx hby at_80 ?_
        show own_G p e below s _ _ _ (s₁.setTop (mkF m 81 #[.val (Value.long x0), .second, .val (Value.int x1), .val (Value.long x2), .second, .val (Value.long x3), .second, .val (Value.int x4), .val (Value.int x5), .val (Value.int (1 : Int32)), .val (Value.int (0 : Int32)), .val (Value.int (1 : Int32)), .val (Value.long (x0 + x3)), .second, .val (Value.int x1), .unset, .unset, .unset, .unset, .unset, .unset] [(Value.long (x2 ^^^ x3))]))
        refine own_goto X0 hx hby at_81 (pc' := 85) (by decide) (by decide) ?_
        show own_G p e below s _ _ _ (s₁.setTop (mkF m 85 #[.val (Value.long x0), .second, .val (Value.int x1), .val (Value.long x2), .second, .val (Value.long x3), .second, .val (Value.int x4), .val (Value.int x5), .val (Value.int (1 : Int32)), .val (Value.int (0 : Int32)), .val (Value.int (1 : Int32)), .val (Value.long (x0 + x3)), .second, .val (Value.int x1), .unset, .unset, .unset, .unset, .unset, .unset] [(Value.long (x2 ^^^ x3))]))
        refine own_lstore X0 hx hby at_85 (l' := #[.val (Value.long x0), .second, .val (Value.int x1), .val (Value.long x2), .second, .val (Value.long x3), .second, .val (Value.int x4), .val (Value.int x5), .val (Value.int (1 : Int32)), .val (Value.int (0 : Int32)), .val (Value.int (1 : Int32)), .val (Value.long (x0 + x3)), .second, .val (Value.int x1), .val (Value.long (x2 ^^^ x3)), .second, .unset, .unset, .unset, .unset]) rfl ?_
        show own_G p e below s _ _ _ (s₁.setTop (mkF m 87 #[.val (Value.long x0), .second, .val (Value.int x1), .val (Value.long x2), .second, .val (Value.long x3), .second, .val (Value.int x4), .val (Value.int x5), .val (Value.int (1 : Int32)), .val (Value.int (0 : Int32)), .val (Value.int (1 : Int32)), .val (Value.long (x0 + x3)), .second, .val (Value.int x1), .val (Value.long (x2 ^^^ x3)), .second, .unset, .unset, .unset, .unset] []))
        exact Jn _ _ _ _ _ _
    · show own_G p e below s _ _ _ (s₁.setTop (mkF m 21 #[.val (Value.long x0), .second, .val (Value.int x1), .val (Value.long x2), .second, .val (Value.long x3), .second, .val (Value.int x4), .val (Value.int x5), .val (Value.int (1 : Int32)), .unset, .unset, .unset, .unset, .unset, .unset, .unset, .unset, .unset, .unset, .unset] []))
      refine own_iconst X0 hx hby at_21 ?_
      show own_G p e below s _ _ _ (s₁.setTop (mkF m 22 #[.val (Value.long x0), .second, .val (Value.int x1), .val (Value.long x2), .second, .val (Value.long x3), .second, .val (Value.int x4), .val (Value.int x5), .val (Value.int (1 : Int32)), .unset, .unset, .unset, .unset, .unset, .unset, .unset, .unset, .unset, .unset, .unset] [(Value.int (1 : Int32))]))
      refine own_goto X0 hx hby at_22 (pc' := 26) (by decide) (by decide) ?_
      show own_G p e below s _ _ _ (s₁.setTop (mkF m 26 #[.val (Value.long x0), .second, .val (Value.int x1), .val (Value.long x2), .second, .val (Value.long x3), .second, .val (Value.int x4), .val (Value.int x5), .val (Value.int (1 : Int32)), .unset, .unset, .unset, .unset, .unset, .unset, .unset, .unset, .unset, .unset, .unset] [(Value.int (1 : Int32))]))
      refine own_istore X0 hx hby at_26 (l' := #[.val (Value.long x0), .second, .val (Value.int x1), .val (Value.long x2), .second, .val (Value.long x3), .second, .val (Value.int x4), .val (Value.int x5), .val (Value.int (1 : Int32)), .val (Value.int (1 : Int32)), .unset, .unset, .unset, .unset, .unset, .unset, .unset, .unset, .unset, .unset]) rfl ?_
      show own_G p e below s _ _ _ (s₁.setTop (mkF m 28 #[.val (Value.long x0), .second, .val (Value.int x1), .val (Value.long x2), .second, .val (Value.long x3), .second, .val (Value.int x4), .val (Value.int x5), .val (Value.int (1 : Int32)), .val (Value.int (1 : Int32)), .unset, .unset, .unset, .unset, .unset, .unset, .unset, .unset, .unset, .unset] []))
      refine own_iload X0 hx hby at_28 rfl ?_
      show own_G p e below s _ _ _ (s₁.setTop (mkF m 30 #[.val (Value.long x0), .second, .val (Value.int x1), .val (Value.long x2), .second, .val (Value.long x3), .second, .val (Value.int x4), .val (Value.int x5), .val (Value.int (1 : Int32)), .val (Value.int (1 : Int32)), .unset, .unset, .unset, .unset, .unset, .unset, .unset, .unset, .unset, .unset] [(Value.int x5)]))
      refine own_iconst X0 hx hby at_30 ?_
      show own_G p e below s _ _ _ (s₁.setTop (mkF m 31 #[.val (Value.long x0), .second, .val (Value.int x1), .val (Value.long x2), .second, .val (Value.long x3), .second, .val (Value.int x4), .val (Value.int x5), .val (Value.int (1 : Int32)), .val (Value.int (1 : Int32)), .unset, .unset, .unset, .unset, .unset, .unset, .unset, .unset, .unset, .unset] [(Value.int (4 : Int32)), (Value.int x5)]))
      refine own_iand X0 hx hby at_31 ?_
      show own_G p e below s _ _ _ (s₁.setTop (mkF m 32 #[.val (Value.long x0), .second, .val (Value.int x1), .val (Value.long x2), .second, .val (Value.long x3), .second, .val (Value.int x4), .val (Value.int x5), .val (Value.int (1 : Int32)), .val (Value.int (1 : Int32)), .unset, .unset, .unset, .unset, .unset, .unset, .unset, .unset, .unset, .unset] [(Value.int (x5 &&& (4 : Int32)))]))
      refine own_if_eq X0 hx hby at_32 (pc' := 39) (by decide) (by decide) (fun hb62 => ?_) (fun hb62 => ?_)
      · show own_G p e below s _ _ _ (s₁.setTop (mkF m 39 #[.val (Value.long x0), .second, .val (Value.int x1), .val (Value.long x2), .second, .val (Value.long x3), .second, .val (Value.int x4), .val (Value.int x5), .val (Value.int (1 : Int32)), .val (Value.int (1 : Int32)), .unset, .unset, .unset, .unset, .unset, .unset, .unset, .unset, .unset, .unset] []))
        refine own_iconst X0 hx hby at_39 ?_
        show own_G p e below s _ _ _ (s₁.setTop (mkF m 40 #[.val (Value.long x0), .second, .val (Value.int x1), .val (Value.long x2), .second, .val (Value.long x3), .second, .val (Value.int x4), .val (Value.int x5), .val (Value.int (1 : Int32)), .val (Value.int (1 : Int32)), .unset, .unset, .unset, .unset, .unset, .unset, .unset, .unset, .unset, .unset] [(Value.int (0 : Int32))]))
        refine own_istore X0 hx hby at_40 (l' := #[.val (Value.long x0), .second, .val (Value.int x1), .val (Value.long x2), .second, .val (Value.long x3), .second, .val (Value.int x4), .val (Value.int x5), .val (Value.int (1 : Int32)), .val (Value.int (1 : Int32)), .val (Value.int (0 : Int32)), .unset, .unset, .unset, .unset, .unset, .unset, .unset, .unset, .unset]) rfl ?_
        show own_G p e below s _ _ _ (s₁.setTop (mkF m 42 #[.val (Value.long x0), .second, .val (Value.int x1), .val (Value.long x2), .second, .val (Value.long x3), .second, .val (Value.int x4), .val (Value.int x5), .val (Value.int (1 : Int32)), .val (Value.int (1 : Int32)), .val (Value.int (0 : Int32)), .unset, .unset, .unset, .unset, .unset, .unset, .unset, .unset, .unset] []))
        refine own_iload X0 hx hby at_42 rfl ?_
        show own_G p e below s _ _ _ (s₁.setTop (mkF m 44 #[.val (Value.long x0), .second, .val (Value.int x1), .val (Value.long x2), .second, .val (Value.long x3), .second, .val (Value.int x4), .val (Value.int x5), .val (Value.int (1 : Int32)), .val (Value.int (1 : Int32)), .val (Value.int (0 : Int32)), .unset, .unset, .unset, .unset, .unset, .unset, .unset, .unset, .unset] [(Value.int (1 : Int32))]))
        refine own_if_eq X0 hx hby at_44 (pc' := 54) (by decide) (by decide) (fun hb63 => by exfalso; revert hb63; decide) (fun hb63 => ?_)
        show own_G p e below s _ _ _ (s₁.setTop (mkF m 47 #[.val (Value.long x0), .second, .val (Value.int x1), .val (Value.long x2), .second, .val (Value.long x3), .second, .val (Value.int x4), .val (Value.int x5), .val (Value.int (1 : Int32)), .val (Value.int (1 : Int32)), .val (Value.int (0 : Int32)), .unset, .unset, .unset, .unset, .unset, .unset, .unset, .unset, .unset] []))
        refine own_lloadN X0 hx hby at_47 rfl ?_
        show own_G p e below s _ _ _ (s₁.setTop (mkF m 48 #[.val (Value.long x0), .second, .val (Value.int x1), .val (Value.long x2), .second, .val (Value.long x3), .second, .val (Value.int x4), .val (Value.int x5), .val (Value.int (1 : Int32)), .val (Value.int (1 : Int32)), .val (Value.int (0 : Int32)), .unset, .unset, .unset, .unset, .unset, .unset, .unset, .unset, .unset] [(Value.long x0)]))
        refine own_lload X0 hx hby at_48 rfl ?_
        show own_G p e below s _ _ _ (s₁.setTop (mkF m 50 #[.val (Value.long x0), .second, .val (Value.int x1), .val (Value.long x2), .second, .val (Value.long x3), .second, .val (Value.int x4), .val (Value.int x5), .val (Value.int (1 : Int32)), .val (Value.int (1 : Int32)), .val (Value.int (0 : Int32)), .unset, .unset, .unset, .unset, .unset, .unset, .unset, .unset, .unset] [(Value.long x3), (Value.long x0)]))
        refine own_ladd X0 hx hby at_50 ?_
        show own_G p e below s _ _ _ (s₁.setTop (mkF m 51 #[.val (Value.long x0), .second, .val (Value.int x1), .val (Value.long x2), .second, .val (Value.long x3), .second, .val (Value.int x4), .val (Value.int x5), .val (Value.int (1 : Int32)), .val (Value.int (1 : Int32)), .val (Value.int (0 : Int32)), .unset, .unset, .unset, .unset, .unset, .unset, .unset, .unset, .unset] [(Value.long (x0 + x3))]))
        refine own_goto X0 hx hby at_51 (pc' := 55) (by decide) (by decide) ?_
        show own_G p e below s _ _ _ (s₁.setTop (mkF m 55 #[.val (Value.long x0), .second, .val (Value.int x1), .val (Value.long x2), .second, .val (Value.long x3), .second, .val (Value.int x4), .val (Value.int x5), .val (Value.int (1 : Int32)), .val (Value.int (1 : Int32)), .val (Value.int (0 : Int32)), .unset, .unset, .unset, .unset, .unset, .unset, .unset, .unset, .unset] [(Value.long (x0 + x3))]))
        refine own_lstore X0 hx hby at_55 (l' := #[.val (Value.long x0), .second, .val (Value.int x1), .val (Value.long x2), .second, .val (Value.long x3), .second, .val (Value.int x4), .val (Value.int x5), .val (Value.int (1 : Int32)), .val (Value.int (1 : Int32)), .val (Value.int (0 : Int32)), .val (Value.long (x0 + x3)), .second, .unset, .unset, .unset, .unset, .unset, .unset, .unset]) rfl ?_
        show own_G p e below s _ _ _ (s₁.setTop (mkF m 57 #[.val (Value.long x0), .second, .val (Value.int x1), .val (Value.long x2), .second, .val (Value.long x3), .second, .val (Value.int x4), .val (Value.int x5), .val (Value.int (1 : Int32)), .val (Value.int (1 : Int32)), .val (Value.int (0 : Int32)), .val (Value.long (x0 + x3)), .second, .unset, .unset, .unset, .unset, .unset, .unset, .unset] []))
        refine own_iload X0 hx hby at_57 rfl ?_
        show own_G p e below s _ _ _ (s₁.setTop (mkF m 59 #[.val (Value.long x0), .second, .val (Value.int x1), .val (Value.long x2), .second, .val (Value.long x3), .second, .val (Value.int x4), .val (Value.int x5), .val (Value.int (1 : Int32)), .val (Value.int (1 : Int32)), .val (Value.int (0 : Int32)), .val (Value.long (x0 + x3)), .second, .unset, .unset, .unset, .unset, .unset, .unset, .unset] [(Value.int (1 : Int32))]))
        refine own_if_eq X0 hx hby at_59 (pc' := 69) (by decide) (by decide) (fun hb64 => by exfalso; revert hb64; decide) (fun hb64 => ?_)
        show own_G p e below s _ _ _ (s₁.setTop (mkF m 62 #[.val (Value.long x0), .second, .val (Value.int x1), .val (Value.long x2), .second, .val (Value.long x3), .second, .val (Value.int x4), .val (Value.int x5), .val (Value.int (1 : Int32)), .val (Value.int (1 : Int32)), .val (Value.int (0 : Int32)), .val (Value.long (x0 + x3)), .second, .unset, .unset, .unset, .unset, .unset, .unset, .unset] []))
        refine own_iloadN X0 hx hby at_62 rfl ?_
        show own_G p e below s _ _ _ (s₁.setTop (mkF m 63 #[.val (Value.long x0), .second, .val (Value.int x1), .val (Value.long x2), .second, .val (Value.long x3), .second, .val (Value.int x4), .val (Value.int x5), .val (Value.int (1 : Int32)), .val (Value.int (1 : Int32)), .val (Value.int (0 : Int32)), .val (Value.long (x0 + x3)), .second, .unset, .unset, .unset, .unset, .unset, .unset, .unset] [(Value.int x1)]))
        refine own_iload X0 hx hby at_63 rfl ?_
        show own_G p e below s _ _ _ (s₁.setTop (mkF m 65 #[.val (Value.long x0), .second, .val (Value.int x1), .val (Value.long x2), .second, .val (Value.long x3), .second, .val (Value.int x4), .val (Value.int x5), .val (Value.int (1 : Int32)), .val (Value.int (1 : Int32)), .val (Value.int (0 : Int32)), .val (Value.long (x0 + x3)), .second, .unset, .unset, .unset, .unset, .unset, .unset, .unset] [(Value.int x4), (Value.int x1)]))
        refine own_iadd X0 hx hby at_65 ?_
        show own_G p e below s _ _ _ (s₁.setTop (mkF m 66 #[.val (Value.long x0), .second, .val (Value.int x1), .val (Value.long x2), .second, .val (Value.long x3), .second, .val (Value.int x4), .val (Value.int x5), .val (Value.int (1 : Int32)), .val (Value.int (1 : Int32)), .val (Value.int (0 : Int32)), .val (Value.long (x0 + x3)), .second, .unset, .unset, .unset, .unset, .unset, .unset, .unset] [(Value.int (x1 + x4))]))
        refine own_goto X0 hx hby at_66 (pc' := 70) (by decide) (by decide) ?_
        show own_G p e below s _ _ _ (s₁.setTop (mkF m 70 #[.val (Value.long x0), .second, .val (Value.int x1), .val (Value.long x2), .second, .val (Value.long x3), .second, .val (Value.int x4), .val (Value.int x5), .val (Value.int (1 : Int32)), .val (Value.int (1 : Int32)), .val (Value.int (0 : Int32)), .val (Value.long (x0 + x3)), .second, .unset, .unset, .unset, .unset, .unset, .unset, .unset] [(Value.int (x1 + x4))]))
        refine own_istore X0 hx hby at_70 (l' := #[.val (Value.long x0), .second, .val (Value.int x1), .val (Value.long x2), .second, .val (Value.long x3), .second, .val (Value.int x4), .val (Value.int x5), .val (Value.int (1 : Int32)), .val (Value.int (1 : Int32)), .val (Value.int (0 : Int32)), .val (Value.long (x0 + x3)), .second, .val (Value.int (x1 + x4)), .unset, .unset, .unset, .unset, .unset, .unset]) rfl ?_
        show own_G p e below s _ _ _ (s₁.setTop (mkF m 72 #[.val (Value.long x0), .second, .val (Value.int x1), .val (Value.long x2), .second, .val (Value.long x3), .second, .val (Value.int x4), .val (Value.int x5), .val (Value.int (1 : Int32)), .val (Value.int (1 : Int32)), .val (Value.int (0 : Int32)), .val (Value.long (x0 + x3)), .second, .val (Value.int (x1 + x4)), .unset, .unset, .unset, .unset, .unset, .unset] []))
        refine own_iload X0 hx hby at_72 rfl ?_
        show own_G p e below s _ _ _ (s₁.setTop (mkF m 74 #[.val (Value.long x0), .second, .val (Value.int x1), .val (Value.long x2), .second, .val (Value.long x3), .second, .val (Value.int x4), .val (Value.int x5), .val (Value.int (1 : Int32)), .val (Value.int (1 : Int32)), .val (Value.int (0 : Int32)), .val (Value.long (x0 + x3)), .second, .val (Value.int (x1 + x4)), .unset, .unset, .unset, .unset, .unset, .unset] [(Value.int (0 : Int32))]))
        refine own_if_eq X0 hx hby at_74 (pc' := 84) (by decide) (by decide) (fun hb65 => ?_) (fun hb65 => by exfalso; revert hb65; decide)
        show own_G p e below s _ _ _ (s₁.setTop (mkF m 84 #[.val (Value.long x0), .second, .val (Value.int x1), .val (Value.long x2), .second, .val (Value.long x3), .second, .val (Value.int x4), .val (Value.int x5), .val (Value.int (1 : Int32)), .val (Value.int (1 : Int32)), .val (Value.int (0 : Int32)), .val (Value.long (x0 + x3)), .second, .val (Value.int (x1 + x4)), .unset, .unset, .unset, .unset, .unset, .unset] []))
        refine own_lloadN X0 hx hby at_84 rfl ?_
        show own_G p e below s _ _ _ (s₁.setTop (mkF m 85 #[.val (Value.long x0), .second, .val (Value.int x1), .val (Value.long x2), .second, .val (Value.long x3), .second, .val (Value.int x4), .val (Value.int x5), .val (Value.int (1 : Int32)), .val (Value.int (1 : Int32)), .val (Value.int (0 : Int32)), .val (Value.long (x0 + x3)), .second, .val (Value.int (x1 + x4)), .unset, .unset, .unset, .unset, .unset, .unset] [(Value.long x2)]))
        refine own_lstore X0 hx hby at_85 (l' := #[.val (Value.long x0), .second, .val (Value.int x1), .val (Value.long x2), .second, .val (Value.long x3), .second, .val (Value.int x4), .val (Value.int x5), .val (Value.int (1 : Int32)), .val (Value.int (1 : Int32)), .val (Value.int (0 : Int32)), .val (Value.long (x0 + x3)), .second, .val (Value.int (x1 + x4)), .val (Value.long x2), .second, .unset, .unset, .unset, .unset]) rfl ?_
        show own_G p e below s _ _ _ (s₁.setTop (mkF m 87 #[.val (Value.long x0), .second, .val (Value.int x1), .val (Value.long x2), .second, .val (Value.long x3), .second, .val (Value.int x4), .val (Value.int x5), .val (Value.int (1 : Int32)), .val (Value.int (1 : Int32)), .val (Value.int (0 : Int32)), .val (Value.long (x0 + x3)), .second, .val (Value.int (x1 + x4)), .val (Value.long x2), .second, .unset, .unset, .unset, .unset] []))
        exact Jn _ _ _ _ _ _
      · show own_G p e below s _ _ _ (s₁.setTop (mkF m 35 #[.val (Value.long x0), .second, .val (Value.int x1), .val (Value.long x2), .second, .val (Value.long x3), .second, .val (Value.int x4), .val (Value.int x5), .val (Value.int (1 : Int32)), .val (Value.int (1 : Int32)), .unset, .unset, .unset, .unset, .unset, .unset, .unset, .unset, .unset, .unset] []))
        refine own_iconst X0 hx hby at_35 ?_
        show own_G p e below s _ _ _ (s₁.setTop (mkF m 36 #[.val (Value.long x0), .second, .val (Value.int x1), .val (Value.long x2), .second, .val (Value.long x3), .second, .val (Value.int x4), .val (Value.int x5), .val (Value.int (1 : Int32)), .val (Value.int (1 : Int32)), .unset, .unset, .unset, .unset, .unset, .unset, .unset, .unset, .unset, .unset] [(Value.int (1 : Int32))]))
        refine own_goto X0 hx hby at_36 (pc' := 40) (by decide) (by decide) ?_
        show own_G p e below s _ _ _ (s₁.setTop (mkF m 40 #[.val (Value.long x0), .second, .val (Value.int x1), .val (Value.long x2), .second, .val (Value.long x3), .second, .val (Value.int x4), .val (Value.int x5), .val (Value.int (1 : Int32)), .val (Value.int (1 : Int32)), .unset, .unset, .unset, .unset, .unset, .unset, .unset, .unset, .unset, .unset] [(Value.int (1 : Int32))]))
        refine own_istore X0 hx hby at_40 (l' := #[.val (Value.long x0), .second, .val (Value.int x1), .val (Value.long x2), .second, .val (Value.long x3), .second, .val (Value.int x4), .val (Value.int x5), .val (Value.int (1 : Int32)), .val (Value.int (1 : Int32)), .val (Value.int (1 : Int32)), .unset, .unset, .unset, .unset, .unset, .unset, .unset, .unset, .unset]) rfl ?_
        show own_G p e below s _ _ _ (s₁.setTop (mkF m 42 #[.val (Value.long x0), .second, .val (Value.int x1), .val (Value.long x2), .second, .val (Value.long x3), .second, .val (Value.int x4), .val (Value.int x5), .val (Value.int (1 : Int32)), .val (Value.int (1 : Int32)), .val (Value.int (1 : Int32)), .unset, .unset, .unset, .unset, .unset, .unset, .unset, .unset, .unset] []))
        refine own_iload X0 hx hby at_42 rfl ?_
        show own_G p e below s _ _ _ (s₁.setTop (mkF m 44 #[.val (Value.long x0), .second, .val (Value.int x1), .val (Value.long x2), .second, .val (Value.long x3), .second, .val (Value.int x4), .val (Value.int x5), .val (Value.int (1 : Int32)), .val (Value.int (1 : Int32)), .val (Value.int (1 : Int32)), .unset, .unset, .unset, .unset, .unset, .unset, .unset, .unset, .unset] [(Value.int (1 : Int32))]))
        refine own_if_eq X0 hx hby at_44 (pc' := 54) (by decide) (by decide) (fun hb66 => by exfalso; revert hb66; decide) (fun hb66 => ?_)
        show own_G p e below s _ _ _ (s₁.setTop (mkF m 47 #[.val (Value.long x0), .second, .val (Value.int x1), .val (Value.long x2), .second, .val (Value.long x3), .second, .val (Value.int x4), .val (Value.int x5), .val (Value.int (1 : Int32)), .val (Value.int (1 : Int32)), .val (Value.int (1 : Int32)), .unset, .unset, .unset, .unset, .unset, .unset, .unset, .unset, .unset] []))
        refine own_lloadN X0 hx hby at_47 rfl ?_
        show own_G p e below s _ _ _ (s₁.setTop (mkF m 48 #[.val (Value.long x0), .second, .val (Value.int x1), .val (Value.long x2), .second, .val (Value.long x3), .second, .val (Value.int x4), .val (Value.int x5), .val (Value.int (1 : Int32)), .val (Value.int (1 : Int32)), .val (Value.int (1 : Int32)), .unset, .unset, .unset, .unset, .unset, .unset, .unset, .unset, .unset] [(Value.long x0)]))
        refine own_lload X0 hx hby at_48 rfl ?_
        show own_G p e below s _ _ _ (s₁.setTop (mkF m 50 #[.val (Value.long x0), .second, .val (Value.int x1), .val (Value.long x2), .second, .val (Value.long x3), .second, .val (Value.int x4), .val (Value.int x5), .val (Value.int (1 : Int32)), .val (Value.int (1 : Int32)), .val (Value.int (1 : Int32)), .unset, .unset, .unset, .unset, .unset, .unset, .unset, .unset, .unset] [(Value.long x3), (Value.long x0)]))
        refine own_ladd X0 hx hby at_50 ?_
        show own_G p e below s _ _ _ (s₁.setTop (mkF m 51 #[.val (Value.long x0), .second, .val (Value.int x1), .val (Value.long x2), .second, .val (Value.long x3), .second, .val (Value.int x4), .val (Value.int x5), .val (Value.int (1 : Int32)), .val (Value.int (1 : Int32)), .val (Value.int (1 : Int32)), .unset, .unset, .unset, .unset, .unset, .unset, .unset, .unset, .unset] [(Value.long (x0 + x3))]))
        refine own_goto X0 hx hby at_51 (pc' := 55) (by decide) (by decide) ?_
        show own_G p e below s _ _ _ (s₁.setTop (mkF m 55 #[.val (Value.long x0), .second, .val (Value.int x1), .val (Value.long x2), .second, .val (Value.long x3), .second, .val (Value.int x4), .val (Value.int x5), .val (Value.int (1 : Int32)), .val (Value.int (1 : Int32)), .val (Value.int (1 : Int32)), .unset, .unset, .unset, .unset, .unset, .unset, .unset, .unset, .unset] [(Value.long (x0 + x3))]))
        refine own_lstore X0 hx hby at_55 (l' := #[.val (Value.long x0), .second, .val (Value.int x1), .val (Value.long x2), .second, .val (Value.long x3), .second, .val (Value.int x4), .val (Value.int x5), .val (Value.int (1 : Int32)), .val (Value.int (1 : Int32)), .val (Value.int (1 : Int32)), .val (Value.long (x0 + x3)), .second, .unset, .unset, .unset, .unset, .unset, .unset, .unset]) rfl ?_
        show own_G p e below s _ _ _ (s₁.setTop (mkF m 57 #[.val (Value.long x0), .second, .val (Value.int x1), .val (Value.long x2), .second, .val (Value.long x3), .second, .val (Value.int x4), .val (Value.int x5), .val (Value.int (1 : Int32)), .val (Value.int (1 : Int32)), .val (Value.int (1 : Int32)), .val (Value.long (x0 + x3)), .second, .unset, .unset, .unset, .unset, .unset, .unset, .unset] []))
        refine own_iload X0 hx hby at_57 rfl ?_
        show own_G p e below s _ _ _ (s₁.setTop (mkF m 59 #[.val (Value.long x0), .second, .val (Value.int x1), .val (Value.long x2), .second, .val (Value.long x3), .second, .val (Value.int x4), .val (Value.int x5), .val (Value.int (1 : Int32)), .val (Value.int (1 : Int32)), .val (Value.int (1 : Int32)), .val (Value.long (x0 + x3)), .second, .unset, .unset, .unset, .unset, .unset, .unset, .unset] [(Value.int (1 : Int32))]))
        refine own_if_eq X0 hx hby at_59 (pc' := 69) (by decide) (by decide) (fun hb67 => by exfalso; revert hb67; decide) (fun hb67 => ?_)
        show own_G p e below s _ _ _ (s₁.setTop (mkF m 62 #[.val (Value.long x0), .second, .val (Value.int x1), .val (Value.long x2), .second, .val (Value.long x3), .second, .val (Value.int x4), .val (Value.int x5), .val (Value.int (1 : Int32)), .val (Value.int (1 : Int32)), .val (Value.int (1 : Int32)), .val (Value.long (x0 + x3)), .second, .unset, .unset, .unset, .unset, .unset, .unset, .unset] []))
        refine own_iloadN X0 hx hby at_62 rfl ?_
        show own_G p e below s _ _ _ (s₁.setTop (mkF m 63 #[.val (Value.long x0), .second, .val (Value.int x1), .val (Value.long x2), .second, .val (Value.long x3), .second, .val (Value.int x4), .val (Value.int x5), .val (Value.int (1 : Int32)), .val (Value.int (1 : Int32)), .val (Value.int (1 : Int32)), .val (Value.long (x0 + x3)), .second, .unset, .unset, .unset, .unset, .unset, .unset, .unset] [(Value.int x1)]))
        refine own_iload X0 hx hby at_63 rfl ?_
        show own_G p e below s _ _ _ (s₁.setTop (mkF m 65 #[.val (Value.long x0), .second, .val (Value.int x1), .val (Value.long x2), .second, .val (Value.long x3), .second, .val (Value.int x4), .val (Value.int x5), .val (Value.int (1 : Int32)), .val (Value.int (1 : Int32)), .val (Value.int (1 : Int32)), .val (Value.long (x0 + x3)), .second, .unset, .unset, .unset, .unset, .unset, .unset, .unset] [(Value.int x4), (Value.int x1)]))
        refine own_iadd X0 hx hby at_65 ?_
        show own_G p e below s _ _ _ (s₁.setTop (mkF m 66 #[.val (Value.long x0), .second, .val (Value.int x1), .val (Value.long x2), .second, .val (Value.long x3), .second, .val (Value.int x4), .val (Value.int x5), .val (Value.int (1 : Int32)), .val (Value.int (1 : Int32)), .val (Value.int (1 : Int32)), .val (Value.long (x0 + x3)), .second, .unset, .unset, .unset, .unset, .unset, .unset, .unset] [(Value.int (x1 + x4))]))
        refine own_goto X0 hx hby at_66 (pc' := 70) (by decide) (by decide) ?_
        show own_G p e below s _ _ _ (s₁.setTop (mkF m 70 #[.val (Value.long x0), .second, .val (Value.int x1), .val (Value.long x2), .second, .val (Value.long x3), .second, .val (Value.int x4), .val (Value.int x5), .val (Value.int (1 : Int32)), .val (Value.int (1 : Int32)), .val (Value.int (1 : Int32)), .val (Value.long (x0 + x3)), .second, .unset, .unset, .unset, .unset, .unset, .unset, .unset] [(Value.int (x1 + x4))]))
        refine own_istore X0 hx hby at_70 (l' := #[.val (Value.long x0), .second, .val (Value.int x1), .val (Value.long x2), .second, .val (Value.long x3), .second, .val (Value.int x4), .val (Value.int x5), .val (Value.int (1 : Int32)), .val (Value.int (1 : Int32)), .val (Value.int (1 : Int32)), .val (Value.long (x0 + x3)), .second, .val (Value.int (x1 + x4)), .unset, .unset, .unset, .unset, .unset, .unset]) rfl ?_
        show own_G p e below s _ _ _ (s₁.setTop (mkF m 72 #[.val (Value.long x0), .second, .val (Value.int x1), .val (Value.long x2), .second, .val (Value.long x3), .second, .val (Value.int x4), .val (Value.int x5), .val (Value.int (1 : Int32)), .val (Value.int (1 : Int32)), .val (Value.int (1 : Int32)), .val (Value.long (x0 + x3)), .second, .val (Value.int (x1 + x4)), .unset, .unset, .unset, .unset, .unset, .unset] []))
        refine own_iload X0 hx hby at_72 rfl ?_
        show own_G p e below s _ _ _ (s₁.setTop (mkF m 74 #[.val (Value.long x0), .second, .val (Value.int x1), .val (Value.long x2), .second, .val (Value.long x3), .second, .val (Value.int x4), .val (Value.int x5), .val (Value.int (1 : Int32)), .val (Value.int (1 : Int32)), .val (Value.int (1 : Int32)), .val (Value.long (x0 + x3)), .second, .val (Value.int (x1 + x4)), .unset, .unset, .unset, .unset, .unset, .unset] [(Value.int (1 : Int32))]))
        refine own_if_eq X0 hx hby at_74 (pc' := 84) (by decide) (by decide) (fun hb68 => by exfalso; revert hb68; decide) (fun hb68 => ?_)
        show own_G p e below s _ _ _ (s₁.setTop (mkF m 77 #[.val (Value.long x0), .second, .val (Value.int x1), .val (Value.long x2), .second, .val (Value.long x3), .second, .val (Value.int x4), .val (Value.int x5), .val (Value.int (1 : Int32)), .val (Value.int (1 : Int32)), .val (Value.int (1 : Int32)), .val (Value.long (x0 + x3)), .second, .val (Value.int (x1 + x4)), .unset, .unset, .unset, .unset, .unset, .unset] []))
        refine own_lloadN X0 hx hby at_77 rfl ?_
        show own_G p e below s _ _ _ (s₁.setTop (mkF m 78 #[.val (Value.long x0), .second, .val (Value.int x1), .val (Value.long x2), .second, .val (Value.long x3), .second, .val (Value.int x4), .val (Value.int x5), .val (Value.int (1 : Int32)), .val (Value.int (1 : Int32)), .val (Value.int (1 : Int32)), .val (Value.long (x0 + x3)), .second, .val (Value.int (x1 + x4)), .unset, .unset, .unset, .unset, .unset, .unset] [(Value.long x2)]))
        refine own_lload X0 hx hby at_78 rfl ?_
        show own_G p e below s _ _ _ (s₁.setTop (mkF m 80 #[.val (Value.long x0), .second, .val (Value.int x1), .val (Value.long x2), .second, .val (Value.long x3), .second, .val (Value.int x4), .val (Value.int x5), .val (Value.int (1 : Int32)), .val (Value.int (1 : Int32)), .val (Value.int (1 : Int32)), .val (Value.long (x0 + x3)), .second, .val (Value.int (x1 + x4)), .unset, .unset, .unset, .unset, .unset, .unset] [(Value.long x3), (Value.long x2)]))
        refine own_lxor X0 hx hby at_80 ?_
        show own_G p e below s _ _ _ (s₁.setTop (mkF m 81 #[.val (Value.long x0), .second, .val (Value.int x1), .val (Value.long x2), .second, .val (Value.long x3), .second, .val (Value.int x4), .val (Value.int x5), .val (Value.int (1 : Int32)), .val (Value.int (1 : Int32)), .val (Value.int (1 : Int32)), .val (Value.long (x0 + x3)), .second, .val (Value.int (x1 + x4)), .unset, .unset, .unset, .unset, .unset, .unset] [(Value.long (x2 ^^^ x3))]))
        refine own_goto X0 hx hby at_81 (pc' := 85) (by decide) (by decide) ?_
        show own_G p e below s _ _ _ (s₁.setTop (mkF m 85 #[.val (Value.long x0), .second, .val (Value.int x1), .val (Value.long x2), .second, .val (Value.long x3), .second, .val (Value.int x4), .val (Value.int x5), .val (Value.int (1 : Int32)), .val (Value.int (1 : Int32)), .val (Value.int (1 : Int32)), .val (Value.long (x0 + x3)), .second, .val (Value.int (x1 + x4)), .unset, .unset, .unset, .unset, .unset, .unset] [(Value.long (x2 ^^^ x3))]))
        refine own_lstore X0 hx hby at_85 (l' := #[.val (Value.long x0), .second, .val (Value.int x1), .val (Value.long x2), .second, .val (Value.long x3), .second, .val (Value.int x4), .val (Value.int x5), .val (Value.int (1 : Int32)), .val (Value.int (1 : Int32)), .val (Value.int (1 : Int32)), .val (Value.long (x0 + x3)), .second, .val (Value.int (x1 + x4)), .val (Value.long (x2 ^^^ x3)), .second, .unset, .unset, .unset, .unset]) rfl ?_
        show own_G p e below s _ _ _ (s₁.setTop (mkF m 87 #[.val (Value.long x0), .second, .val (Value.int x1), .val (Value.long x2), .second, .val (Value.long x3), .second, .val (Value.int x4), .val (Value.int x5), .val (Value.int (1 : Int32)), .val (Value.int (1 : Int32)), .val (Value.int (1 : Int32)), .val (Value.long (x0 + x3)), .second, .val (Value.int (x1 + x4)), .val (Value.long (x2 ^^^ x3)), .second, .unset, .unset, .unset, .unset] []))
        exact Jn _ _ _ _ _ _
set_option maxRecDepth 65536 in
set_option maxHeartbeats 40000000 in
theorem comes_1 {Post : Tables → Env → Array Value → State → Outcome → State → Prop} (hpost : ∀ tb e args s v u, (limb_1_1.after args s (.returned v) u = true ∧ limb_1_2.after args s (.returned v) u = true ∧ True) → FrameEnd s (.returned v) u (Jvm.fieldLocs frame_1_writes args s ++ Jvm.arrayLocs frame_1_arrays args s ++ Jvm.staticLocs frame_1_statics s) 16 128 → Post tb e args s (.returned v) u) :
    ArmFor flags0 classFile x code maxLocals ret World_1 tables_1 room_1 Calls_1 rest_1 Pre_1 Post := by
  intro l hfl _ _ p e ha hc hk s m args below hf hA hF happ hP
  obtain ⟨hcalls, hrest, hpre⟩ := hP
  obtain ⟨-, -, -, hnamed, -, -, -, hat⟩ := (Spec.applies_iff hf).mp happ
  obtain ⟨hg, hn⟩ := and_e (Cond.before_iff.mp (show (Jvm.Cond.and given_1 narrow_1).before args s = true from hpre))
  obtain ⟨hgc, hgr0⟩ := and_e hg
  obtain ⟨hga0, hgr1⟩ := and_e hgr0
  obtain ⟨hga1, hgr2⟩ := and_e hgr1
  obtain ⟨hga2, hgr3⟩ := and_e hgr2
  obtain ⟨hga3, hgr4⟩ := and_e hgr3
  obtain ⟨hga4, hgr5⟩ := and_e hgr4
  have hga5 := hgr5
  obtain ⟨w0, w1, w2, w3, w4, w5, rfl⟩ : ∃ w0 w1 w2 w3 w4 w5 : Value, args = #[w0, w1, w2, w3, w4, w5] := by
    have hs : args.size = 6 := by simpa [Cond.value, given_1] using hgc
    obtain ⟨L⟩ := args
    match L, hs with
    | [w0, w1, w2, w3, w4, w5], _ => exact ⟨w0, w1, w2, w3, w4, w5, rfl⟩
  have hw := fun d (hd : d ∈ tables_1) => atoms_spec (ws := Jvm.Cond.code x code maxLocals ret :: tables_1) hat d (List.mem_cons_of_mem _ hd)
  have hfit : Fit s := fun {y c} hc i hi => by
    obtain ⟨ha, rfl⟩ := Array.getElem?_eq_some_iff.mp hc
    have q := List.all_eq_true.mp ((Array.all_eq_true_iff_forall_mem.mp hF) _ (Array.getElem_mem ha)) i (List.mem_range.mpr hi)
    simpa [Array.getElem?_eq_getElem hi] using q
  obtain ⟨i0, ei0⟩ := isL_v hga0
  obtain rfl : w0 = (.long i0) := Option.some.inj ei0
  obtain ⟨i1, ei1⟩ := is_v hga1
  obtain rfl : w1 = (.int i1) := Option.some.inj ei1
  obtain ⟨i2, ei2⟩ := isL_v hga2
  obtain rfl : w2 = (.long i2) := Option.some.inj ei2
  obtain ⟨i3, ei3⟩ := isL_v hga3
  obtain rfl : w3 = (.long i3) := Option.some.inj ei3
  obtain ⟨i4, ei4⟩ := is_v hga4
  obtain rfl : w4 = (.int i4) := Option.some.inj ei4
  obtain ⟨i5, ei5⟩ := is_v hga5
  obtain rfl : w5 = (.int i5) := Option.some.inj ei5
  obtain ⟨hsets, hown0⟩ := atoms_of _ (rest_1_c_eq ▸ (show rest_1_c.before _ s = true from hrest))
  obtain ⟨arr, f, hC⟩ := own_cache (Or.inl (hsets _ (List.mem_of_getElem? (i := 1) rfl))) (hsets _ (List.mem_of_getElem? (i := 2) rfl)) (hsets _ (List.mem_of_getElem? (i := 4) rfl)) (hsets _ (List.mem_of_getElem? (i := 5) rfl))
  obtain ⟨n, o, h1, h2, h3, _, L, rfl, ⟨rfl, N⟩, hq⟩ := own_rm0 l s _ hw tables_1 i0 i1 i2 i3 i4 i5 arr f s.heap s.heap.size (Old.start s) hC p e ha hc hk s m _ below hf ((Spec.applies_iff_loose hf).mp happ).1 ⟨rfl, State.Warmed39.refl s, rfl⟩ trivial
  refine ⟨n, _, h1, h2, h3, hpost _ _ _ _ _ _ ⟨Cond.after_iff.mpr rfl, Cond.after_iff.mpr (eq_i res_at (Term.int_eval (1)) rfl), trivial⟩ ⟨hq.1, hq.2.1, (hq.2.2.sift fun y hy => Or.inr (N y hy)).mono (by decide) (by decide)⟩⟩
theorem main_1_1 : Claimed_1_1 := comes_1 fun _ _ _ _ _ _ h hF => ⟨h.1, hF⟩
theorem main_1_2 : Claimed_1_2 := comes_1 fun _ _ _ _ _ _ h hF => ⟨h.2.1, hF⟩
end Jvm.Pilot.@@N@@
namespace Jvm.Pilot.@@N@@
open Jvm Jvm.ClassFile Sem Op Lib Jvm.Free Jvm.Stand Jvm.Pilot.@@N@@.Jvm.D
/-! MADE BY PROGRAM (witnessworld.py) out of the Statement's table words and the real class files: 16 classes; the members and pool entries that the words name. The judged class is class 1, her method 1. -/
namespace start1
open Jvm.ClassFile
def u (s : String) : CpInfo := .utf8 (stringToUtf16 s)
/-- a pool by its gaps: so many unusable entries, then the entry; so many at the end -/
def gap : Nat → List CpInfo → List CpInfo
  | 0, r => r
  | n + 1, r => .unusable :: gap n r
def poolList (es : List (Nat × CpInfo)) (last : Nat) : List CpInfo := es.foldr (fun e r => gap e.1 (e.2 :: r)) (gap last [])
def pool (es : List (Nat × CpInfo)) (last : Nat) : Array CpInfo := ⟨poolList es last⟩
def fileOf (pool : Array CpInfo) (this : Nat) (attrs : Array Attribute := #[]) (ms : Array MethodInfo := #[]) (fl : Nat := 33) (sup : Nat := 0) (ifs : Array Nat := #[]) (fds : Array FieldInfo := #[]) : ClassFile where
  minorVersion := 0
  majorVersion := 65
  constantPool := pool
  accessFlags := fl
  thisClass := this
  superClass := sup
  interfaces := ifs
  fields := fds
  methods := ms
  attributes := attrs
def plain (name : String) (sup : Option ClassId) : Class where
  name := name
  kind := .ordinary
  loader := none
  accessFlags := 33
  super := sup
  interfaces := #[]
  cf := none
  fields := #[]
  methods := #[]
  instanceTypes := #[]
  staticTypes := #[]
  resolved := #[]
  callSites := []
  init := .initialized
  statics := none
  mirror := none

def pool0 : Array CpInfo := pool [(5, u "<init>"), (0, u "()V"), (1, .class_ 10), (1, u "java/lang/Object")] 113

def k0c0 : Code := { maxStack := 0, maxLocals := 1, code := object_method_1_code, exceptionTable := #[], attributes := #[] }
def k0m0 : Method := { name := "<init>", desc := "()V", sig := { parameters := [], returnType := none }, accessFlags := 1, code := some k0c0 }
/-- java/lang/Object -/
def k0 : Class := { plain "java/lang/Object" none with
  accessFlags := 33
  interfaces := #[]
  cf := some (fileOf pool0 8 #[] #[{ accessFlags := 1, nameIndex := 5, descriptorIndex := 6, attributes := #[] }] 33 0 #[] #[])
  fields := #[]
  methods := #[k0m0]
  instanceTypes := #[]
  staticTypes := #[]
  resolved := Array.replicate 124 none
  statics := none }

def pool1 : Array CpInfo := pool [(2, .class_ 4), (1, u "java/lang/Object"), (0, u "<init>"), (0, u "()V"), (0, .class_ 8), (0, u "com/example/iron_log/ironlog/consumequeue/QueueEntry"), (0, .methodref 7 10), (0, .nameAndType 5 11), (0, u "(JIJ)V"), (0, .methodref 7 13), (0, .nameAndType 14 15), (0, u "equals"), (0, u "(Ljava/lang/Object;)Z"), (0, .methodref 17 18), (0, .class_ 19), (0, .nameAndType 20 21), (0, u "java/lang/Long"), (0, u "valueOf"), (0, u "(J)Ljava/lang/Long;"), (0, .class_ 23), (0, u "com/example/iron_log/ironlog/consumequeue/QueueEntryEqualsPinLaw"), (2, u "law"), (0, u "(JIJJII)Z")] 3

def k1m0 : Method := { name := "<init>", desc := "()V", sig := { parameters := [], returnType := none }, accessFlags := 2, code := none }
def k1c1 : Code := { maxStack := 7, maxLocals := 21, code := code, exceptionTable := #[], attributes := #[] }
def k1m1 : Method := { name := "law", desc := "(JIJJII)Z", sig := { parameters := [.long, .int, .long, .long, .int, .int], returnType := some .boolean }, accessFlags := 9, code := some k1c1 }
/-- com/example/iron_log/ironlog/consumequeue/QueueEntryEqualsPinLaw -/
def k1 : Class := { plain "com/example/iron_log/ironlog/consumequeue/QueueEntryEqualsPinLaw" (some 0) with
  accessFlags := 49
  interfaces := #[]
  cf := some (fileOf pool1 22 #[] #[{ accessFlags := 2, nameIndex := 5, descriptorIndex := 6, attributes := #[] }, { accessFlags := 9, nameIndex := 26, descriptorIndex := 27, attributes := #[] }] 49 2 #[] #[])
  fields := #[]
  methods := #[k1m0, k1m1]
  instanceTypes := #[]
  staticTypes := #[]
  resolved := Array.replicate 31 none
  statics := none }

def pool2 : Array CpInfo := pool [(3, .methodref 4 5), (0, .class_ 6), (0, .nameAndType 7 8), (0, u "java/lang/Object"), (0, u "<init>"), (0, u "()V"), (0, .fieldref 10 11), (0, .class_ 12), (0, .nameAndType 13 14), (0, u "com/example/iron_log/ironlog/consumequeue/QueueEntry"), (0, u "commitLogOffset"), (0, u "J"), (0, .fieldref 10 16), (0, .nameAndType 17 18), (0, u "recordSize"), (0, u "I"), (0, .fieldref 10 20), (0, .nameAndType 21 14), (0, u "tagsCode"), (19, u "(JIJ)V"), (14, u "LOST_SIZE"), (2, u "DAMAGE_TAGS_CODE"), (15, u "equals"), (0, u "(Ljava/lang/Object;)Z")] 18

def k2c0 : Code := { maxStack := 3, maxLocals := 6, code := prog_44_method_1_code, exceptionTable := #[], attributes := #[] }
def k2m0 : Method := { name := "<init>", desc := "(JIJ)V", sig := { parameters := [.long, .int, .long], returnType := none }, accessFlags := 1, code := some k2c0 }
def k2c1 : Code := { maxStack := 4, maxLocals := 3, code := prog_44_method_13_code, exceptionTable := #[], attributes := #[] }
def k2m1 : Method := { name := "equals", desc := "(Ljava/lang/Object;)Z", sig := { parameters := [(.object "java/lang/Object")], returnType := some .boolean }, accessFlags := 1, code := some k2c1 }
/-- com/example/iron_log/ironlog/consumequeue/QueueEntry -/
def k2 : Class := { plain "com/example/iron_log/ironlog/consumequeue/QueueEntry" (some 0) with
  accessFlags := 33
  interfaces := #[]
  cf := some (fileOf pool2 10 #[] #[{ accessFlags := 1, nameIndex := 7, descriptorIndex := 41, attributes := #[] }, { accessFlags := 1, nameIndex := 75, descriptorIndex := 76, attributes := #[] }] 33 4 #[] #[{ accessFlags := 26, nameIndex := 56, descriptorIndex := 18, attributes := #[] }, { accessFlags := 26, nameIndex := 59, descriptorIndex := 14, attributes := #[] }, { accessFlags := 18, nameIndex := 13, descriptorIndex := 14, attributes := #[] }, { accessFlags := 18, nameIndex := 17, descriptorIndex := 18, attributes := #[] }, { accessFlags := 18, nameIndex := 21, descriptorIndex := 14, attributes := #[] }])
  fields := #[{ name := "LOST_SIZE", type := .int, accessFlags := 26, slot := 0, constantValue := 0 }, { name := "DAMAGE_TAGS_CODE", type := .long, accessFlags := 26, slot := 1, constantValue := 0 }, { name := "commitLogOffset", type := .long, accessFlags := 18, slot := 0, constantValue := 0 }, { name := "recordSize", type := .int, accessFlags := 18, slot := 1, constantValue := 0 }, { name := "tagsCode", type := .long, accessFlags := 18, slot := 2, constantValue := 0 }]
  methods := #[k2m0, k2m1]
  instanceTypes := #[.long, .int, .long]
  staticTypes := #[.int, .long]
  resolved := Array.replicate 95 none
  statics := none }

def pool3 : Array CpInfo := pool [(1, .class_ 2), (0, u "java/io/Serializable"), (0, .class_ 4), (0, u "java/lang/Object")] 2

/-- java/io/Serializable -/
def k3 : Class := { plain "java/io/Serializable" (some 0) with
  accessFlags := 1537
  interfaces := #[]
  cf := some (fileOf pool3 1 #[] #[] 1537 3 #[] #[])
  fields := #[]
  methods := #[]
  instanceTypes := #[]
  staticTypes := #[]
  resolved := Array.replicate 7 none
  statics := none }

def pool4 : Array CpInfo := pool [(1, .methodref 2 3), (0, .class_ 4), (0, .nameAndType 5 6), (0, u "java/lang/Object"), (0, u "<init>"), (0, u "()V"), (1, .class_ 10), (1, u "java/lang/Number"), (2, .class_ 14), (0, u "java/io/Serializable"), (0, u "serialVersionUID"), (0, u "J")] 20

def k4c0 : Code := { maxStack := 1, maxLocals := 1, code := jdk_18_method_1_code, exceptionTable := #[], attributes := #[] }
def k4m0 : Method := { name := "<init>", desc := "()V", sig := { parameters := [], returnType := none }, accessFlags := 1, code := some k4c0 }
/-- java/lang/Number -/
def k4 : Class := { plain "java/lang/Number" (some 0) with
  accessFlags := 1057
  interfaces := #[3]
  cf := some (fileOf pool4 8 #[] #[{ accessFlags := 1, nameIndex := 5, descriptorIndex := 6, attributes := #[] }] 1057 2 #[13] #[{ accessFlags := 26, nameIndex := 15, descriptorIndex := 16, attributes := #[] }])
  fields := #[{ name := "serialVersionUID", type := .long, accessFlags := 26, slot := 0, constantValue := 0 }]
  methods := #[k4m0]
  instanceTypes := #[]
  staticTypes := #[.long]
  resolved := Array.replicate 37 none
  statics := none }

def pool5 : Array CpInfo := pool [(1, .class_ 2), (0, u "java/lang/Comparable"), (0, .class_ 4), (0, u "java/lang/Object")] 7

/-- java/lang/Comparable -/
def k5 : Class := { plain "java/lang/Comparable" (some 0) with
  accessFlags := 1537
  interfaces := #[]
  cf := some (fileOf pool5 1 #[] #[] 1537 3 #[] #[])
  fields := #[]
  methods := #[]
  instanceTypes := #[]
  staticTypes := #[]
  resolved := Array.replicate 12 none
  statics := none }

def pool6 : Array CpInfo := pool [(1, .class_ 2), (0, u "java/lang/constant/Constable"), (0, .class_ 4), (0, u "java/lang/Object")] 6

/-- java/lang/constant/Constable -/
def k6 : Class := { plain "java/lang/constant/Constable" (some 0) with
  accessFlags := 1537
  interfaces := #[]
  cf := some (fileOf pool6 1 #[] #[] 1537 3 #[] #[])
  fields := #[]
  methods := #[]
  instanceTypes := #[]
  staticTypes := #[]
  resolved := Array.replicate 11 none
  statics := none }

def pool7 : Array CpInfo := pool [(1, .class_ 2), (0, u "java/lang/constant/ConstantDesc"), (0, .class_ 4), (0, u "java/lang/Object")] 32

/-- java/lang/constant/ConstantDesc -/
def k7 : Class := { plain "java/lang/constant/ConstantDesc" (some 0) with
  accessFlags := 1537
  interfaces := #[]
  cf := some (fileOf pool7 1 #[] #[] 1537 3 #[] #[])
  fields := #[]
  methods := #[]
  instanceTypes := #[]
  staticTypes := #[]
  resolved := Array.replicate 37 none
  statics := none }

def pool8 : Array CpInfo := pool [(1, .class_ 2), (0, u "java/lang/Long"), (55, .nameAndType 59 60), (0, u "<init>"), (0, u "()V"), (24, u "valueOf"), (143, u "(J)Ljava/lang/Long;"), (0, .long 18446744073709551488), (1, .long 127), (1, .fieldref 235 236), (0, .class_ 237), (0, .nameAndType 238 239), (0, u "java/lang/Long$LongCache"), (0, u "cache"), (0, u "[Ljava/lang/Long;"), (0, .methodref 1 241), (0, .nameAndType 59 242), (0, u "(J)V"), (27, .methodref 271 58), (0, .class_ 272), (0, u "java/lang/Number"), (0, .fieldref 1 274), (0, .nameAndType 275 276), (0, u "value"), (0, u "J"), (84, u "TYPE"), (0, u "Ljava/lang/Class;"), (0, .class_ 364), (0, u "java/lang/Comparable"), (0, .class_ 366), (0, u "java/lang/constant/Constable"), (0, .class_ 368), (0, u "java/lang/constant/ConstantDesc"), (0, u "MIN_VALUE"), (1, u "MAX_VALUE"), (4, u "SIZE"), (0, u "I"), (1, u "BYTES"), (1, u "serialVersionUID")] 142

def k8c0 : Code := { maxStack := 4, maxLocals := 3, code := jdk_35_method_24_code, exceptionTable := #[], attributes := #[] }
def k8m0 : Method := { name := "valueOf", desc := "(J)Ljava/lang/Long;", sig := { parameters := [.long], returnType := some (.object "java/lang/Long") }, accessFlags := 9, code := some k8c0 }
def k8c1 : Code := { maxStack := 3, maxLocals := 3, code := jdk_35_method_26_code, exceptionTable := #[], attributes := #[] }
def k8m1 : Method := { name := "<init>", desc := "(J)V", sig := { parameters := [.long], returnType := none }, accessFlags := 1, code := some k8c1 }
/-- java/lang/Long -/
def k8 : Class := { plain "java/lang/Long" (some 4) with
  accessFlags := 49
  interfaces := #[5, 6, 7]
  cf := some (fileOf pool8 1 #[.nestMembers #[235]] #[{ accessFlags := 9, nameIndex := 85, descriptorIndex := 229, attributes := #[] }, { accessFlags := 1, nameIndex := 59, descriptorIndex := 242, attributes := #[] }] 49 271 #[363, 365, 367] #[{ accessFlags := 25, nameIndex := 369, descriptorIndex := 276, attributes := #[] }, { accessFlags := 25, nameIndex := 371, descriptorIndex := 276, attributes := #[] }, { accessFlags := 25, nameIndex := 361, descriptorIndex := 362, attributes := #[] }, { accessFlags := 18, nameIndex := 275, descriptorIndex := 276, attributes := #[] }, { accessFlags := 25, nameIndex := 376, descriptorIndex := 377, attributes := #[] }, { accessFlags := 25, nameIndex := 379, descriptorIndex := 377, attributes := #[] }, { accessFlags := 26, nameIndex := 381, descriptorIndex := 276, attributes := #[] }])
  fields := #[{ name := "MIN_VALUE", type := .long, accessFlags := 25, slot := 0, constantValue := 0 }, { name := "MAX_VALUE", type := .long, accessFlags := 25, slot := 1, constantValue := 0 }, { name := "TYPE", type := (.object "java/lang/Class"), accessFlags := 25, slot := 2, constantValue := 0 }, { name := "value", type := .long, accessFlags := 18, slot := 0, constantValue := 0 }, { name := "SIZE", type := .int, accessFlags := 25, slot := 3, constantValue := 0 }, { name := "BYTES", type := .int, accessFlags := 25, slot := 4, constantValue := 0 }, { name := "serialVersionUID", type := .long, accessFlags := 26, slot := 5, constantValue := 0 }]
  methods := #[k8m0, k8m1]
  instanceTypes := #[.long]
  staticTypes := #[.long, .long, (.object "java/lang/Class"), .int, .int, .long]
  resolved := Array.replicate 524 none
  statics := none }

def pool9 : Array CpInfo := pool [(2, .class_ 4), (1, u "java/lang/Object"), (0, u "<init>"), (0, u "()V"), (0, .class_ 8), (0, u "java/lang/Long"), (7, .class_ 18), (1, u "java/lang/Long$LongCache"), (0, u "$assertionsDisabled"), (0, u "Z"), (8, u "archivedCache"), (0, u "[Ljava/lang/Long;"), (7, u "cache")] 24

def k9m0 : Method := { name := "<init>", desc := "()V", sig := { parameters := [], returnType := none }, accessFlags := 2, code := none }
/-- java/lang/Long$LongCache -/
def k9 : Class := { plain "java/lang/Long$LongCache" (some 0) with
  accessFlags := 48
  interfaces := #[]
  cf := some (fileOf pool9 16 #[.nestHost 7] #[{ accessFlags := 2, nameIndex := 5, descriptorIndex := 6, attributes := #[] }] 48 2 #[] #[{ accessFlags := 24, nameIndex := 38, descriptorIndex := 30, attributes := #[] }, { accessFlags := 8, nameIndex := 29, descriptorIndex := 30, attributes := #[] }, { accessFlags := 4120, nameIndex := 19, descriptorIndex := 20, attributes := #[] }])
  fields := #[{ name := "cache", type := (.array (.object "java/lang/Long")), accessFlags := 24, slot := 0, constantValue := 0 }, { name := "archivedCache", type := (.array (.object "java/lang/Long")), accessFlags := 8, slot := 1, constantValue := 0 }, { name := "$assertionsDisabled", type := .boolean, accessFlags := 4120, slot := 2, constantValue := 0 }]
  methods := #[k9m0]
  instanceTypes := #[]
  staticTypes := #[(.array (.object "java/lang/Long")), (.array (.object "java/lang/Long")), .boolean]
  resolved := Array.replicate 63 none
  statics := some 0 }

def pool10 : Array CpInfo := pool [(1, u "java/lang/Cloneable"), (0, .class_ 1), (0, u "java/lang/Object"), (0, .class_ 3)] 3

/-- java/lang/Cloneable -/
def k10 : Class := { plain "java/lang/Cloneable" (some 0) with
  accessFlags := 1537
  interfaces := #[]
  cf := some (fileOf pool10 2 #[] #[] 1537 4 #[] #[])
  fields := #[]
  methods := #[]
  instanceTypes := #[]
  staticTypes := #[]
  resolved := Array.replicate 8 none
  statics := none }

/-- the primitive byte -/
def k11 : Class := { plain "byte" none with kind := .primitive 'B', accessFlags := 0x411 }
/-- [B -/
def k12 : Class := { plain "[B" (some 0) with kind := .array 11 .byte, interfaces := #[10, 3], accessFlags := 1041 }

/-- the primitive int -/
def k13 : Class := { plain "int" none with kind := .primitive 'I', accessFlags := 0x411 }
/-- [I -/
def k14 : Class := { plain "[I" (some 0) with kind := .array 13 .int, interfaces := #[10, 3], accessFlags := 1041 }

/-- [Ljava/lang/Long; -/
def k15 : Class := { plain "[Ljava/lang/Long;" (some 0) with kind := .array 8 (.object "java/lang/Long"), interfaces := #[10, 3], accessFlags := 1041 }

def heap : Heap := #[{ cls := 9, slots := #[.ref 1, .null, .int 0], vm := .statics 9 },
  { cls := 15, slots := #[.ref 2, .ref 3, .ref 4, .ref 5, .ref 6, .ref 7, .ref 8, .ref 9, .ref 10, .ref 11, .ref 12, .ref 13, .ref 14, .ref 15, .ref 16, .ref 17, .ref 18, .ref 19, .ref 20, .ref 21, .ref 22, .ref 23, .ref 24, .ref 25, .ref 26, .ref 27, .ref 28, .ref 29, .ref 30, .ref 31, .ref 32, .ref 33, .ref 34, .ref 35, .ref 36, .ref 37, .ref 38, .ref 39, .ref 40, .ref 41, .ref 42, .ref 43, .ref 44, .ref 45, .ref 46, .ref 47, .ref 48, .ref 49, .ref 50, .ref 51, .ref 52, .ref 53, .ref 54, .ref 55, .ref 56, .ref 57, .ref 58, .ref 59, .ref 60, .ref 61, .ref 62, .ref 63, .ref 64, .ref 65, .ref 66, .ref 67, .ref 68, .ref 69, .ref 70, .ref 71, .ref 72, .ref 73, .ref 74, .ref 75, .ref 76, .ref 77, .ref 78, .ref 79, .ref 80, .ref 81, .ref 82, .ref 83, .ref 84, .ref 85, .ref 86, .ref 87, .ref 88, .ref 89, .ref 90, .ref 91, .ref 92, .ref 93, .ref 94, .ref 95, .ref 96, .ref 97, .ref 98, .ref 99, .ref 100, .ref 101, .ref 102, .ref 103, .ref 104, .ref 105, .ref 106, .ref 107, .ref 108, .ref 109, .ref 110, .ref 111, .ref 112, .ref 113, .ref 114, .ref 115, .ref 116, .ref 117, .ref 118, .ref 119, .ref 120, .ref 121, .ref 122, .ref 123, .ref 124, .ref 125, .ref 126, .ref 127, .ref 128, .ref 129, .ref 130, .ref 131, .ref 132, .ref 133, .ref 134, .ref 135, .ref 136, .ref 137, .ref 138, .ref 139, .ref 140, .ref 141, .ref 142, .ref 143, .ref 144, .ref 145, .ref 146, .ref 147, .ref 148, .ref 149, .ref 150, .ref 151, .ref 152, .ref 153, .ref 154, .ref 155, .ref 156, .ref 157, .ref 158, .ref 159, .ref 160, .ref 161, .ref 162, .ref 163, .ref 164, .ref 165, .ref 166, .ref 167, .ref 168, .ref 169, .ref 170, .ref 171, .ref 172, .ref 173, .ref 174, .ref 175, .ref 176, .ref 177, .ref 178, .ref 179, .ref 180, .ref 181, .ref 182, .ref 183, .ref 184, .ref 185, .ref 186, .ref 187, .ref 188, .ref 189, .ref 190, .ref 191, .ref 192, .ref 193, .ref 194, .ref 195, .ref 196, .ref 197, .ref 198, .ref 199, .ref 200, .ref 201, .ref 202, .ref 203, .ref 204, .ref 205, .ref 206, .ref 207, .ref 208, .ref 209, .ref 210, .ref 211, .ref 212, .ref 213, .ref 214, .ref 215, .ref 216, .ref 217, .ref 218, .ref 219, .ref 220, .ref 221, .ref 222, .ref 223, .ref 224, .ref 225, .ref 226, .ref 227, .ref 228, .ref 229, .ref 230, .ref 231, .ref 232, .ref 233, .ref 234, .ref 235, .ref 236, .ref 237, .ref 238, .ref 239, .ref 240, .ref 241, .ref 242, .ref 243, .ref 244, .ref 245, .ref 246, .ref 247, .ref 248, .ref 249, .ref 250, .ref 251, .ref 252, .ref 253, .ref 254, .ref 255, .ref 256, .ref 257], vm := .none },
  { cls := 8, slots := #[.long (-128)], vm := .none },
  { cls := 8, slots := #[.long (-127)], vm := .none },
  { cls := 8, slots := #[.long (-126)], vm := .none },
  { cls := 8, slots := #[.long (-125)], vm := .none },
  { cls := 8, slots := #[.long (-124)], vm := .none },
  { cls := 8, slots := #[.long (-123)], vm := .none },
  { cls := 8, slots := #[.long (-122)], vm := .none },
  { cls := 8, slots := #[.long (-121)], vm := .none },
  { cls := 8, slots := #[.long (-120)], vm := .none },
  { cls := 8, slots := #[.long (-119)], vm := .none },
  { cls := 8, slots := #[.long (-118)], vm := .none },
  { cls := 8, slots := #[.long (-117)], vm := .none },
  { cls := 8, slots := #[.long (-116)], vm := .none },
  { cls := 8, slots := #[.long (-115)], vm := .none },
  { cls := 8, slots := #[.long (-114)], vm := .none },
  { cls := 8, slots := #[.long (-113)], vm := .none },
  { cls := 8, slots := #[.long (-112)], vm := .none },
  { cls := 8, slots := #[.long (-111)], vm := .none },
  { cls := 8, slots := #[.long (-110)], vm := .none },
  { cls := 8, slots := #[.long (-109)], vm := .none },
  { cls := 8, slots := #[.long (-108)], vm := .none },
  { cls := 8, slots := #[.long (-107)], vm := .none },
  { cls := 8, slots := #[.long (-106)], vm := .none },
  { cls := 8, slots := #[.long (-105)], vm := .none },
  { cls := 8, slots := #[.long (-104)], vm := .none },
  { cls := 8, slots := #[.long (-103)], vm := .none },
  { cls := 8, slots := #[.long (-102)], vm := .none },
  { cls := 8, slots := #[.long (-101)], vm := .none },
  { cls := 8, slots := #[.long (-100)], vm := .none },
  { cls := 8, slots := #[.long (-99)], vm := .none },
  { cls := 8, slots := #[.long (-98)], vm := .none },
  { cls := 8, slots := #[.long (-97)], vm := .none },
  { cls := 8, slots := #[.long (-96)], vm := .none },
  { cls := 8, slots := #[.long (-95)], vm := .none },
  { cls := 8, slots := #[.long (-94)], vm := .none },
  { cls := 8, slots := #[.long (-93)], vm := .none },
  { cls := 8, slots := #[.long (-92)], vm := .none },
  { cls := 8, slots := #[.long (-91)], vm := .none },
  { cls := 8, slots := #[.long (-90)], vm := .none },
  { cls := 8, slots := #[.long (-89)], vm := .none },
  { cls := 8, slots := #[.long (-88)], vm := .none },
  { cls := 8, slots := #[.long (-87)], vm := .none },
  { cls := 8, slots := #[.long (-86)], vm := .none },
  { cls := 8, slots := #[.long (-85)], vm := .none },
  { cls := 8, slots := #[.long (-84)], vm := .none },
  { cls := 8, slots := #[.long (-83)], vm := .none },
  { cls := 8, slots := #[.long (-82)], vm := .none },
  { cls := 8, slots := #[.long (-81)], vm := .none },
  { cls := 8, slots := #[.long (-80)], vm := .none },
  { cls := 8, slots := #[.long (-79)], vm := .none },
  { cls := 8, slots := #[.long (-78)], vm := .none },
  { cls := 8, slots := #[.long (-77)], vm := .none },
  { cls := 8, slots := #[.long (-76)], vm := .none },
  { cls := 8, slots := #[.long (-75)], vm := .none },
  { cls := 8, slots := #[.long (-74)], vm := .none },
  { cls := 8, slots := #[.long (-73)], vm := .none },
  { cls := 8, slots := #[.long (-72)], vm := .none },
  { cls := 8, slots := #[.long (-71)], vm := .none },
  { cls := 8, slots := #[.long (-70)], vm := .none },
  { cls := 8, slots := #[.long (-69)], vm := .none },
  { cls := 8, slots := #[.long (-68)], vm := .none },
  { cls := 8, slots := #[.long (-67)], vm := .none },
  { cls := 8, slots := #[.long (-66)], vm := .none },
  { cls := 8, slots := #[.long (-65)], vm := .none },
  { cls := 8, slots := #[.long (-64)], vm := .none },
  { cls := 8, slots := #[.long (-63)], vm := .none },
  { cls := 8, slots := #[.long (-62)], vm := .none },
  { cls := 8, slots := #[.long (-61)], vm := .none },
  { cls := 8, slots := #[.long (-60)], vm := .none },
  { cls := 8, slots := #[.long (-59)], vm := .none },
  { cls := 8, slots := #[.long (-58)], vm := .none },
  { cls := 8, slots := #[.long (-57)], vm := .none },
  { cls := 8, slots := #[.long (-56)], vm := .none },
  { cls := 8, slots := #[.long (-55)], vm := .none },
  { cls := 8, slots := #[.long (-54)], vm := .none },
  { cls := 8, slots := #[.long (-53)], vm := .none },
  { cls := 8, slots := #[.long (-52)], vm := .none },
  { cls := 8, slots := #[.long (-51)], vm := .none },
  { cls := 8, slots := #[.long (-50)], vm := .none },
  { cls := 8, slots := #[.long (-49)], vm := .none },
  { cls := 8, slots := #[.long (-48)], vm := .none },
  { cls := 8, slots := #[.long (-47)], vm := .none },
  { cls := 8, slots := #[.long (-46)], vm := .none },
  { cls := 8, slots := #[.long (-45)], vm := .none },
  { cls := 8, slots := #[.long (-44)], vm := .none },
  { cls := 8, slots := #[.long (-43)], vm := .none },
  { cls := 8, slots := #[.long (-42)], vm := .none },
  { cls := 8, slots := #[.long (-41)], vm := .none },
  { cls := 8, slots := #[.long (-40)], vm := .none },
  { cls := 8, slots := #[.long (-39)], vm := .none },
  { cls := 8, slots := #[.long (-38)], vm := .none },
  { cls := 8, slots := #[.long (-37)], vm := .none },
  { cls := 8, slots := #[.long (-36)], vm := .none },
  { cls := 8, slots := #[.long (-35)], vm := .none },
  { cls := 8, slots := #[.long (-34)], vm := .none },
  { cls := 8, slots := #[.long (-33)], vm := .none },
  { cls := 8, slots := #[.long (-32)], vm := .none },
  { cls := 8, slots := #[.long (-31)], vm := .none },
  { cls := 8, slots := #[.long (-30)], vm := .none },
  { cls := 8, slots := #[.long (-29)], vm := .none },
  { cls := 8, slots := #[.long (-28)], vm := .none },
  { cls := 8, slots := #[.long (-27)], vm := .none },
  { cls := 8, slots := #[.long (-26)], vm := .none },
  { cls := 8, slots := #[.long (-25)], vm := .none },
  { cls := 8, slots := #[.long (-24)], vm := .none },
  { cls := 8, slots := #[.long (-23)], vm := .none },
  { cls := 8, slots := #[.long (-22)], vm := .none },
  { cls := 8, slots := #[.long (-21)], vm := .none },
  { cls := 8, slots := #[.long (-20)], vm := .none },
  { cls := 8, slots := #[.long (-19)], vm := .none },
  { cls := 8, slots := #[.long (-18)], vm := .none },
  { cls := 8, slots := #[.long (-17)], vm := .none },
  { cls := 8, slots := #[.long (-16)], vm := .none },
  { cls := 8, slots := #[.long (-15)], vm := .none },
  { cls := 8, slots := #[.long (-14)], vm := .none },
  { cls := 8, slots := #[.long (-13)], vm := .none },
  { cls := 8, slots := #[.long (-12)], vm := .none },
  { cls := 8, slots := #[.long (-11)], vm := .none },
  { cls := 8, slots := #[.long (-10)], vm := .none },
  { cls := 8, slots := #[.long (-9)], vm := .none },
  { cls := 8, slots := #[.long (-8)], vm := .none },
  { cls := 8, slots := #[.long (-7)], vm := .none },
  { cls := 8, slots := #[.long (-6)], vm := .none },
  { cls := 8, slots := #[.long (-5)], vm := .none },
  { cls := 8, slots := #[.long (-4)], vm := .none },
  { cls := 8, slots := #[.long (-3)], vm := .none },
  { cls := 8, slots := #[.long (-2)], vm := .none },
  { cls := 8, slots := #[.long (-1)], vm := .none },
  { cls := 8, slots := #[.long 0], vm := .none },
  { cls := 8, slots := #[.long 1], vm := .none },
  { cls := 8, slots := #[.long 2], vm := .none },
  { cls := 8, slots := #[.long 3], vm := .none },
  { cls := 8, slots := #[.long 4], vm := .none },
  { cls := 8, slots := #[.long 5], vm := .none },
  { cls := 8, slots := #[.long 6], vm := .none },
  { cls := 8, slots := #[.long 7], vm := .none },
  { cls := 8, slots := #[.long 8], vm := .none },
  { cls := 8, slots := #[.long 9], vm := .none },
  { cls := 8, slots := #[.long 10], vm := .none },
  { cls := 8, slots := #[.long 11], vm := .none },
  { cls := 8, slots := #[.long 12], vm := .none },
  { cls := 8, slots := #[.long 13], vm := .none },
  { cls := 8, slots := #[.long 14], vm := .none },
  { cls := 8, slots := #[.long 15], vm := .none },
  { cls := 8, slots := #[.long 16], vm := .none },
  { cls := 8, slots := #[.long 17], vm := .none },
  { cls := 8, slots := #[.long 18], vm := .none },
  { cls := 8, slots := #[.long 19], vm := .none },
  { cls := 8, slots := #[.long 20], vm := .none },
  { cls := 8, slots := #[.long 21], vm := .none },
  { cls := 8, slots := #[.long 22], vm := .none },
  { cls := 8, slots := #[.long 23], vm := .none },
  { cls := 8, slots := #[.long 24], vm := .none },
  { cls := 8, slots := #[.long 25], vm := .none },
  { cls := 8, slots := #[.long 26], vm := .none },
  { cls := 8, slots := #[.long 27], vm := .none },
  { cls := 8, slots := #[.long 28], vm := .none },
  { cls := 8, slots := #[.long 29], vm := .none },
  { cls := 8, slots := #[.long 30], vm := .none },
  { cls := 8, slots := #[.long 31], vm := .none },
  { cls := 8, slots := #[.long 32], vm := .none },
  { cls := 8, slots := #[.long 33], vm := .none },
  { cls := 8, slots := #[.long 34], vm := .none },
  { cls := 8, slots := #[.long 35], vm := .none },
  { cls := 8, slots := #[.long 36], vm := .none },
  { cls := 8, slots := #[.long 37], vm := .none },
  { cls := 8, slots := #[.long 38], vm := .none },
  { cls := 8, slots := #[.long 39], vm := .none },
  { cls := 8, slots := #[.long 40], vm := .none },
  { cls := 8, slots := #[.long 41], vm := .none },
  { cls := 8, slots := #[.long 42], vm := .none },
  { cls := 8, slots := #[.long 43], vm := .none },
  { cls := 8, slots := #[.long 44], vm := .none },
  { cls := 8, slots := #[.long 45], vm := .none },
  { cls := 8, slots := #[.long 46], vm := .none },
  { cls := 8, slots := #[.long 47], vm := .none },
  { cls := 8, slots := #[.long 48], vm := .none },
  { cls := 8, slots := #[.long 49], vm := .none },
  { cls := 8, slots := #[.long 50], vm := .none },
  { cls := 8, slots := #[.long 51], vm := .none },
  { cls := 8, slots := #[.long 52], vm := .none },
  { cls := 8, slots := #[.long 53], vm := .none },
  { cls := 8, slots := #[.long 54], vm := .none },
  { cls := 8, slots := #[.long 55], vm := .none },
  { cls := 8, slots := #[.long 56], vm := .none },
  { cls := 8, slots := #[.long 57], vm := .none },
  { cls := 8, slots := #[.long 58], vm := .none },
  { cls := 8, slots := #[.long 59], vm := .none },
  { cls := 8, slots := #[.long 60], vm := .none },
  { cls := 8, slots := #[.long 61], vm := .none },
  { cls := 8, slots := #[.long 62], vm := .none },
  { cls := 8, slots := #[.long 63], vm := .none },
  { cls := 8, slots := #[.long 64], vm := .none },
  { cls := 8, slots := #[.long 65], vm := .none },
  { cls := 8, slots := #[.long 66], vm := .none },
  { cls := 8, slots := #[.long 67], vm := .none },
  { cls := 8, slots := #[.long 68], vm := .none },
  { cls := 8, slots := #[.long 69], vm := .none },
  { cls := 8, slots := #[.long 70], vm := .none },
  { cls := 8, slots := #[.long 71], vm := .none },
  { cls := 8, slots := #[.long 72], vm := .none },
  { cls := 8, slots := #[.long 73], vm := .none },
  { cls := 8, slots := #[.long 74], vm := .none },
  { cls := 8, slots := #[.long 75], vm := .none },
  { cls := 8, slots := #[.long 76], vm := .none },
  { cls := 8, slots := #[.long 77], vm := .none },
  { cls := 8, slots := #[.long 78], vm := .none },
  { cls := 8, slots := #[.long 79], vm := .none },
  { cls := 8, slots := #[.long 80], vm := .none },
  { cls := 8, slots := #[.long 81], vm := .none },
  { cls := 8, slots := #[.long 82], vm := .none },
  { cls := 8, slots := #[.long 83], vm := .none },
  { cls := 8, slots := #[.long 84], vm := .none },
  { cls := 8, slots := #[.long 85], vm := .none },
  { cls := 8, slots := #[.long 86], vm := .none },
  { cls := 8, slots := #[.long 87], vm := .none },
  { cls := 8, slots := #[.long 88], vm := .none },
  { cls := 8, slots := #[.long 89], vm := .none },
  { cls := 8, slots := #[.long 90], vm := .none },
  { cls := 8, slots := #[.long 91], vm := .none },
  { cls := 8, slots := #[.long 92], vm := .none },
  { cls := 8, slots := #[.long 93], vm := .none },
  { cls := 8, slots := #[.long 94], vm := .none },
  { cls := 8, slots := #[.long 95], vm := .none },
  { cls := 8, slots := #[.long 96], vm := .none },
  { cls := 8, slots := #[.long 97], vm := .none },
  { cls := 8, slots := #[.long 98], vm := .none },
  { cls := 8, slots := #[.long 99], vm := .none },
  { cls := 8, slots := #[.long 100], vm := .none },
  { cls := 8, slots := #[.long 101], vm := .none },
  { cls := 8, slots := #[.long 102], vm := .none },
  { cls := 8, slots := #[.long 103], vm := .none },
  { cls := 8, slots := #[.long 104], vm := .none },
  { cls := 8, slots := #[.long 105], vm := .none },
  { cls := 8, slots := #[.long 106], vm := .none },
  { cls := 8, slots := #[.long 107], vm := .none },
  { cls := 8, slots := #[.long 108], vm := .none },
  { cls := 8, slots := #[.long 109], vm := .none },
  { cls := 8, slots := #[.long 110], vm := .none },
  { cls := 8, slots := #[.long 111], vm := .none },
  { cls := 8, slots := #[.long 112], vm := .none },
  { cls := 8, slots := #[.long 113], vm := .none },
  { cls := 8, slots := #[.long 114], vm := .none },
  { cls := 8, slots := #[.long 115], vm := .none },
  { cls := 8, slots := #[.long 116], vm := .none },
  { cls := 8, slots := #[.long 117], vm := .none },
  { cls := 8, slots := #[.long 118], vm := .none },
  { cls := 8, slots := #[.long 119], vm := .none },
  { cls := 8, slots := #[.long 120], vm := .none },
  { cls := 8, slots := #[.long 121], vm := .none },
  { cls := 8, slots := #[.long 122], vm := .none },
  { cls := 8, slots := #[.long 123], vm := .none },
  { cls := 8, slots := #[.long 124], vm := .none },
  { cls := 8, slots := #[.long 125], vm := .none },
  { cls := 8, slots := #[.long 126], vm := .none },
  { cls := 8, slots := #[.long 127], vm := .none }]
def classes : Array Class := #[k0, k1, k2, k3, k4, k5, k6, k7, k8, k9, k10, k11, k12, k13, k14, k15]
def interned : List (Array UInt16 × Addr) := []
def slotsUsed : Nat := 515
def theMethod : MethodId := ⟨1, 1⟩
def args0 : Array Value := #[.long 5, .int 7, .long 9, .long 1, .int 2, .int 0]
def aboutOver (below : List Frame) : State where
  vm := { classes := classes, interned := interned.toArray }
  heap := heap
  slotsUsed := slotsUsed
  threads := #[{ frames := .invoking theMethod args0 :: below }]
def below0 : List Frame := [.native { method := ⟨0, 0⟩, args := #[] }]
def about1 : State := aboutOver below0
def p0 : Program := .bare "" "" ""
def e0 : Env := launch0.env 0 0 0
theorem w_frames : about1.frames = Frame.invoking theMethod args0 :: below0 := rfl
set_option maxRecDepth 65536 in
theorem w_args : argsFit about1.vm theMethod args0 = true := by decide +kernel
set_option maxRecDepth 65536 in
theorem w_heap : heapFits about1 = true := by decide +kernel
set_option maxRecDepth 65536 in
theorem w_runnable : about1.curStatus? = some .runnable := by decide +kernel
set_option maxRecDepth 65536 in
theorem w_alone : about1.alone = true := by decide +kernel
set_option maxRecDepth 65536 in
theorem w_named : about1.methodNamed? x = some theMethod := by decide +kernel
set_option maxRecDepth 65536 in
theorem w_hears : about1.hears theMethod below0 = true := by decide +kernel
set_option maxRecDepth 65536 in
theorem w_ripe : about1.ripe theMethod args0 below0 = true := by decide +kernel
theorem w_running : about1.status = .running := rfl
set_option maxRecDepth 65536 in
theorem w_room : about1.hasRoom e0.platform room_1 = true :=
  launch0.hasRoom_least _ room_1 (by decide +kernel) (by decide +kernel) (by decide +kernel) (by decide +kernel) (by decide +kernel) (by decide +kernel)
theorem allAtoms_all (ts : List Jvm.Cond) (a : Array Jvm.Value) (st : Jvm.State) : (allAtoms ts).before a st = ts.all (fun c => c.before a st) := by
  induction ts with
  | nil => rfl
  | cons c t ih =>
    show (Jvm.Cond.and c (allAtoms t)).before a st = _
    rw [Jvm.Cond.before_and, ih, List.all_cons]
def words1 : List Jvm.Cond := Jvm.Cond.code x code maxLocals ret :: tables_1
/-- a 'code' word, met by the world's own term for the bytes: nothing is compared byte by byte -/
theorem code_word {y : MethodName} {bytes : ByteArray} {mx : Nat} {rt : Option FieldType} {a : Array Value} {s : State} {m : MethodId} {meth : Method} {c : Code} (h1 : s.methodNamed? y = some m) (h2 : s.vm.method? m = some meth) (h3 : meth.code = some c) (h4 : c.code = bytes)
    (h5 : (c.maxLocals == mx && c.exceptionTable.isEmpty && decide (c.maxStack ≤ mostOperands) && decide (meth.sig.returnType = rt) && !meth.locks && decide (parseMethodDescriptor y.desc = some meth.sig)) = true) : (Jvm.Cond.code y bytes mx rt).before a s = true := by
  simp only [Bool.and_eq_true, beq_iff_eq, Bool.not_eq_true', decide_eq_true_eq] at h5
  obtain ⟨⟨⟨⟨⟨g1, g2⟩, g3⟩, g4⟩, g5⟩, g6⟩ := h5
  simp [Cond.before, Cond.holds, Cond.value, h1, h2, h3, h4, g1, g2, g3, g4, g5, g6]
def isCode : Jvm.Cond → Bool
  | .code _ _ _ _ => true
  | _ => false
theorem all_split {L : List Jvm.Cond} {P : Jvm.Cond → Bool} (h1 : L.all (fun c => isCode c || P c) = true) (h2 : ∀ c ∈ L.filter isCode, P c = true) : L.all P = true := by
  refine List.all_eq_true.mpr fun c hc => ?_
  have h := List.all_eq_true.mp h1 c hc
  rcases Bool.eq_false_or_eq_true (isCode c) with hi | hi
  · exact h2 c (List.mem_filter.mpr ⟨hc, hi⟩)
  · simpa [hi] using h
set_option maxRecDepth 65536 in
theorem w_c0 : (Jvm.Cond.code x code maxLocals ret).before args0 about1 = true := code_word (m := ⟨1, 1⟩) (meth := k1m1) (c := k1c1) (by decide +kernel) rfl rfl rfl (by decide +kernel)
set_option maxRecDepth 65536 in
theorem w_c1 : (Jvm.Cond.code ({ cls := "com/example/iron_log/ironlog/consumequeue/QueueEntry", name := "<init>", desc := "(JIJ)V" } : Jvm.MethodName) prog_44_method_1_code (6 : Nat) (Option.none : Option Jvm.ClassFile.FieldType)).before args0 about1 = true := code_word (m := ⟨2, 0⟩) (meth := k2m0) (c := k2c0) (by decide +kernel) rfl rfl rfl (by decide +kernel)
set_option maxRecDepth 65536 in
theorem w_c2 : (Jvm.Cond.code ({ cls := "java/lang/Object", name := "<init>", desc := "()V" } : Jvm.MethodName) object_method_1_code (1 : Nat) (Option.none : Option Jvm.ClassFile.FieldType)).before args0 about1 = true := code_word (m := ⟨0, 0⟩) (meth := k0m0) (c := k0c0) (by decide +kernel) rfl rfl rfl (by decide +kernel)
set_option maxRecDepth 65536 in
theorem w_c3 : (Jvm.Cond.code ({ cls := "com/example/iron_log/ironlog/consumequeue/QueueEntry", name := "equals", desc := "(Ljava/lang/Object;)Z" } : Jvm.MethodName) prog_44_method_13_code (3 : Nat) (Option.some Jvm.ClassFile.FieldType.boolean)).before args0 about1 = true := code_word (m := ⟨2, 1⟩) (meth := k2m1) (c := k2c1) (by decide +kernel) rfl rfl rfl (by decide +kernel)
set_option maxRecDepth 65536 in
theorem w_c4 : (Jvm.Cond.code ({ cls := "java/lang/Long", name := "valueOf", desc := "(J)Ljava/lang/Long;" } : Jvm.MethodName) jdk_35_method_24_code (3 : Nat) (Option.some (Jvm.ClassFile.FieldType.object "java/lang/Long"))).before args0 about1 = true := code_word (m := ⟨8, 0⟩) (meth := k8m0) (c := k8c0) (by decide +kernel) rfl rfl rfl (by decide +kernel)
set_option maxRecDepth 65536 in
theorem w_c5 : (Jvm.Cond.code ({ cls := "java/lang/Long", name := "<init>", desc := "(J)V" } : Jvm.MethodName) jdk_35_method_26_code (3 : Nat) (Option.none : Option Jvm.ClassFile.FieldType)).before args0 about1 = true := code_word (m := ⟨8, 1⟩) (meth := k8m1) (c := k8c1) (by decide +kernel) rfl rfl rfl (by decide +kernel)
set_option maxRecDepth 65536 in
theorem w_c6 : (Jvm.Cond.code ({ cls := "java/lang/Number", name := "<init>", desc := "()V" } : Jvm.MethodName) jdk_18_method_1_code (1 : Nat) (Option.none : Option Jvm.ClassFile.FieldType)).before args0 about1 = true := code_word (m := ⟨4, 0⟩) (meth := k4m0) (c := k4c0) (by decide +kernel) rfl rfl rfl (by decide +kernel)
def codes1 : List Jvm.Cond := [Jvm.Cond.code x code maxLocals ret, Jvm.Cond.code ({ cls := "com/example/iron_log/ironlog/consumequeue/QueueEntry", name := "<init>", desc := "(JIJ)V" } : Jvm.MethodName) prog_44_method_1_code (6 : Nat) (Option.none : Option Jvm.ClassFile.FieldType), Jvm.Cond.code ({ cls := "java/lang/Object", name := "<init>", desc := "()V" } : Jvm.MethodName) object_method_1_code (1 : Nat) (Option.none : Option Jvm.ClassFile.FieldType), Jvm.Cond.code ({ cls := "com/example/iron_log/ironlog/consumequeue/QueueEntry", name := "equals", desc := "(Ljava/lang/Object;)Z" } : Jvm.MethodName) prog_44_method_13_code (3 : Nat) (Option.some Jvm.ClassFile.FieldType.boolean), Jvm.Cond.code ({ cls := "java/lang/Long", name := "valueOf", desc := "(J)Ljava/lang/Long;" } : Jvm.MethodName) jdk_35_method_24_code (3 : Nat) (Option.some (Jvm.ClassFile.FieldType.object "java/lang/Long")), Jvm.Cond.code ({ cls := "java/lang/Long", name := "<init>", desc := "(J)V" } : Jvm.MethodName) jdk_35_method_26_code (3 : Nat) (Option.none : Option Jvm.ClassFile.FieldType), Jvm.Cond.code ({ cls := "java/lang/Number", name := "<init>", desc := "()V" } : Jvm.MethodName) jdk_18_method_1_code (1 : Nat) (Option.none : Option Jvm.ClassFile.FieldType)]
set_option maxRecDepth 65536 in
theorem codes_eq : words1.filter isCode = codes1 := rfl
theorem w_codes : ∀ c ∈ words1.filter isCode, c.before args0 about1 = true := by
  rw [codes_eq]
  intro c hc
  simp only [codes1, List.mem_cons, List.not_mem_nil, or_false] at hc
  rcases hc with rfl | rfl | rfl | rfl | rfl | rfl | rfl
  · exact w_c0
  · exact w_c1
  · exact w_c2
  · exact w_c3
  · exact w_c4
  · exact w_c5
  · exact w_c6
set_option maxRecDepth 65536 in
theorem w_t1 : (words1.take 24).all (fun c => isCode c || c.before args0 about1) = true := by decide +kernel
set_option maxRecDepth 65536 in
theorem w_t2 : ((words1.drop 24).take 24).all (fun c => isCode c || c.before args0 about1) = true := by decide +kernel
set_option maxRecDepth 65536 in
theorem w_t3 : ((words1.drop 24).drop 24).all (fun c => isCode c || c.before args0 about1) = true := by decide +kernel
theorem w_tables : (allAtoms (Jvm.Cond.code x code maxLocals ret :: tables_1)).before args0 about1 = true := by
  rw [allAtoms_all]
  show words1.all (fun c => c.before args0 about1) = true
  refine all_split ?_ w_codes
  rw [← List.take_append_drop 24 words1, List.all_append, w_t1, ← List.take_append_drop 24 (words1.drop 24), List.all_append, w_t2, w_t3]
  rfl
set_option maxRecDepth 65536 in
theorem w_rest : rest_1_c.before args0 about1 = true := by decide +kernel
set_option maxRecDepth 65536 in
theorem w_case : (Jvm.Cond.and given_1 narrow_1).before args0 about1 = true := by decide +kernel
theorem w_applies : (headSpec (Jvm.Cond.code x code maxLocals ret :: tables_1) room_1).applies x e0.platform about1 = true :=
  (Spec.applies_iff w_frames).mpr ⟨w_running, w_runnable, w_alone, w_named, w_hears, w_ripe, w_room, w_tables⟩
theorem atStart : AtStart classFile x code maxLocals ret World_1 tables_1 room_1 Calls_1 rest_1 Pre_1 launch0 p0 e0 about1 theMethod args0 below0 :=
  ⟨lists_1, trivial, launch0.admits_env _ _ _, launch0.least_env, fairChoices_fair.cas, fairChoices_fair.clock, w_frames, w_args, w_heap, w_applies, trivial, w_rest, w_case⟩
end start1
theorem witness_1 : WitnessClaimed_1 := ⟨start1.p0, start1.e0, start1.about1, start1.theMethod, start1.args0, start1.below0, start1.atStart⟩
end Jvm.Pilot.@@N@@
